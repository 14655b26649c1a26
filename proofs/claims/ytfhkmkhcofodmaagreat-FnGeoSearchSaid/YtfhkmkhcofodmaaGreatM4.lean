/- Parts of a proof, in order: what each says stands at its head. No conditions. -/
import Derived.ChangeKeysEq
import Derived.DeepKeys
import Derived.KernelRfl
import Derived.Test.YtfhkmkhcofodmaaGreatM3
import Derived.Test.YtfhkmkhcofodmaaGreatM1
import Derived.Test.YtfhkmkhcofodmaaGreatM2
namespace Go.Fl
open Ieee
theorem b9e(neg:Bool)(n drop:Nat)(h:2*n=(2*Toward.even.cut neg n drop+1)*2 ^ drop∨2*n+2 ^ drop=2*Toward.even.cut neg n drop*2 ^ drop):Toward.even.cut neg n drop % 2=0:=by
 unfold Toward.cut at *;simp only[Nat.shiftLeft_eq,Nat.one_mul]at *;by_cases hd:drop<=n.log2+2
 ·rw[Nat.min_eq_left hd]at *;have hg:0<2 ^ drop:=Nat.two_pow_pos _;have hdm:=Nat.div_add_mod n (2 ^ drop);have hlt:=Nat.mod_lt n hg;generalize 2 ^ drop=g at *;have hm:g*(n / g)=n / g*g:=Nat.mul_comm _ _;rw[hm]at hdm;generalize n / g=q at *;generalize n % g=r at *;by_cases h1:g<2*r
  ·exfalso;simp only[h1,decide_true,Bool.true_or,Bool.toNat_true]at h;have e1:(2*(q+1)+1)*g=2*(q*g)+3*g:=by rw[Nat.add_mul,Nat.mul_assoc,Nat.add_mul];omega
   have e2:2*(q+1)*g=2*(q*g)+2*g:=by rw[Nat.mul_assoc,Nat.add_mul];omega
   omega
  ·by_cases h2:g=2*r
   ·have e2:(g==2*r)=true:=by simp[h2]
    have e1:(decide (g<2*r))=false:=by simp[h1]
    by_cases h3:q % 2=1
    ·have e3:(q % 2==1)=true:=by simp[h3]
     simp only[e1,e2,e3,Bool.false_or,Bool.true_and,Bool.toNat_true];omega
    ·have e3:(q % 2==1)=false:=by simp[h3]
     simp only[e1,e3,Bool.and_false,Bool.or_false,Bool.toNat_false];omega
   ·exfalso;have e2:(g==2*r)=false:=by simp[h2]
    have e1:(decide (g<2*r))=false:=by simp[h1]
    simp only[e1,e2,Bool.false_and,Bool.or_false,Bool.toNat_false,Nat.add_zero]at h;have e3:(2*q+1)*g=2*(q*g)+g:=by rw[Nat.add_mul,Nat.mul_assoc];omega
    have e4:2*q*g=2*(q*g):=by rw[Nat.mul_assoc]
    omega
 ·have hd':n.log2+2<drop:=by omega
  rw[Nat.min_eq_right (by omega)];have h1:n<2 ^ (n.log2+1):=Nat.lt_log2_self;have h2:2 ^ (n.log2+2)=2*2 ^ (n.log2+1):=by rw[Nat.pow_succ];omega
  have h4:n / 2 ^ (n.log2+2)=0:=Nat.div_eq_of_lt (by omega);have h5:n % 2 ^ (n.log2+2)=n:=Nat.mod_eq_of_lt (by omega);rw[h4,h5];have h6:¬2 ^ (n.log2+2)<2*n:=by omega
  have h7:(2 ^ (n.log2+2)==2*n)=false:=by simp;omega
  simp only[h6,h7,decide_false,Bool.false_and,Bool.or_false,Bool.toNat_false,Nat.add_zero]
structure Z3 (kept E A B u:Nat):Prop where
 lo:2 ^ 52<=kept
 hi:kept<=2 ^ 53
 up:(2*kept)*(2 ^ E*B)<=2*(A*u)+2 ^ E*B
 dn:2*(A*u)<=(2*kept)*(2 ^ E*B)+2 ^ E*B
 bl:2 ^ 52*(2 ^ E*B)<=A*u
 bh:A*u<2 ^ 53*(2 ^ E*B)
 tie:2*(A*u)=(2*kept)*(2 ^ E*B)+2 ^ E*B∨2*(A*u)+2 ^ E*B=(2*kept)*(2 ^ E*B)->kept % 2=0
theorem b4z{m n z7 Q g kept:Nat}(hn:0<n)(hQ:Q=2*(m*2 ^ z7 / n)+(m*2 ^ z7 % n != 0).toNat){D:Nat}(hD:2<=D)(hg:g=2 ^ D)(h1:2*(kept*g)<=2*Q+g)(h2:2*Q<=2*(kept*g)+g)
  (ht:2*Q=(2*kept+1)*g∨2*Q+g=2*kept*g->kept % 2=0) (hl:2 ^ 52*g<=Q) (hh:Q<2 ^ 53*g) :
  (2*kept)*(g*n)<=2*(2*(m*2 ^ z7))+g*n/\2*(2*(m*2 ^ z7))<=(2*kept)*(g*n)+g*n/\2 ^ 52*(g*n)<=2*(m*2 ^ z7)/\2*(m*2 ^ z7)<2 ^ 53*(g*n)/\
  (2*(2*(m*2 ^ z7))=(2*kept)*(g*n)+g*n∨2*(2*(m*2 ^ z7))+g*n=(2*kept)*(g*n)->kept % 2=0):=by
 generalize hdv:m*2 ^ z7=dv at *;have hdm:=Nat.div_add_mod dv n;have hlt:=Nat.mod_lt dv hn;generalize dv / n=q at *;generalize dv % n=r at *;obtain⟨g4,hg4⟩:∃ g4,g=4*g4:=⟨2 ^ (D-2),by rw[hg];have e:2 ^ D=2 ^ (2+(D-2)):=(by congr 1;omega);rw[e,Nat.pow_add]⟩;by_cases hr:r=0
 ·
  have hQ':Q=2*q:=by rw[hQ,hr];rfl
  have hY:2*dv=Q*n:=by rw[hQ',Nat.mul_assoc,Nat.mul_comm q n];omega
  rw[hY];refine⟨?_,?_,?_,?_,?_⟩
  ·have:=Nat.mul_le_mul_right n h1
   calc 2*kept*(g*n)=2*(kept*g)*n:=by ac_rfl
    _<=(2*Q+g)*n:=this
    _=_:=by rw[Nat.add_mul,Nat.mul_assoc]
  ·have:=Nat.mul_le_mul_right n h2
   calc 2*(Q*n)=2*Q*n:=by ac_rfl
    _<=(2*(kept*g)+g)*n:=this
    _=_:=by rw[Nat.add_mul];congr 1;ac_rfl
  ·calc 2 ^ 52*(g*n)=2 ^ 52*g*n:=by ac_rfl
    _<=Q*n:=Nat.mul_le_mul_right n hl
  ·calc Q*n<2 ^ 53*g*n:=Nat.mul_lt_mul_of_pos_right hh hn
    _=_:=by ac_rfl
  ·rintro(h|h)
   ·refine ht (.inl (Nat.eq_of_mul_eq_mul_right hn ?_))
    calc 2*Q*n=2*(Q*n):=by ac_rfl
     _=_:=h
     _=_:=by rw[Nat.add_mul,Nat.one_mul,Nat.add_mul];congr 1;ac_rfl
   ·refine ht (.inr (Nat.eq_of_mul_eq_mul_right hn ?_))
    calc (2*Q+g)*n=2*(Q*n)+g*n:=by rw[Nat.add_mul];congr 1;ac_rfl
     _=_:=h
     _=_:=by ac_rfl
 ·have hQ':Q=2*q+1:=by
   rw[hQ];have:(r != 0)=true:=by simp[hr]
   rw[this];rfl
  have hY1:(Q-1)*n<2*dv:=by
   rw[hQ',Nat.add_sub_cancel,Nat.mul_assoc,Nat.mul_comm q n];omega
  have hY2:2*dv<(Q+1)*n:=by
   have:(Q+1)*n=2*(n*q)+2*n:=by rw[hQ',Nat.add_mul,Nat.add_mul,Nat.mul_assoc,Nat.mul_comm q n];omega
   omega
  have hQ1:1<=Q:=by omega
  have f1:2*(kept*g)<=2*(Q-1)+g:=by
   have e1:kept*g=4*(kept*g4):=by rw[hg4];ac_rfl
   omega
  have f2:2*(Q+1)<=2*(kept*g)+g:=by
   have e1:kept*g=4*(kept*g4):=by rw[hg4];ac_rfl
   omega
  have s1:2*kept*(g*n)<2*(2*dv)+g*n:=by
   calc 2*kept*(g*n)=2*(kept*g)*n:=by ac_rfl
    _<=(2*(Q-1)+g)*n:=Nat.mul_le_mul_right n f1
    _=2*((Q-1)*n)+g*n:=by rw[Nat.add_mul,Nat.mul_assoc]
    _<_:=by omega
  have s2:2*(2*dv)<2*kept*(g*n)+g*n:=by
   calc 2*(2*dv)<2*((Q+1)*n):=by omega
    _=2*(Q+1)*n:=by ac_rfl
    _<=(2*(kept*g)+g)*n:=Nat.mul_le_mul_right n f2
    _=_:=by rw[Nat.add_mul];congr 1;ac_rfl
  refine⟨Nat.le_of_lt s1,Nat.le_of_lt s2,?_,?_,?_⟩
  ·have f3:2 ^ 52*g<=Q-1:=by
    have e1:2 ^ 52*g=4*(2 ^ 52*g4):=by rw[hg4];ac_rfl
    generalize 2 ^ 52*g4=z at *;omega
   calc 2 ^ 52*(g*n)=2 ^ 52*g*n:=by ac_rfl
    _<=(Q-1)*n:=Nat.mul_le_mul_right n f3
    _<=_:=Nat.le_of_lt hY1
  ·have f3:Q+1<=2 ^ 53*g:=by omega
   calc 2*dv<(Q+1)*n:=hY2
    _<=2 ^ 53*g*n:=Nat.mul_le_mul_right n f3
    _=_:=by ac_rfl
  ·rintro(h|h)
   ·exact absurd h (Nat.ne_of_lt s2)
   ·exact absurd h (Nat.ne_of_gt s1)
theorem a1L{n:Nat}(h:n≠0):2 ^ n.log2<=n/\n<2 ^ (n.log2+1):=⟨Nat.log2_self_le h,Nat.lt_log2_self⟩
theorem c2z{x y:Nat}{a b:Int}(hx:FI x a)(hy:FI y b)(ha:a≠0)(hb:b≠0)(hb2:b.natAbs<2 ^ 53)(ha2:a.natAbs<2 ^ 53) :
  ∃ r,double.div x y=some r/\Fin r/\∃ kept E,Z3 kept E a.natAbs b.natAbs (2 ^ U1)/\V r=if (decide (a<0) ^^ decide (b<0))then -((kept*2 ^ E:Nat):Int)else((kept*2 ^ E:Nat):Int):=by
 obtain⟨s,m,i,h1,h2,h3,hm⟩:=B6 hx.1;obtain⟨t,n,j,h4,h5,h6,hn⟩:=B6 hy.1;rw[hx.2]at h3;rw[hy.2]at h6
 have hma:m*2 ^ (i+1074).toNat=a.natAbs*2 ^ U1:=by
  have:=congrArg Int.natAbs h3;rw[C9,Int.natAbs_mul,C7]at this;exact this
 have hnb:n*2 ^ (j+1074).toNat=b.natAbs*2 ^ U1:=by
  have:=congrArg Int.natAbs h6;rw[C9,Int.natAbs_mul,C7]at this;exact this
 have ha':a.natAbs≠0:=by omega
 have hb':b.natAbs≠0:=by omega
 have hpos:∀ k:Nat,(2:Nat) ^ k≠0:=λk=>Nat.ne_of_gt (Nat.two_pow_pos _)
 have hm0:m≠0:=λe=>by
  rw[e,Nat.zero_mul]at hma;rcases Nat.mul_eq_zero.1 hma.symm with h|h
  ·exact ha' h
  ·exact hpos _ h
 have hn0:n≠0:=λe=>by
  rw[e,Nat.zero_mul]at hnb;rcases Nat.mul_eq_zero.1 hnb.symm with h|h
  ·exact hb' h
  ·exact hpos _ h
 have hi:=a1S h2 hm ha' hma;have hj:=a1S h5 hn hb' hnb;have hU:U1=1074:=rfl
 have hj2:j<53:=by
  rcases Int.lt_or_le j 53 with h|h
  ·exact h
  ·exfalso;obtain⟨c,hc⟩:∃ c:Nat,c=53:=⟨_,rfl⟩;have e1:(j+1074).toNat=U1+(j.toNat-c+c):=by rw[hU];omega
   rw[e1,Nat.pow_add,Nat.pow_add,Nat.mul_comm (2 ^ U1),<-Nat.mul_assoc]at hnb;have e2:=Nat.eq_of_mul_eq_mul_right (Nat.two_pow_pos _) hnb
   have e3:2 ^ c<=b.natAbs:=by
    rw[<-e2,<-Nat.mul_assoc];exact Nat.le_mul_of_pos_left _ (Nat.mul_pos (Nat.pos_of_ne_zero hn0) (Nat.two_pow_pos _))
   rw[hc]at e3;omega
 have hmi:i<53:=by
  rcases Int.lt_or_le i 53 with h|h
  ·exact h
  ·exfalso;obtain⟨c,hc⟩:∃ c:Nat,c=53:=⟨_,rfl⟩;have e1:(i+1074).toNat=U1+(i.toNat-c+c):=by rw[hU];omega
   rw[e1,Nat.pow_add,Nat.pow_add,Nat.mul_comm (2 ^ U1),<-Nat.mul_assoc]at hma;have e2:=Nat.eq_of_mul_eq_mul_right (Nat.two_pow_pos _) hma
   have e3:2 ^ c<=a.natAbs:=by
    rw[<-e2,<-Nat.mul_assoc];exact Nat.le_mul_of_pos_left _ (Nat.mul_pos (Nat.pos_of_ne_zero hm0) (Nat.two_pow_pos _))
   rw[hc]at e3;omega
 have hlm:m.log2<=52:=by
  have:=(Nat.log2_lt hm0).2 hm;omega
 have hln:n.log2<=52:=by
  have:=(Nat.log2_lt hn0).2 hn;omega
 have hmore:(52+2)+n.log2-m.log2=54+n.log2-m.log2:=rfl;generalize hmo:54+n.log2-m.log2=z7 at *
 let Q:=2*(m*2 ^ z7 / n)+(m*2 ^ z7 % n != 0).toNat
 have hQdef:Q=2*(m*2 ^ z7 / n)+(m*2 ^ z7 % n != 0).toNat:=rfl
 clear_value Q
 have hdiv:double.div x y=some (double.nearest (s ^^ t) Q (i-j-z7-1)):=by
  unfold Format.div;rw[h1,h4];simp only[Datum.quotient,hn0,if_false,frb,Option.map_some,Format.write];rw[show (52+2)+n.log2-m.log2=z7 from hmo,Nat.shiftLeft_eq,hQdef]
 have hq53:2 ^ 53<=m*2 ^ z7 / n:=by
  rw[Nat.le_div_iff_mul_le (Nat.pos_of_ne_zero hn0)];obtain⟨l1,_⟩:=a1L hm0;obtain⟨_,l4⟩:=a1L hn0;have e1:m.log2+z7=53+(n.log2+1):=by omega
  calc 2 ^ 53*n<=2 ^ 53*2 ^ (n.log2+1):=Nat.mul_le_mul_left _ (Nat.le_of_lt l4)
   _=2 ^ m.log2*2 ^ z7:=by rw[<-Nat.pow_add,<-Nat.pow_add,e1]
   _<=m*2 ^ z7:=Nat.mul_le_mul_right _ l1
 have hQ54:2 ^ 54<=Q:=by rw[hQdef];omega
 have hQ0:Q≠0:=by omega
 obtain⟨q1,q2⟩:=a1L hQ0;have hL54:54<=Q.log2:=by rw[Nat.le_log2 hQ0];exact hQ54
 have hLup:Q.log2<=161:=by
  have hQup:Q<2 ^ 162:=by
   have:m*2 ^ z7 / n<=m*2 ^ z7:=Nat.div_le_self _ _
   have h7:m*2 ^ z7<2 ^ 53*2 ^ 106:=by
    apply Nat.lt_of_lt_of_le (Nat.mul_lt_mul_of_pos_right hm (Nat.two_pow_pos _))
    exact Nat.mul_le_mul_left _ (Nat.pow_le_pow_right (by decide) (by omega))
   have h8:(m*2 ^ z7 % n != 0).toNat<=1:=Bool.toNat_le _;have h9:(2:Nat) ^ 53*2 ^ 106=2 ^ 159:=by decide
   have h10:(2:Nat) ^ 162=8*2 ^ 159:=by decide
   rw[h9]at h7;rw[hQdef,h10];generalize (2:Nat) ^ 159=z at *;omega
  have:=(Nat.log2_lt hQ0).2 hQup;omega
 generalize hpl:i-j-z7-1=place at *;have hplb : -300<=place/\place<=1100:=by omega
 have hlast:C5 Q place=place+Q.log2-52:=by unfold C5;omega
 obtain⟨n1,n2⟩:=a2r (s ^^ t) hQ0 (place:=place) (by omega);obtain⟨k1,k2⟩:=Z2 (s ^^ t) hQ0 place;have hk2:2 ^ 52<=I9 (s ^^ t) Q place:=k2.resolve_left (by rw[hlast];omega);have hD:(C5 Q place-place).toNat=Q.log2-52:=by rw[hlast];omega
 have hz:(place-C5 Q place).toNat=0:=by rw[hlast];omega
 have hkd:I9 (s ^^ t) Q place=Toward.even.cut (s ^^ t) Q (Q.log2-52):=by
  unfold I9;rw[hD,hz,Nat.shiftLeft_eq,Nat.pow_zero,Nat.mul_one]
 obtain⟨c1,c2⟩:=a3G (s ^^ t) Q (Q.log2-52);have c3:=b9e (s ^^ t) Q (Q.log2-52);rw[<-hkd]at c1 c2 c3;generalize I9 (s ^^ t) Q place=kept at *;have hlg:Q.log2=52+(Q.log2-52):=by omega
 have hl:2 ^ 52*2 ^ (Q.log2-52)<=Q:=by rw[<-Nat.pow_add,<-hlg];exact q1
 have hh:Q<2 ^ 53*2 ^ (Q.log2-52):=by rw[<-Nat.pow_add,show 53+(Q.log2-52)=Q.log2+1 by omega];exact q2
 obtain⟨r1,r2,r3,r4,r5⟩:=b4z (Nat.pos_of_ne_zero hn0) hQdef (D:=Q.log2-52) (by omega) rfl c1 c2 c3 hl hh;have hE:(C5 Q place+1074).toNat=(Q.log2-52)+(place+1074).toNat:=by rw[hlast];omega
 have hSc1:2 ^ (Q.log2-52)*n*2 ^ ((place+1074).toNat+(j+1074).toNat)=2 ^ (C5 Q place+1074).toNat*b.natAbs*2 ^ U1:=by
  rw[hE,Nat.pow_add,Nat.pow_add,Nat.mul_assoc (2 ^ _*2 ^ _),<-hnb];ac_rfl
 have hSc2:2*(m*2 ^ z7)*2 ^ ((place+1074).toNat+(j+1074).toNat)=a.natAbs*2 ^ U1*2 ^ U1:=by
  have e1:1+z7+((place+1074).toNat+(j+1074).toNat)=(i+1074).toNat+U1:=by rw[hU];omega
  calc 2*(m*2 ^ z7)*2 ^ ((place+1074).toNat+(j+1074).toNat)=m*(2 ^ 1*2 ^ z7*2 ^ ((place+1074).toNat+(j+1074).toNat)):=by rw[Nat.pow_one];ac_rfl
   _=m*2 ^ (1+z7+((place+1074).toNat+(j+1074).toNat)):=by rw[<-Nat.pow_add,<-Nat.pow_add]
   _=m*2 ^ (i+1074).toNat*2 ^ U1:=by rw[e1,Nat.pow_add,Nat.mul_assoc]
   _=_:=by rw[hma]
 refine⟨_,hdiv,n1,kept,(C5 Q place+1074).toNat,?_,?_⟩
 ·generalize (C5 Q place+1074).toNat=E at *;generalize 2 ^ ((place+1074).toNat+(j+1074).toNat)=Sc at *;generalize hY:2*(m*2 ^ z7)=Y at *;generalize hG:2 ^ (Q.log2-52)*n=G at *;have hu:0<2 ^ U1:=Nat.two_pow_pos _;generalize 2 ^ U1=u at *;generalize hP:2 ^ E*b.natAbs=Pw at *;have sc:∀ {p q:Nat},p*Sc=q*u->True:=λ_=>trivial
  have g1:∀ k,k*(Pw*u)=k*G*Sc:=λk=>by rw[<-hSc1];ac_rfl
  have g2:∀ k,k*(a.natAbs*u*u)=k*Y*Sc:=λk=>by rw[<-hSc2];ac_rfl
  have hle:∀ {p q:Nat},p*u<=q*u->p<=q:=λh=>Nat.le_of_mul_le_mul_right h hu
  refine⟨hk2,k1,?_,?_,?_,?_,?_⟩ <;> rw[hP]
  ·apply hle
   calc 2*kept*Pw*u=2*kept*G*Sc:=by rw[Nat.mul_assoc (2*kept),g1]
    _<=(2*Y+G)*Sc:=Nat.mul_le_mul_right _ r1
    _=2*(a.natAbs*u*u)+1*(Pw*u):=by rw[g1,g2,Nat.add_mul,Nat.one_mul]
    _=(2*(a.natAbs*u)+Pw)*u:=by rw[Nat.add_mul,Nat.one_mul];congr 1;ac_rfl
  ·apply hle
   calc 2*(a.natAbs*u)*u=2*(a.natAbs*u*u):=by ac_rfl
    _=2*Y*Sc:=by rw[g2]
    _<=(2*kept*G+G)*Sc:=Nat.mul_le_mul_right _ r2
    _=2*kept*(Pw*u)+1*(Pw*u):=by rw[g1,g1,Nat.add_mul,Nat.one_mul]
    _=_:=by rw[Nat.add_mul,Nat.one_mul];ac_rfl
  ·apply hle
   calc 2 ^ 52*Pw*u=2 ^ 52*G*Sc:=by rw[Nat.mul_assoc,g1]
    _<=Y*Sc:=Nat.mul_le_mul_right _ r3
    _=1*(a.natAbs*u*u):=by rw[g2,Nat.one_mul]
    _=_:=by rw[Nat.one_mul]
  ·have hSc0:0<Sc:=by
    rcases Nat.eq_zero_or_pos Sc with h|h
    ·exfalso;rw[h,Nat.mul_zero]at hSc2;have h9:0<a.natAbs*u*u:=Nat.mul_pos (Nat.mul_pos (by omega) hu) hu;omega
    ·exact h
   apply Nat.lt_of_mul_lt_mul_right (a:=u)
   calc a.natAbs*u*u=Y*Sc:=hSc2.symm
    _<2 ^ 53*G*Sc:=Nat.mul_lt_mul_of_pos_right r4 hSc0
    _=2 ^ 53*(Pw*u):=by rw[g1]
    _=_:=by ac_rfl
  ·have hSc0:0<Sc:=by
    rcases Nat.eq_zero_or_pos Sc with h|h
    ·exfalso;rw[h,Nat.mul_zero]at hSc2;have h9:0<a.natAbs*u*u:=Nat.mul_pos (Nat.mul_pos (by omega) hu) hu;omega
    ·exact h
   rintro(h|h)
   ·refine r5 (.inl (Nat.eq_of_mul_eq_mul_right hSc0 ?_))
    calc 2*Y*Sc=2*(a.natAbs*u*u):=(g2 2).symm
     _=2*(a.natAbs*u)*u:=by ac_rfl
     _=(2*kept*Pw+Pw)*u:=by rw[h]
     _=2*kept*(Pw*u)+1*(Pw*u):=by rw[Nat.add_mul,Nat.one_mul];ac_rfl
     _=2*kept*G*Sc+1*G*Sc:=by rw[g1,g1]
     _=_:=by rw[Nat.add_mul,Nat.one_mul]
   ·refine r5 (.inr (Nat.eq_of_mul_eq_mul_right hSc0 ?_))
    calc (2*Y+G)*Sc=2*(a.natAbs*u*u)+1*(Pw*u):=by rw[g1,g2,Nat.add_mul,Nat.one_mul]
     _=(2*(a.natAbs*u)+Pw)*u:=by rw[Nat.add_mul,Nat.one_mul];ac_rfl
     _=2*kept*Pw*u:=by rw[h]
     _=2*kept*(Pw*u):=by ac_rfl
     _=_:=g1 _
 ·rw[n2]
  have sgn:∀ {s:Bool} {m k:Nat} {a:Int},a≠0->signed s m k=a*2 ^ U1->s=decide (a<0):=by
   intro s m k a ha h;have hp:=G1 U1;rw[J6]at h;cases s
   ·have h8:0<=a*2 ^ U1:=by rw[<-h];exact Int.natCast_nonneg _
    have:¬a<0:=λhneg=>by have:=Int.mul_neg_of_neg_of_pos hneg hp;omega
    exact(decide_eq_false this).symm
   ·have h9:a*2 ^ U1<=0:=by rw[<-h];exact Int.neg_nonpos_of_nonneg (Int.natCast_nonneg _)
    have:a<0:=by
     rcases Int.lt_or_le a 0 with h10|h10
     ·exact h10
     ·have:0<a:=by omega
      have:=Int.mul_pos this hp;omega
    exact(decide_eq_true this).symm
  rw[sgn ha h3,sgn hb h6]
section
variable {k E A B u l F C D:Nat}
theorem Z3.pos(h:Z3 k E A B u):0<k:=by have:=h.lo;omega
theorem b3h(h1:Z3 k E A B u)(h2:Z3 l F C D u)(_hB:0<B)(_hD:0<D)(hu:0<u)(hlt:A*D<C*B)(hs:A*D<=2 ^ 50):k*2 ^ E<l*2 ^ F:=by
 have e1:2 ^ 53*(k*2 ^ E*B)<=(2 ^ 53+1)*(A*u):=by
  have a1:=h1.up;have a2:=h1.bl;have a3:2*k*(2 ^ E*B)=2*(k*2 ^ E*B):=by ac_rfl
  rw[a3]at a1;generalize 2 ^ E*B=P at *;generalize k*2 ^ E*B=N at *;omega
 have e2:2 ^ 53*(C*u)<=2 ^ 53*(l*2 ^ F*D)+C*u:=by
  have a1:=h2.dn;have a2:=h2.bl;have a3:2*l*(2 ^ F*D)=2*(l*2 ^ F*D):=by ac_rfl
  rw[a3]at a1;generalize 2 ^ F*D=P at *;generalize l*2 ^ F*D=N at *;omega
 have f1:2 ^ 53*(k*2 ^ E)*(B*D)<=(2 ^ 53+1)*(A*D)*u:=by
  calc 2 ^ 53*(k*2 ^ E)*(B*D)=2 ^ 53*(k*2 ^ E*B)*D:=by ac_rfl
   _<=(2 ^ 53+1)*(A*u)*D:=Nat.mul_le_mul_right _ e1
   _=_:=by ac_rfl
 have f2:2 ^ 53*(C*B)*u<=2 ^ 53*(l*2 ^ F)*(B*D)+(C*B)*u:=by
  calc 2 ^ 53*(C*B)*u=2 ^ 53*(C*u)*B:=by ac_rfl
   _<=(2 ^ 53*(l*2 ^ F*D)+C*u)*B:=Nat.mul_le_mul_right _ e2
   _=_:=by rw[Nat.add_mul];congr 1 <;> ac_rfl
 have f3:(2 ^ 53+1)*(A*D)*u+(C*B)*u<2 ^ 53*(C*B)*u:=by
  rw[<-Nat.add_mul]
  apply Nat.mul_lt_mul_of_pos_right _ hu
  generalize A*D=X at *;generalize C*B=Y at *;omega
 have f4:2 ^ 53*(k*2 ^ E)*(B*D)<2 ^ 53*(l*2 ^ F)*(B*D):=by omega
 have f5:=Nat.lt_of_mul_lt_mul_right f4;exact Nat.lt_of_mul_lt_mul_left f5
theorem b8H(h1:Z3 k E A B u)(h2:Z3 l F C D u)(hB:0<B)(hD:0<D)(heq:A*D=C*B):k*2 ^ E=l*2 ^ F:=by
 have hX:A*u*D=C*u*B:=by
  calc A*u*D=A*D*u:=by ac_rfl
   _=C*B*u:=by rw[heq]
   _=_:=by ac_rfl
 have b1:2 ^ 52*(2 ^ E*(B*D))<=A*u*D:=by
  calc _=2 ^ 52*(2 ^ E*B)*D:=by ac_rfl
   _<=_:=Nat.mul_le_mul_right _ h1.bl
 have b2:A*u*D<2 ^ 53*(2 ^ E*(B*D)):=by
  calc _<2 ^ 53*(2 ^ E*B)*D:=Nat.mul_lt_mul_of_pos_right h1.bh hD
   _=_:=by ac_rfl
 have b3:2 ^ 52*(2 ^ F*(B*D))<=A*u*D:=by
  rw[hX]
  calc _=2 ^ 52*(2 ^ F*D)*B:=by ac_rfl
   _<=_:=Nat.mul_le_mul_right _ h2.bl
 have b4:A*u*D<2 ^ 53*(2 ^ F*(B*D)):=by
  rw[hX]
  calc _<2 ^ 53*(2 ^ F*D)*B:=Nat.mul_lt_mul_of_pos_right h2.bh hB
   _=_:=by ac_rfl
 have hlt:∀ {E F:Nat},2 ^ 52*(2 ^ F*(B*D))<=A*u*D->A*u*D<2 ^ 53*(2 ^ E*(B*D))->¬E<F:=by
  intro E F c1 c2 hEF;have c3:2 ^ (E+1)<=2 ^ F:=Nat.pow_le_pow_right (by decide) hEF;have c4:2 ^ (E+1)*(B*D)<=2 ^ F*(B*D):=Nat.mul_le_mul_right _ c3;have c5:2 ^ (E+1)*(B*D)=2*(2 ^ E*(B*D)):=by rw[Nat.pow_succ];ac_rfl
  rw[c5]at c4;generalize 2 ^ E*(B*D)=x at *;generalize 2 ^ F*(B*D)=y at *;omega
 have hEF:E=F:=Nat.le_antisymm (Nat.not_lt.1 (hlt (E:=F) (F:=E) b1 b4)) (Nat.not_lt.1 (hlt (E:=E) (F:=F) b3 b2));subst hEF
 have u1:2*k*(2 ^ E*(B*D))<=2*(A*u*D)+2 ^ E*(B*D):=by
  calc _=2*k*(2 ^ E*B)*D:=by ac_rfl
   _<=(2*(A*u)+2 ^ E*B)*D:=Nat.mul_le_mul_right _ h1.up
   _=_:=by rw[Nat.add_mul];congr 1 <;> ac_rfl
 have u2:2*(A*u*D)<=2*k*(2 ^ E*(B*D))+2 ^ E*(B*D):=by
  calc _=2*(A*u)*D:=by ac_rfl
   _<=(2*k*(2 ^ E*B)+2 ^ E*B)*D:=Nat.mul_le_mul_right _ h1.dn
   _=_:=by rw[Nat.add_mul];congr 1 <;> ac_rfl
 have u3:2*l*(2 ^ E*(B*D))<=2*(A*u*D)+2 ^ E*(B*D):=by
  rw[hX]
  calc _=2*l*(2 ^ E*D)*B:=by ac_rfl
   _<=(2*(C*u)+2 ^ E*D)*B:=Nat.mul_le_mul_right _ h2.up
   _=_:=by rw[Nat.add_mul];congr 1 <;> ac_rfl
 have u4:2*(A*u*D)<=2*l*(2 ^ E*(B*D))+2 ^ E*(B*D):=by
  rw[hX]
  calc _=2*(C*u)*B:=by ac_rfl
   _<=(2*l*(2 ^ E*D)+2 ^ E*D)*B:=Nat.mul_le_mul_right _ h2.dn
   _=_:=by rw[Nat.add_mul];congr 1 <;> ac_rfl
 have hP:0<2 ^ E*(B*D):=Nat.mul_pos (Nat.two_pow_pos _) (Nat.mul_pos hB hD)
 have t1:(2*(A*u*D)=2*k*(2 ^ E*(B*D))+2 ^ E*(B*D)∨2*(A*u*D)+2 ^ E*(B*D)=2*k*(2 ^ E*(B*D)))->k % 2=0:=by
  rintro(h|h)
  ·refine h1.tie (.inl (Nat.eq_of_mul_eq_mul_right hD ?_))
   calc 2*(A*u)*D=2*(A*u*D):=by ac_rfl
    _=_:=h
    _=_:=by rw[Nat.add_mul];congr 1 <;> ac_rfl
  ·refine h1.tie (.inr (Nat.eq_of_mul_eq_mul_right hD ?_))
   calc (2*(A*u)+2 ^ E*B)*D=2*(A*u*D)+2 ^ E*(B*D):=by rw[Nat.add_mul];congr 1 <;> ac_rfl
    _=_:=h
    _=_:=by ac_rfl
 have t2:(2*(A*u*D)=2*l*(2 ^ E*(B*D))+2 ^ E*(B*D)∨2*(A*u*D)+2 ^ E*(B*D)=2*l*(2 ^ E*(B*D)))->l % 2=0:=by
  rw[hX];rintro(h|h)
  ·refine h2.tie (.inl (Nat.eq_of_mul_eq_mul_right hB ?_))
   calc 2*(C*u)*B=2*(C*u*B):=by ac_rfl
    _=_:=h
    _=_:=by rw[Nat.add_mul];congr 1 <;> ac_rfl
  ·refine h2.tie (.inr (Nat.eq_of_mul_eq_mul_right hB ?_))
   calc (2*(C*u)+2 ^ E*D)*B=2*(C*u*B)+2 ^ E*(B*D):=by rw[Nat.add_mul];congr 1 <;> ac_rfl
    _=_:=h
    _=_:=by ac_rfl
 clear b1 b2 b3 b4 hlt hX h1 h2;generalize 2 ^ E*(B*D)=p at *;generalize A*u*D=X at *;congr 1
 have step:∀ k l:Nat,2*k*p<=2*X+p->2*X<=2*k*p+p->2*l*p<=2*X+p->((2*X=2*k*p+p∨2*X+p=2*k*p)->k % 2=0)->((2*X=2*l*p+p∨2*X+p=2*l*p)->l % 2=0)->¬k<l:=by
  intro k l v1 v2 v3 w1 w2 hkl;obtain⟨d,rfl⟩:∃ d,l=k+1+d:=⟨l-(k+1),by omega⟩;have x1:2*(k+1+d)*p=2*k*p+2*p+2*(d*p):=by rw[Nat.mul_add,Nat.mul_add,Nat.add_mul,Nat.add_mul,Nat.mul_assoc 2 d p]
  rw[x1]at v3 w2;have hd:d*p=0:=by omega
  have hd0:d=0:=by
   rcases Nat.mul_eq_zero.1 hd with h|h
   ·exact h
   ·omega
  subst hd0;have y1:=w1 (by left;omega);have y2:=w2 (by right;omega);omega
 exact Nat.le_antisymm (Nat.not_lt.1 (step l k u3 u4 u1 t2 t1)) (Nat.not_lt.1 (step k l u1 u2 u3 t1 t2))
end
def QV(v:Int)(a b:Int):Prop :=
 (a=0/\v=0)∨(a≠0/\∃ k E,Z3 k E a.natAbs b.natAbs (2 ^ U1)/\v=if (decide (a<0) ^^ decide (b<0))then -((k*2 ^ E:Nat):Int)else((k*2 ^ E:Nat):Int))
theorem c2O{x y:Nat}{a b:Int}(hx:FI x a)(hy:FI y b)(hb:b≠0)(hb2:b.natAbs<2 ^ 53)(ha2:a.natAbs<2 ^ 53):∃ r,double.div x y=some r/\Fin r/\QV (V r) a b:=by
 by_cases ha:a=0
 ·subst ha;obtain⟨s,m,i,h1,h2,h3,_⟩:=B6 hx.1;obtain⟨t,n,j,h4,h5,h6,_⟩:=B6 hy.1;rw[hx.2,Int.zero_mul]at h3;rw[hy.2]at h6
  have hm0:m=0:=by
   have:=congrArg Int.natAbs h3;rw[C9]at this;rcases Nat.mul_eq_zero.1 this with h|h
   ·exact h
   ·exact absurd h (Nat.ne_of_gt (Nat.two_pow_pos _))
  have hn0:n≠0:=λe=>by
   have:=congrArg Int.natAbs h6;rw[C9,e,Nat.zero_mul,Int.natAbs_mul,C7]at this;rcases Nat.mul_eq_zero.1 this.symm with h|h
   ·omega
   ·exact absurd h (Nat.ne_of_gt (Nat.two_pow_pos _))
  subst hm0;refine⟨double.word (s ^^ t) 0,?_,(P0 _).1, .inl ⟨rfl,?_⟩⟩
  ·unfold Format.div;rw[h1,h4];simp only[Datum.quotient,hn0,if_false,Option.map_some,Format.write,Nat.zero_shiftLeft,Nat.zero_div,Nat.zero_mod,bne_self_eq_false,Bool.toNat_false,Nat.mul_zero,Nat.add_zero];unfold Format.nearest;simp
  ·rw[(P0 _).2,Int.zero_mul]
 ·obtain⟨r,h1,h2,k,E,h3,h4⟩:=c2z hx hy ha hb hb2 ha2;exact⟨r,h1,h2, .inr ⟨ha,k,E,h3,h4⟩⟩
theorem a1u(a b:Int):a*b=if (decide (a<0) ^^ decide (b<0))then -((a.natAbs*b.natAbs:Nat):Int)else((a.natAbs*b.natAbs:Nat):Int):=by
 rw[Int.natCast_mul];by_cases hA:a<0 <;> by_cases hB:b<0
 ·have e1:(a.natAbs:Int) = -a:=by omega
  have e2:(b.natAbs:Int) = -b:=by omega
  simp only[hA,hB,decide_true,Bool.xor_self,Bool.false_eq_true,if_false,e1,e2,Int.neg_mul_neg]
 ·have e1:(a.natAbs:Int) = -a:=by omega
  have e2:(b.natAbs:Int)=b:=by omega
  simp only[hA,hB,decide_true,decide_false,Bool.xor_false,if_true,e1,e2,Int.neg_mul,Int.neg_neg]
 ·have e1:(a.natAbs:Int)=a:=by omega
  have e2:(b.natAbs:Int) = -b:=by omega
  simp only[hA,hB,decide_true,decide_false,Bool.false_xor,if_true,e1,e2,Int.mul_neg,Int.neg_neg]
 ·have e1:(a.natAbs:Int)=a:=by omega
  have e2:(b.natAbs:Int)=b:=by omega
  simp only[hA,hB,decide_false,Bool.xor_self,Bool.false_eq_true,if_false,e1,e2]
theorem b3m{v w a b c d:Int}(h1:QV v a b)(h2:QV w c d)(hb:b≠0)(hd:d≠0)(hs1:a.natAbs*d.natAbs<=2 ^ 50)(hs2:c.natAbs*b.natAbs<=2 ^ 50)(h:a*b*(d*d)<c*d*(b*b)):v<w:=by
 have hu:0<2 ^ U1:=Nat.two_pow_pos _;have hB:0<b.natAbs:=by omega
 have hD:0<d.natAbs:=by omega
 have sq:∀ x:Int,x*x=((x.natAbs*x.natAbs:Nat):Int):=λx=>by rw[a1u x x];simp
 rw[sq b,sq d,a1u a b,a1u c d]at h
 have key:∀ A B C D:Nat,A*B*(D*D)<C*D*(B*B)->A*D<C*B:=by
  intro A B C D hh
  have:A*D*(B*D)<C*B*(B*D):=by
   calc A*D*(B*D)=A*B*(D*D):=by ac_rfl
    _<_:=hh
    _=_:=by ac_rfl
  exact Nat.lt_of_mul_lt_mul_right this
 rcases h1 with⟨rfl,rfl⟩|⟨ha,k,E,hk,hv⟩ <;> rcases h2 with⟨rfl,rfl⟩|⟨hc,l,F,hl,hw⟩
 ·simp at h
 ·rw[hw];have hp:0<l*2 ^ F:=Nat.mul_pos hl.pos (Nat.two_pow_pos _);split
  ·rename_i hs;exfalso;simp only[hs,if_true,Int.natAbs_zero,Nat.zero_mul]at h;generalize c.natAbs*d.natAbs=x at h;generalize b.natAbs*b.natAbs=y at h;have:(0:Int)<=(x:Int)*(y:Int):=Int.mul_nonneg (Int.natCast_nonneg _) (Int.natCast_nonneg _);simp[Int.neg_mul]at h;omega
  ·omega
 ·rw[hv];have hp:0<k*2 ^ E:=Nat.mul_pos hk.pos (Nat.two_pow_pos _);split
  ·omega
  ·rename_i hs;exfalso;simp only[hs,Bool.false_eq_true,if_false,Int.natAbs_zero,Nat.zero_mul]at h;generalize a.natAbs*b.natAbs=x at h;generalize d.natAbs*d.natAbs=y at h;have:(0:Int)<=(x:Int)*(y:Int):=Int.mul_nonneg (Int.natCast_nonneg _) (Int.natCast_nonneg _);simp at h;omega
 ·rw[hv,hw];have hp1:0<k*2 ^ E:=Nat.mul_pos hk.pos (Nat.two_pow_pos _);have hp2:0<l*2 ^ F:=Nat.mul_pos hl.pos (Nat.two_pow_pos _);by_cases s1:(decide (a<0) ^^ decide (b<0))=true <;> by_cases s2:(decide (c<0) ^^ decide (d<0))=true
  ·simp only[s1,s2,if_true]at h ⊢
   have h':c.natAbs*d.natAbs*(b.natAbs*b.natAbs)<a.natAbs*b.natAbs*(d.natAbs*d.natAbs):=by
    rw[Int.neg_mul,Int.neg_mul,<-Int.natCast_mul,<-Int.natCast_mul]at h;omega
   have:=b3h hl hk hD hB hu (key _ _ _ _ h') hs2;omega
  ·simp only[s1,s2,if_true,Bool.false_eq_true,if_false];omega
  ·exfalso;simp only[s1,s2,if_true,Bool.false_eq_true,if_false]at h;rw[Int.neg_mul,<-Int.natCast_mul,<-Int.natCast_mul]at h;omega
  ·simp only[s1,s2,Bool.false_eq_true,if_false]at h ⊢
   have h':a.natAbs*b.natAbs*(d.natAbs*d.natAbs)<c.natAbs*d.natAbs*(b.natAbs*b.natAbs):=by
    rw[<-Int.natCast_mul,<-Int.natCast_mul]at h;omega
   have:=b3h hk hl hB hD hu (key _ _ _ _ h') hs1;omega
theorem c1I{v w a b c d:Int}(h1:QV v a b)(h2:QV w c d)(hb:b≠0)(hd:d≠0)(h:a*d=c*b):v=w:=by
 have hB:0<b.natAbs:=by omega
 have hD:0<d.natAbs:=by omega
 have hA:a.natAbs*d.natAbs=c.natAbs*b.natAbs:=by rw[<-Int.natAbs_mul,<-Int.natAbs_mul,h]
 rcases h1 with⟨rfl,rfl⟩|⟨ha,k,E,hk,hv⟩ <;> rcases h2 with⟨rfl,rfl⟩|⟨hc,l,F,hl,hw⟩
 ·rfl
 ·rw[Int.zero_mul]at h;rcases Int.mul_eq_zero.1 h.symm with e|e
  ·exact absurd e hc
  ·exact absurd e hb
 ·rw[Int.zero_mul]at h;rcases Int.mul_eq_zero.1 h with e|e
  ·exact absurd e ha
  ·exact absurd e hd
 ·rw[hv,hw,b8H hk hl hB hD hA]
  have hs:(decide (a<0) ^^ decide (b<0))=(decide (c<0) ^^ decide (d<0)):=by
   have e1:=a1u a d;have e2:=a1u c b;have p1:0<a.natAbs*d.natAbs:=Nat.mul_pos (by omega) hD;have p2:0<c.natAbs*b.natAbs:=Nat.mul_pos (by omega) hB;rw[h,e2]at e1
   have hx:(decide (a<0) ^^ decide (d<0))=(decide (c<0) ^^ decide (b<0)):=by
    cases x1:(decide (a<0) ^^ decide (d<0)) <;> cases x2:(decide (c<0) ^^ decide (b<0))
    ·rfl
    ·simp only[x1,x2,if_true,Bool.false_eq_true,if_false]at e1;omega
    ·simp only[x1,x2,if_true,Bool.false_eq_true,if_false]at e1;omega
    ·rfl
   generalize decide (a<0)=p at *;generalize decide (b<0)=q at *;generalize decide (c<0)=r at *;generalize decide (d<0)=t at *;cases p <;> cases q <;> cases r <;> cases t <;> simp_all
  rw[hs]
end Go.Fl

namespace Go.Fl
open Go.Sx Ieee
def a2Z:Nat:=9218868437227405312
theorem a0g{x y:Nat}(hx:Fin x)(hy:Fin y):FloatKind.f64.format.order x y=some (compare (V x) (V y)):=a7C hx hy
theorem a6Y:Fin 0:=⟨by decide,by decide⟩
theorem a9X:V 0=0:=by decide
theorem b1u:Ieee.Format.read Ieee.double a2Z=.infinity false:=by decide
theorem b5n{x:Nat}(hx:Fin x):FloatKind.f64.format.order x a2Z=some .lt:=by
 obtain⟨s,m,i,h1,_⟩:=B6 hx;show (Ieee.Format.read Ieee.double x).order (Ieee.Format.read Ieee.double a2Z)=_;rw[h1,b1u];rfl
theorem b4w{x:Nat}(hx:Fin x):FloatKind.f64.format.order a2Z x=some .gt:=by
 obtain⟨s,m,i,h1,_⟩:=B6 hx;show (Ieee.Format.read Ieee.double a2Z).order (Ieee.Format.read Ieee.double x)=_;rw[h1,b1u];rfl
theorem b7z{x:Nat}(hx:Fin x):fNe .f64 x x=false:=by
 unfold fNe;rw[a0g hx hx,N7];simp
theorem b8s{x:Nat}(hx:Fin x):fEq .f64 x a2Z=false:=by
 unfold fEq;rw[b5n hx];rfl
theorem b8J{x:Nat}(hx:Fin x):fGt .f64 a2Z x=true:=by
 unfold fGt;rw[b4w hx];rfl
theorem b7H{x y:Nat}(hx:Fin x)(hy:Fin y):fEq .f64 x y=decide (V x=V y):=by
 unfold fEq;rw[a0g hx hy,N7];split
 ·rename_i h;rw[decide_eq_false (by omega)];rfl
 ·split
  ·rename_i h;rw[decide_eq_true h];rfl
  ·rename_i h;rw[decide_eq_false h];rfl
theorem a4P{x y:Nat}(hx:Fin x)(hy:Fin y):fLt .f64 x y=decide (V x<V y):=by
 unfold fLt;rw[a0g hx hy,N7];split
 ·rename_i h;rw[decide_eq_true h];rfl
 ·rename_i h;rw[decide_eq_false h];split <;> rfl
theorem b0q{x y:Nat}(hx:Fin x)(hy:Fin y):fGt .f64 x y=decide (V y<V x):=by
 unfold fGt;rw[a0g hx hy,N7];split
 ·rename_i h;rw[decide_eq_false (by omega)];rfl
 ·split
  ·rename_i h;rw[decide_eq_false (by omega)];rfl
  ·rename_i h;rw[decide_eq_true (by omega)];rfl
theorem b9X{x y:Nat}(hx:Fin x)(hy:Fin y):fGe .f64 x y=decide (V y<=V x):=by
 unfold fGe;rw[a0g hx hy,N7];split
 ·rename_i h;rw[decide_eq_false (by omega)];rfl
 ·split
  ·rename_i h;rw[decide_eq_true (by omega)];rfl
  ·rename_i h;rw[decide_eq_true (by omega)];rfl
theorem b7w{x:Nat}(hx:Fin x):fEq .f64 x 0=decide (V x=0):=by rw[b7H hx a6Y,a9X]
theorem b6M{x:Nat}(hx:Fin x):fGt .f64 x 0=decide (0<V x):=by rw[b0q hx a6Y,a9X]
theorem b0Y{x y:Nat}{a b:Int}(hx:FI x a)(hy:FI y b):FloatKind.f64.format.order x y=some (compare a b):=hx.order hy
theorem Z5{x y:Nat}{a b:Int}(hx:FI x a)(hy:FI y b):fLt .f64 x y=decide (a<b):=by
 unfold fLt;rw[b0Y hx hy,N7];split
 ·rename_i h;rw[decide_eq_true h];rfl
 ·rename_i h;rw[decide_eq_false h];split <;> rfl
theorem a1b{x y:Nat}{a b:Int}(hx:FI x a)(hy:FI y b):fGt .f64 x y=decide (b<a):=by
 unfold fGt;rw[b0Y hx hy,N7];split
 ·rename_i h;rw[decide_eq_false (by omega)];rfl
 ·split
  ·rename_i h;rw[decide_eq_false (by omega)];rfl
  ·rename_i h;rw[decide_eq_true (by omega)];rfl
theorem a0d{x y:Nat}{a b:Int}(hx:FI x a)(hy:FI y b):fEq .f64 x y=decide (a=b):=by
 unfold fEq;rw[b0Y hx hy,N7];split
 ·rename_i h;rw[decide_eq_false (by omega)];rfl
 ·split
  ·rename_i h;rw[decide_eq_true h];rfl
  ·rename_i h;rw[decide_eq_false h];rfl
theorem a7D{x y:Nat}{a b:Int}(hx:FI x a)(hy:FI y b):fLe .f64 x y=decide (a<=b):=by
 unfold fLe;rw[b0Y hx hy,N7];split
 ·rename_i h;rw[decide_eq_true (by omega)];rfl
 ·split
  ·rename_i h;rw[decide_eq_true (by omega)];rfl
  ·rename_i h;rw[decide_eq_false (by omega)];rfl
theorem a7Q{x y:Nat}{a b:Int}(hx:FI x a)(hy:FI y b):fGe .f64 x y=decide (b<=a):=by
 unfold fGe;rw[b0Y hx hy,N7];split
 ·rename_i h;rw[decide_eq_false (by omega)];rfl
 ·split
  ·rename_i h;rw[decide_eq_true (by omega)];rfl
  ·rename_i h;rw[decide_eq_true (by omega)];rfl
end Go.Fl

namespace Go.Fl
open Ieee
theorem a4r(r:Nat):Z9 (r+1)=Z9 r+2 ^ (r / 2 ^ 52-1):=by
 by_cases h:r<2 ^ 52
 ·have h0:r / 2 ^ 52=0:=Nat.div_eq_of_lt h;rw[h0,a2S h];by_cases h1:r+1<2 ^ 52
  ·rw[a2S h1]
  ·have:r+1=(0+1)*2 ^ 52+0:=by omega
   rw[this,a0v 0 0 (by decide)]
 ·obtain⟨E,f,hf,he⟩:∃ E f,f<2 ^ 52/\r=(E+1)*2 ^ 52+f:=⟨r / 2 ^ 52-1,r % 2 ^ 52,Nat.mod_lt _ (by decide),by omega⟩;have hd:r / 2 ^ 52-1=E:=by omega
  rw[hd,he,a0v E f hf];by_cases h1:f+1<2 ^ 52
  ·rw[show (E+1)*2 ^ 52+f+1=(E+1)*2 ^ 52+(f+1) by omega,a0v E (f+1) h1,<-Nat.add_assoc,Nat.add_mul,Nat.one_mul]
  ·have h2:f=2 ^ 52-1:=by omega
   rw[show (E+1)*2 ^ 52+f+1=(E+1+1)*2 ^ 52+0 by omega,a0v (E+1) 0 (by decide),h2];rw[Nat.pow_succ];omega
theorem b4K(r:Nat):2 ^ 52*2 ^ (r / 2 ^ 52-1)<=Z9 r+2 ^ 52:=by
 by_cases h:r<2 ^ 52
 ·have h0:r / 2 ^ 52=0:=Nat.div_eq_of_lt h;rw[h0];omega
 ·obtain⟨E,f,hf,he⟩:∃ E f,f<2 ^ 52/\r=(E+1)*2 ^ 52+f:=⟨r / 2 ^ 52-1,r % 2 ^ 52,Nat.mod_lt _ (by decide),by omega⟩;have hd:r / 2 ^ 52-1=E:=by omega
  rw[hd,he,a0v E f hf,Nat.add_mul];omega
theorem c1M{x:Nat}(h:x<2 ^ 63):V x=Z9 x:=by
 unfold V;rw[if_neg (by omega),Nat.mod_eq_of_lt h]
theorem c1Q{r:Nat}(h:r<2 ^ 63):V (2 ^ 63+r) = -(Z9 r:Int):=by
 unfold V;rw[if_pos (by omega),show (2 ^ 63+r) % 2 ^ 63=r by omega]
theorem a6Q{r:Nat}{b:Nat}(hr:Z9 r<=2 ^ (52+b)):r / 2 ^ 52-1<=b+1:=by
 have h1:=b4K r;rcases Nat.lt_or_ge (b+1) (r / 2 ^ 52-1)with h|h
 ·exfalso;have h2:2 ^ (b+2)<=2 ^ (r / 2 ^ 52-1):=Nat.pow_le_pow_right (by decide) h;have h3:2 ^ 52*2 ^ (b+2)<=Z9 r+2 ^ 52:=Nat.le_trans (Nat.mul_le_mul_left _ h2) h1;have h4:2 ^ (52+b)=2 ^ 52*2 ^ b:=Nat.pow_add 2 52 b;have h5:2 ^ 52*2 ^ (b+2)=4*(2 ^ 52*2 ^ b):=by rw[Nat.pow_add 2 b 2];omega
  have h6:2 ^ 52<=2 ^ 52*2 ^ b:=Nat.le_mul_of_pos_right _ (Nat.two_pow_pos _);omega
 ·exact h
def nxt(x:Nat):Nat:=if V x=0 then 1 else if 0<V x then x+1 else x-1
theorem a6t{x:Nat}{n:Int}(h:FI x n)(hn:n.natAbs<=2 ^ 22):x+1<18446744073709551616/\Fin (nxt x)/\∃ k,k<=1045/\V (nxt x)=n*2 ^ U1+((2 ^ k:Nat):Int):=by
 obtain⟨⟨h64,hrung⟩,hv⟩:=h;have hU:U1=1074:=rfl;obtain⟨b,hb⟩:∃ b:Nat,b=1044:=⟨_,rfl⟩;have hbU:22+U1=52+b:=by omega
 have hmag:n.natAbs*2 ^ U1<=2 ^ (52+b):=by
  rw[<-hbU,Nat.pow_add];exact Nat.mul_le_mul_right _ hn
 have hpow:(2:Int) ^ U1=((2 ^ U1:Nat):Int):=by simp
 have habs:(V x).natAbs=n.natAbs*2 ^ U1:=by rw[hv,Int.natAbs_mul,C7]
 rw[<-habs]at hmag;refine⟨by omega,?_⟩;unfold nxt;by_cases h0:V x=0
 ·rw[if_pos h0];have h1:V 1=1:=by decide
  refine⟨⟨by decide,by decide⟩,0,by omega,?_⟩;rw[h1,<-hv,h0];rfl
 ·rw[if_neg h0];rcases Nat.lt_or_ge x (2 ^ 63)with hlo|hhi
  ·have hVx:=c1M hlo;have hpos:0<V x:=by rw[hVx]at h0 ⊢;omega
   rw[if_pos hpos];rw[Nat.mod_eq_of_lt hlo]at hrung;rw[hVx,Int.natAbs_natCast]at hmag;have hs:=a6Q hmag;have hx1:x+1<2 ^ 63:=by omega
   refine⟨⟨by omega,by rw[Nat.mod_eq_of_lt hx1];omega⟩,x / 2 ^ 52-1,by omega,?_⟩;rw[c1M hx1,a4r,<-hv,hVx];exact Int.natCast_add _ _
  ·obtain⟨r,rfl⟩:∃ r,x=2 ^ 63+r:=⟨x-2 ^ 63,by omega⟩;have hr63:r<2 ^ 63:=by omega
   have hVx:=c1Q hr63;have hneg:¬0<V (2 ^ 63+r):=by rw[hVx];omega
   rw[if_neg hneg];have hr0:r≠0:=λe=>by subst e;exact h0 (by decide)
   obtain⟨s,rfl⟩:∃ s,r=s+1:=⟨r-1,by omega⟩;have hm:(2 ^ 63+(s+1)) % 2 ^ 63=s+1:=by omega
   rw[hm]at hrung;rw[hVx,Int.natAbs_neg,Int.natAbs_natCast]at hmag;have hms:Z9 s<=2 ^ (52+b):=by rw[a4r]at hmag;exact Nat.le_trans (Nat.le_add_right _ _) hmag
   have hs:=a6Q hms;have e:2 ^ 63+(s+1)-1=2 ^ 63+s:=by omega
   rw[e];refine⟨⟨by omega,by omega⟩,s / 2 ^ 52-1,by omega,?_⟩;rw[c1Q (by omega),<-hv,hVx,a4r,Int.natCast_add];omega
theorem b0l(neg:Bool){mag:Nat}(hm:mag≠0){place:Int}(hp : -1074<=place) :
  0<I9 neg mag place*2 ^ (C5 mag place+1074).toNat/\I9 neg mag place*2 ^ (C5 mag place+1074).toNat<=2*(mag*2 ^ (place+1074).toNat):=by
 obtain⟨hk1,hk2⟩:=Z2 neg hm place;obtain⟨e1,e2⟩:=a3G neg (mag <<< (place-C5 mag place).toNat) (C5 mag place-place).toNat;have hl0 : -1074<=C5 mag place:=by unfold C5;omega
 have hkd:I9 neg mag place=Toward.even.cut neg (mag <<< (place-C5 mag place).toNat) (C5 mag place-place).toNat:=rfl;rw[<-hkd]at e1 e2;rw[Nat.shiftLeft_eq]at e1 e2;generalize I9 neg mag place=k at *;generalize C5 mag place=l at *;by_cases hs:l<=place
 ·have h0:(l-place).toNat=0:=by omega
  rw[h0]at e1 e2;simp only[Nat.pow_zero,Nat.mul_one]at e1 e2;have hk:k=mag*2 ^ (place-l).toNat:=by omega
  have e3:k*2 ^ (l+1074).toNat=mag*2 ^ (place+1074).toNat:=by
   rw[hk,Nat.mul_assoc,<-Nat.pow_add];congr 2;omega
  rw[e3];have:0<mag*2 ^ (place+1074).toNat:=Nat.mul_pos (by omega) (Nat.two_pow_pos _);omega
 ·have h0:(place-l).toNat=0:=by omega
  rw[h0]at e1 e2;simp only[Nat.pow_zero,Nat.mul_one]at e1 e2;have hk:2 ^ 52<=k:=by rcases hk2 with h|h <;> omega
  refine⟨Nat.mul_pos (by omega) (Nat.two_pow_pos _),?_⟩;have e3:(l+1074).toNat=(l-place).toNat+(place+1074).toNat:=by omega
  rw[e3,Nat.pow_add,<-Nat.mul_assoc,<-Nat.mul_assoc];refine Nat.mul_le_mul_right _ ?_;generalize 2 ^ (l-place).toNat=g at *;have hg:g<=k*g:=Nat.le_mul_of_pos_left _ (by omega);omega
theorem b8b{p y:Nat}{n:Int}{k:Nat}(hp:Fin p)(hv:V p=n*2 ^ U1+((2 ^ k:Nat):Int))(hk:k<=1045)(hy:FI y n) :
  ∃ r,double.sub p y=some r/\Fin r/\0<V r/\V r<=((2 ^ (k+1):Nat):Int):=by
 obtain⟨s,m,i,h1,h2,h3,_⟩:=B6 hp;obtain⟨t,l,j,h4,h5,h6,_⟩:=B6 hy.1;rw[hy.2]at h6;refine⟨double.write ((Datum.number (if signed s m (i-min i j).toNat+signed (!t) l (j-min i j).toNat=0 then s && !t else decide (signed s m (i-min i j).toNat+signed (!t) l (j-min i j).toNat<0)) (signed s m (i-min i j).toNat+signed (!t) l (j-min i j).toNat).natAbs (min i j))),?_,?_⟩
 ·unfold Format.sub;rw[h1,h4];rfl
 ·generalize htot:signed s m (i-min i j).toNat+signed (!t) l (j-min i j).toNat=tot;have e1:(i+1074).toNat=(i-min i j).toNat+(min i j+1074).toNat:=by omega
  have e2:(j+1074).toNat=(j-min i j).toNat+(min i j+1074).toNat:=by omega
  have h7:signed (!t) l (j+1074).toNat = -(n*2 ^ U1):=by rw[a5V,h6]
  have hkey:tot*2 ^ (min i j+1074).toNat=((2 ^ k:Nat):Int):=by
   have:signed s m (i+1074).toNat+signed (!t) l (j+1074).toNat=((2 ^ k:Nat):Int):=by rw[h3,h7,hv];omega
   rw[e1,e2,L0,L0,<-Int.add_mul,htot]at this;exact this
  have hpk:(0:Int)<((2 ^ k:Nat):Int):=Int.natCast_pos.2 (Nat.two_pow_pos k)
  have htpos:0<tot:=by
   rcases Int.lt_or_le 0 tot with h|h
   ·exact h
   ·have:=Int.mul_nonneg (show 0<=-tot by omega) (Int.le_of_lt (G1 (min i j+1074).toNat));rw[Int.neg_mul]at this;omega
  have hnat:tot.natAbs*2 ^ (min i j+1074).toNat=2 ^ k:=by
   have:=congrArg Int.natAbs hkey;rw[Int.natAbs_mul,C7,Int.natAbs_natCast]at this;exact this
  have hm0:tot.natAbs≠0:=by omega
  have hlog:(min i j)+tot.natAbs.log2<=1022:=by
   have h8:=Nat.log2_self_le hm0;have h9:2 ^ tot.natAbs.log2*2 ^ (min i j+1074).toNat<=2 ^ k:=by rw[<-hnat];exact Nat.mul_le_mul_right _ h8
   rw[<-Nat.pow_add]at h9;have h10:=(Nat.pow_le_pow_iff_right (by decide:1<2)).1 h9;omega
  rw[if_neg (by omega),decide_eq_false (by omega)];show Fin (double.nearest false tot.natAbs (min i j))/\0<V (double.nearest false tot.natAbs (min i j))/\V (double.nearest false tot.natAbs (min i j))<=_;obtain⟨h11,h12⟩:=a2r false hm0 (place:=min i j) hlog;obtain⟨h13,h14⟩:=b0l false hm0 (place:=min i j) (by omega);refine⟨h11,?_,?_⟩
  ·rw[h12];simp only[Bool.false_eq_true,if_false];omega
  ·rw[h12];simp only[Bool.false_eq_true,if_false];rw[hnat]at h14;rw[Nat.pow_succ];omega
theorem b2h{x y:Nat}{d:Int}{k:Nat}(hx:Fin x)(h0:0<V x)(hk:V x<=((2 ^ k:Nat):Int))(hk2:k<=1047)(hy:FI y d)(hd:d≠0) :
  ∃ r,double.div x y=some r/\Fin r/\(0<d->0<=V r)/\(d<0->V r<=0)/\(V r).natAbs<=2 ^ (k+1):=by
 obtain⟨s,m,i,h1,h2,h3,hm⟩:=B6 hx;obtain⟨t,n,j,h4,h5,h6,hn⟩:=B6 hy.1;rw[hy.2]at h6;have hmv:m*2 ^ (i+1074).toNat=(V x).natAbs:=by rw[<-h3,C9]
 have hnb:n*2 ^ (j+1074).toNat=d.natAbs*2 ^ U1:=by
  have:=congrArg Int.natAbs h6;rw[C9,Int.natAbs_mul,C7]at this;exact this
 have hm0:m≠0:=λe=>by rw[e,Nat.zero_mul]at hmv;omega
 have hn0:n≠0:=λe=>by
  rw[e,Nat.zero_mul]at hnb;rcases Nat.mul_eq_zero.1 hnb.symm with h|h
  ·omega
  ·exact absurd h (Nat.ne_of_gt (Nat.two_pow_pos _))
 have hj:=a1S h5 hn (show d.natAbs≠0 by omega) hnb
 have hs:s=false:=by
  cases s
  ·rfl
  ·rw[J6]at h3;simp only[if_true]at h3;omega
 have ht:t=decide (d<0):=by
  have hp:=G1 U1;rw[J6]at h6;cases t
  ·simp only[Bool.false_eq_true,if_false]at h6;have h7:0<=d*2 ^ U1:=by rw[<-h6];exact Int.natCast_nonneg _
   have:¬d<0:=λhneg=>by have:=Int.mul_neg_of_neg_of_pos hneg hp;omega
   exact(decide_eq_false this).symm
  ·simp only[if_true]at h6;have h9:d*2 ^ U1<=0:=by rw[<-h6];exact Int.neg_nonpos_of_nonneg (Int.natCast_nonneg _)
   have:d<0:=by
    rcases Int.lt_or_le d 0 with h10|h10
    ·exact h10
    ·have:0<d:=by omega
     have:=Int.mul_pos this hp;omega
   exact(decide_eq_true this).symm
 have hU:U1=1074:=rfl;have hlm:m.log2<=52:=by have:=(Nat.log2_lt hm0).2 hm;omega
 have hln:n.log2<=52:=by have:=(Nat.log2_lt hn0).2 hn;omega
 have hmore:54+n.log2-m.log2+m.log2=54+n.log2:=by omega
 generalize hmo:54+n.log2-m.log2=z7 at *;refine⟨double.nearest (s ^^ t) (2*(m <<< z7 / n)+(m <<< z7 % n != 0).toNat) (i-j-z7-1),?_,?_⟩
 ·unfold Format.div;rw[h1,h4];show Option.map double.write (Datum.quotient (52+2) _ _)=_;unfold Datum.quotient;simp only[hn0,if_false];rw[show 52+2+n.log2-m.log2=z7 from hmo];rfl
 ·rw[Nat.shiftLeft_eq];generalize hdv:m*2 ^ z7=dv;have hm1:=Nat.log2_self_le hm0;have hm2:m<2 ^ (m.log2+1):=Nat.lt_log2_self;have hn1:=Nat.log2_self_le hn0;have hn2:n<2 ^ (n.log2+1):=Nat.lt_log2_self
  have hdv1:2 ^ (54+n.log2)<=dv:=by
   rw[<-hdv,<-hmore,Nat.add_comm z7,Nat.pow_add];exact Nat.mul_le_mul_right _ hm1
  have hdv2:dv<2 ^ (55+n.log2):=by
   rw[<-hdv,show 55+n.log2=(m.log2+1)+z7 by omega,Nat.pow_add];exact Nat.mul_lt_mul_of_pos_right hm2 (Nat.two_pow_pos _)
  have hq1:2 ^ 53<=dv / n:=by
   rw[Nat.le_div_iff_mul_le (by omega)];have h8:2 ^ 53*n<=2 ^ 53*2 ^ (n.log2+1):=Nat.mul_le_mul_left _ (by omega);rw[<-Nat.pow_add,show 53+(n.log2+1)=54+n.log2 by omega]at h8;omega
  have hq2:dv / n<2 ^ 55:=by
   rw[Nat.div_lt_iff_lt_mul (by omega)];have h8:2 ^ 55*2 ^ n.log2<=2 ^ 55*n:=Nat.mul_le_mul_left _ hn1;rw[<-Nat.pow_add]at h8;omega
  have hb1:(dv % n != 0).toNat<=1:=Bool.toNat_le _
  have hQn:(2*(dv / n)+(dv % n != 0).toNat)*n<=2*dv+n:=by
   have h8:dv / n*n<=dv:=Nat.div_mul_le_self _ _;have h9:(dv % n != 0).toNat*n<=1*n:=Nat.mul_le_mul_right _ hb1;rw[Nat.add_mul,Nat.mul_assoc];omega
  generalize hQ:2*(dv / n)+(dv % n != 0).toNat=Q at *;have hQ0:Q≠0:=by omega
  have hQ1:2 ^ 54<=Q:=by omega
  have hQ2:Q<2 ^ 57:=by omega
  have hQl:54<=Q.log2:=(Nat.le_log2 hQ0).2 hQ1;have hQl2:Q.log2<=56:=by have:=(Nat.log2_lt hQ0).2 hQ2;omega
  have hi:i+m.log2<=k-1074:=by
   have h8:2 ^ m.log2*2 ^ (i+1074).toNat<=2 ^ k:=by
    refine Nat.le_trans (Nat.mul_le_mul_right _ hm1) ?_;rw[hmv];omega
   rw[<-Nat.pow_add]at h8;have h10:=(Nat.pow_le_pow_iff_right (by decide:1<2)).1 h8;omega
  generalize hpl:i-j-(z7:Int)-1=pl at *;have hlog:pl+Q.log2<=1022:=by omega
  obtain⟨h11,h12⟩:=a2r (s ^^ t) hQ0 (place:=pl) hlog;obtain⟨hk1,hk2'⟩:=Z2 (s ^^ t) hQ0 pl;obtain⟨e1,e2⟩:=a3G (s ^^ t) (Q <<< (pl-C5 Q pl).toNat) (C5 Q pl-pl).toNat;have hkd:I9 (s ^^ t) Q pl=Toward.even.cut (s ^^ t) (Q <<< (pl-C5 Q pl).toNat) (C5 Q pl-pl).toNat:=rfl;rw[<-hkd,Nat.shiftLeft_eq]at e1;have hl1:pl+2<=C5 Q pl:=by unfold C5;omega
  have hl0 : -1074<=C5 Q pl:=by unfold C5;omega
  generalize I9 (s ^^ t) Q pl=kp at *;generalize C5 Q pl=l at *;have hz:(pl-l).toNat=0:=by omega
  rw[hz,Nat.pow_zero,Nat.mul_one]at e1
  have hmain:(kp-1)*(2 ^ (l-pl).toNat*n)<=2*dv:=by
   have hD:4<=2 ^ (l-pl).toNat:=by
    have:2 ^ 2<=2 ^ (l-pl).toNat:=Nat.pow_le_pow_right (by decide) (by omega);omega
   generalize 2 ^ (l-pl).toNat=g at *;have h8:2*(kp*g)*n<=(2*Q+g)*n:=Nat.mul_le_mul_right _ e1;rw[Nat.add_mul,Nat.mul_assoc 2 Q n]at h8;have h9:4*n<=g*n:=Nat.mul_le_mul_right _ hD;rcases Nat.eq_zero_or_pos kp with hkp|hkp
   ·subst hkp;simp
   ·obtain⟨c,rfl⟩:∃ c,kp=c+1:=⟨kp-1,by omega⟩;rw[Nat.add_sub_cancel]
    have h10:2*((c+1)*g)*n=2*(c*(g*n))+2*(g*n):=by
     rw[Nat.add_mul,Nat.one_mul,Nat.mul_add,Nat.add_mul,Nat.mul_assoc 2 (c*g) n,Nat.mul_assoc c g n,Nat.mul_assoc 2 g n]
    rw[h10]at h8;omega
  have hX:(kp-1)*2 ^ (l+1074).toNat*d.natAbs<=(V x).natAbs:=by
   have h8:(kp-1)*(2 ^ (l-pl).toNat*n)*2 ^ ((j+1074).toNat+z7+1+(l+1074).toNat)<=2*dv*2 ^ ((j+1074).toNat+z7+1+(l+1074).toNat):=Nat.mul_le_mul_right _ hmain;have e3:(l-pl).toNat+(i+1074).toNat=(l+1074).toNat+(j+1074).toNat+z7+1-1074+0∨True:=.inr trivial;have e4:(l-pl).toNat+(i+1074).toNat+U1=(j+1074).toNat+z7+1+(l+1074).toNat:=by rw[hU];omega
   have h9:(kp-1)*(2 ^ (l-pl).toNat*n)*2 ^ ((j+1074).toNat+z7+1+(l+1074).toNat)=((kp-1)*2 ^ (l+1074).toNat*d.natAbs)*(2 ^ U1*2 ^ ((l-pl).toNat+z7+1)):=by
    calc (kp-1)*(2 ^ (l-pl).toNat*n)*2 ^ ((j+1074).toNat+z7+1+(l+1074).toNat)
      = (kp-1)*(2 ^ (l-pl).toNat*n)*(2 ^ (j+1074).toNat*2 ^ (z7+1)*2 ^ (l+1074).toNat):=by rw[<-Nat.pow_add,<-Nat.pow_add];rfl
     _=(kp-1)*2 ^ (l+1074).toNat*(n*2 ^ (j+1074).toNat)*(2 ^ (l-pl).toNat*2 ^ (z7+1)):=by ac_rfl
     _=_:=by
      rw[hnb,<-Nat.pow_add,Nat.add_assoc];generalize 2 ^ U1=u;generalize 2 ^ ((l-pl).toNat+(z7+1))=u2
      ac_rfl
   have h10:2*dv*2 ^ ((j+1074).toNat+z7+1+(l+1074).toNat)=(V x).natAbs*(2 ^ U1*2 ^ ((l-pl).toNat+z7+1)):=by
    rw[<-hdv,<-hmv,<-e4];rw[Nat.pow_add _ _ U1,Nat.pow_add _ (l-pl).toNat,Nat.pow_add _ ((l-pl).toNat+z7) 1,Nat.pow_add _ (l-pl).toNat z7,Nat.pow_one];generalize 2 ^ U1=u;generalize (V x).natAbs=vx at *
    ac_rfl
   rw[h9,h10]at h8;exact Nat.le_of_mul_le_mul_right h8 (Nat.mul_pos (Nat.two_pow_pos _) (Nat.two_pow_pos _))
  have hb:kp*2 ^ (l+1074).toNat<=2 ^ (k+1):=by
   have h8:(kp-1)*2 ^ (l+1074).toNat<=(V x).natAbs:=Nat.le_trans (Nat.le_mul_of_pos_right _ (by omega)) hX;have h9:(V x).natAbs<=2 ^ k:=by omega
   have h10:0<(V x).natAbs:=by omega
   rcases hk2' with h|h
   ·have:(l+1074).toNat=0:=by omega
    rw[this,Nat.pow_zero,Nat.mul_one]at h8 ⊢;rw[Nat.pow_succ];omega
   ·generalize 2 ^ (l+1074).toNat=g at *;obtain⟨c,rfl⟩:∃ c,kp=c+1:=⟨kp-1,by omega⟩;rw[Nat.add_sub_cancel]at h8;have:g<=c*g:=Nat.le_mul_of_pos_left _ (by omega);rw[Nat.add_mul,Nat.one_mul,Nat.pow_succ];omega
  rw[hs]at h11 h12;rw[hs];refine⟨h11,λhd0=>?_,λhd0=>?_,?_⟩
  ·rw[h12,ht,decide_eq_false (by omega)];exact Int.natCast_nonneg _
  ·rw[h12,ht,decide_eq_true hd0];exact Int.neg_nonpos_of_nonneg (Int.natCast_nonneg _)
  ·rw[h12];split
   ·rw[Int.natAbs_neg,Int.natAbs_natCast];exact hb
   ·rw[Int.natAbs_natCast];exact hb
theorem b6e{v a b:Int}(h:QV v a b)(ha:a≠0)(hb:b.natAbs<=2 ^ 24):2 ^ (U1-25)<=v.natAbs/\(v<0↔(decide (a<0) ^^ decide (b<0))=true):=by
 rcases h with⟨h,_⟩|⟨_,k,E,hd,hv⟩
 ·exact absurd h ha
 ·have hpos:0<k*2 ^ E:=Nat.mul_pos (by have:=hd.lo;omega) (Nat.two_pow_pos _)
  have hlow:2 ^ (U1-25)<=k*2 ^ E:=by
   have h1:=hd.dn;have h2:=hd.lo;have hU:U1=(U1-25)+25:=by decide
   have h3:2*k*(2 ^ E*b.natAbs)+2 ^ E*b.natAbs<=4*(k*2 ^ E*b.natAbs):=by
    have h4:2*k*(2 ^ E*b.natAbs)=2*(k*2 ^ E*b.natAbs):=by ac_rfl
    have h5:2 ^ E*b.natAbs<=k*(2 ^ E*b.natAbs):=Nat.le_mul_of_pos_left _ (by omega);rw[<-Nat.mul_assoc]at h5;omega
   have h7:k*2 ^ E*b.natAbs<=k*2 ^ E*2 ^ 24:=Nat.mul_le_mul_left _ hb;have h8:2 ^ U1<=a.natAbs*2 ^ U1:=Nat.le_mul_of_pos_left _ (by omega);rw[hU,Nat.pow_add]at h8;rw[hU]at h1;rw[Nat.pow_add]at h1;generalize 2 ^ (U1-25)=u at *;omega
  refine⟨?_,?_⟩
  ·rw[hv];split
   ·rw[Int.natAbs_neg,Int.natAbs_natCast];exact hlow
   ·rw[Int.natAbs_natCast];exact hlow
  ·rw[hv];split
   ·rename_i h;simp only[h,iff_true];omega
   ·rename_i h;simp only[h];constructor
    ·intro h';omega
    ·intro h';cases h'
end Go.Fl

namespace Go.Proofs.Tryz.Sx
open Go Go.Sx Go.Proofs Go.Fl
set_option maxRecDepth 100000
def a0f:PF:=fun
 | [.int .u64 n]=>some (.flt .f64 n.toNat,none)
 | _=>none
theorem a5E:E8 Tryz.prog 109 a0f:=by
 refine a2d Tryz.func109 (by kernel_rfl) (by kernel_rfl) (by kernel_rfl) (e:=Extern.MathFloatBits.float64frombits) (by kernel_rfl) ?_;intro args v p h hp;unfold a0f at h;split at h
 ·injection h with h;injection h with h1 h2;subst h1 h2
  exact⟨rfl,λρ w=>rfl⟩
 ·cases h
def b0X:PF:=fun
 | [.flt .f64 n]=>some (.int .u64 n,none)
 | _=>none
theorem bits:E8 Tryz.prog 110 b0X:=by
 refine a2d Tryz.func110 (by kernel_rfl) (by kernel_rfl) (by kernel_rfl) (e:=Extern.MathFloatBits.float64bits) (by kernel_rfl) ?_;intro args v p h hp;unfold b0X at h;split at h
 ·injection h with h;injection h with h1 h2;subst h1 h2
  exact⟨rfl,λρ w=>rfl⟩
 ·cases h
def GM:Ctx:=⟨⟨tys,[]⟩,[(109,z4 a0f),(110,z4 b0X)]⟩
theorem gM:B7 Tryz.prog GM:=⟨⟨E1,FlatsOk.nil⟩,j9.cons (.pure a5E) (j9.cons (.pure bits) j9.nil),by kernel_rfl⟩
def b2l:PF:=fun
 | [.flt .f64 x]=>some (.bool (fNe .f64 x x),none)
 | _=>none
theorem isNaN:E8 Tryz.prog 106 b2l:=by
 refine J5 gM Tryz.func106 rfl (by kernel_rfl) ?_;intro args v p h hp;unfold b2l at h;split at h
 ·injection h with h;injection h with h1 h2;subst h1 h2
  exact⟨rfl,rfl,rfl,rfl⟩
 ·cases h
def c2B:PF:=fun
 | [.int .i64 s]=>some (.flt .f64 a2Z,some (s=1))
 | _=>none
theorem inf:E8 Tryz.prog 100 c2B:=by
 refine J5 gM Tryz.func100 rfl (by kernel_rfl) ?_;intro args v p h hp;unfold c2B at h;split at h
 ·injection h with h;injection h with h1 h2;subst h1 h2
  have hp:_=_:=hp;subst hp;refine⟨rfl,rfl,rfl,?_⟩;refine And.intro ?_ ?_
  ·intro _;exact rfl
  ·intro h;exact absurd h (by decide)
 ·cases h
def b7X:PF:=fun
 | [.flt .f64 x, .flt .f64 y]=>some (.flt .f64 1,some (x=1/\y=a2Z))
 | _=>none
theorem b5D:E8 Tryz.prog 108 b7X:=by
 refine J5 gM Tryz.func108 rfl (by kernel_rfl) ?_;intro args v p h hp;unfold b7X at h;split at h
 ·injection h with h;injection h with h1 h2;subst h1 h2
  have hp:_/\_:=hp;obtain⟨rfl,rfl⟩:=hp;refine⟨rfl,rfl,rfl,?_⟩;show (_:Nat)=_
  kernel_rfl
 ·cases h
def GN:Ctx:=⟨⟨tys,[]⟩,[(109,z4 a0f),(110,z4 b0X),(106,z4 b2l),(108,z4 b7X)]⟩
theorem gN:B7 Tryz.prog GN:=⟨⟨E1,FlatsOk.nil⟩,j9.cons (.pure a5E) (j9.cons (.pure bits) (j9.cons (.pure isNaN) (j9.cons (.pure b5D) j9.nil))),by kernel_rfl⟩
def b7o:PF:=fun
 | [.flt .f64 x, .flt .f64 y]=>some (.flt .f64 (nxt x),some (y=a2Z/\Fl.Fin x/\x+1<18446744073709551616))
 | _=>none
theorem next:E8 Tryz.prog 99 b7o:=by
 refine J5 gN Tryz.func99 rfl (by kernel_rfl) ?_;intro args v p h hp;unfold b7o at h;split at h
 ·rename_i x y;injection h with h;injection h with h1 h2;subst h1 h2
  have hp:_/\_/\_:=hp;obtain⟨rfl,hx,hlt⟩:=hp;refine⟨rfl,rfl,rfl,?_⟩;have e1:fNe .f64 x x=false:=b7z hx;have e2:fNe .f64 a2Z a2Z=false:=by kernel_rfl
  have e3:fEq .f64 x a2Z=false:=b8s hx;have e4:fEq .f64 x 0=decide (V x=0):=b7w hx;have e5:fGt .f64 a2Z x=true:=b8J hx;have e6:fGt .f64 x 0=decide (0<V x):=b6M hx
  repeat' (first|(intro h;first|(exact absurd h (by simp only[e1,e2,e3,e5];decide))|skip)|(refine And.intro ?_ ?_))
  all_goals (show (_:Nat)=_)
  ·rfl
  ·rfl
  ·rename_i h;rw[e4]at h;simp[nxt,oT9 h]
  ·rename_i h;have h0:fEq .f64 x 0=false:=by assumption
   rw[e4]at h0;rw[e5,e6]at h;have h0:=of_decide_eq_false h0;have h:0<V x:=by simpa using h
   rw[b4a (by omega) (by omega)];simp only[nxt,h0,h,if_true,if_false];omega
  ·rename_i h;have h0:fEq .f64 x 0=false:=by assumption
   rw[e4]at h0;rw[e5,e6]at h;have h0:=of_decide_eq_false h0;have h:¬0<V x:=by simpa using h
   have hx0:x≠0:=λe=>h0 (by rw[e];exact a9X)
   rw[b4a (by omega) (by omega)];simp only[nxt,h0,h,if_false];omega
 ·cases h
end Go.Proofs.Tryz.Sx

namespace Go.Sx
open Go.RowKit
def b2F(k:Bool):TK->Bool
 | .flt _=>k
 | .int _ => !k
 | _=>false
theorem a3i{x:SV}{xs ys:List SV}{b:Bool}(h:lEq (x :: xs) ys=some b):∃ y ys' b0 b1,ys=y :: ys'/\sEq x y=some b0/\lEq xs ys'=some b1/\b=(b0&&b1):=by
 cases ys with
 | nil=>simp[lEq]at h
 | cons y ys' =>
  simp only[lEq]at h;split at h
  ·rename_i b0 h0;split at h
   ·rename_i b1 h1;simp only[oI9]at h;exact⟨y,ys',b0,b1,rfl,h0,h1,h.symm⟩
   ·cases h
  ·cases h
theorem b3C{ys:List SV}{b:Bool}(h:lEq [] ys=some b):ys=[]/\b=true:=by
 cases ys with
 | nil=>simp only[lEq,oI9]at h;exact⟨rfl,h.symm⟩
 | cons y r=>simp[lEq]at h
theorem a5c{x y:SV}{b:Bool}(h:sEq x y=some b):(∃ k a c,x=.int k a/\y=.int k c/\b=(a==c))∨(∃ k a c,x=.flt k a/\y=.flt k c/\b=fEq k a c):=by
 unfold sEq at h;split at h
 ·split at h
  ·rename_i he;have:=a0a he;subst this;simp only[oI9]at h;exact .inl ⟨_,_,_,rfl,rfl,h.symm⟩
  ·cases h
 ·split at h
  ·rename_i he;have:=P3 he;subst this;simp only[oI9]at h;exact .inr ⟨_,_,_,rfl,rfl,h.symm⟩
  ·cases h
 ·cases h
section
variable {P:Program} (w:World) (ρ:Rho)
theorem a0Y{d t:Nat}{ti:TI}(ht:TOk P t ti){k:Bool}(hk:b2F k ti.tk=true){x y:SV}{b:Bool}(hx:U2 [k] [x]=true)(h:sEq x y=some b) :
  (Op.equalIn (d+1) t (x.den ρ) (y.den ρ)).run P w=.ok b w:=by
 obtain⟨dd,hd,hd2⟩:=ht.desc;rcases a5c h with⟨k1,a,c,rfl,rfl,rfl⟩|⟨k1,a,c,rfl,rfl,rfl⟩
 ·simp only[U2,Bool.and_true,Bool.not_eq_true']at hx;subst hx;cases dd <;> simp only[G9]at hd2 <;> rw[<-hd2]at hk <;> simp[b2F]at hk
  unfold Op.equalIn;simp[run_underlying hd,SV.den]
 ·simp only[U2,Bool.and_true]at hx;subst hx;cases dd <;> simp only[G9]at hd2 <;> rw[<-hd2]at hk <;> simp[b2F]at hk
  unfold Op.equalIn;simp[run_underlying hd,SV.den];rfl
theorem b1w{ti:TI}{k:Bool}(hk:b2F k ti.tk=true):ti.isAgg=false:=by
 unfold TI.isAgg;split <;> rename_i hh <;> simp_all[b2F]
def FE(P:Program)(t:Nat)(n:List Bool)(D:Nat):Prop :=
 ∀(d:Nat)(xs ys:List SV)(b:Bool),U2 n xs=true->lEq xs ys=some b->∀(ρ:Rho)(w:World),(Op.equalIn (d+D) t (.agg (p8 ρ xs).toArray) (.agg (p8 ρ ys).toArray)).run P w=.ok b w
theorem FE.flat{t:Nat}{n:List Bool}{D:Nat}(h:FE P t n D)(hg:P.eqGuardType P.depth t=false)(hD:D<=10000):a1A P t n :=
 ⟨hg,λxs ys b hx hb ρ w=>by
  have:=h (10000-D) xs ys b hx hb ρ w;rw[Nat.sub_add_cancel hD]at this
  exact this⟩
theorem W3 {T:Tys} (hT:TysOk P T) {t e0 e1:Nat} {f0 f1:Field} {t0 t1:TI} {k0 k1:Bool} (hu:P.underlying t=some (.struct #[f0,f1])) (hp:P.stoodInHeld t=false)
  (hn0:f0.name≠ "_") (hn1:f1.name≠ "_") (h0:f0.type=e0/\f0.offset=0) (h1:f1.type=e1/\f1.offset=1) (ht0:ty T e0=some t0) (ht1:ty T e1=some t1)
  (hk0:b2F k0 t0.tk=true) (hk1:b2F k1 t1.tk=true):FE P t [k0,k1] 2:=by
 intro d xs ys b hx h ρ w;have hf:P.fieldsOf t = #[f0,f1]:=by simp[Program.fieldsOf,hu]
 match xs with
 | []=>simp[U2]at hx
 | [_]=>simp[U2]at hx;split at hx <;> simp at hx
 | _ :: _ :: _ :: _=>simp[U2]at hx;split at hx <;> (try split at hx) <;> simp at hx
 | [x0,x1] =>
  obtain⟨y0,ys',b0,c,rfl,e0',h',rfl⟩:=a3i h;obtain⟨y1,ys'',b1,c',rfl,e1',h'',rfl⟩:=a3i h';obtain⟨rfl,rfl⟩:=b3C h''
  have hx0:U2 [k0] [x0]=true:=by
   rcases a5c e0' with⟨k,a,c,rfl,rfl,rfl⟩|⟨k,a,c,rfl,rfl,rfl⟩ <;> simp_all[U2]
  have hx1:U2 [k1] [x1]=true:=by
   rcases a5c e0' with⟨k,a,c,rfl,rfl,rfl⟩|⟨k,a,c,rfl,rfl,rfl⟩ <;> rcases a5c e1' with⟨k,a,c,rfl,rfl,rfl⟩|⟨k,a,c,rfl,rfl,rfl⟩ <;> simp_all[U2]
  have p0:=λ(cs:List SV) (v:SV) (hc:cs[0]? = some v)=>(U8 (U:=λ_=>True) hT (cs:=cs) (by rw[G8];exact λv _=>SV.bd_all v) (e:=e0) (o:=0) (v:=v) (by simp[a4b,ht0,b1w hk0,E6,hc]) ρ w).1
  have p1:=λ(cs:List SV) (v:SV) (hc:cs[1]? = some v)=>(U8 (U:=λ_=>True) hT (cs:=cs) (by rw[G8];exact λv _=>SV.bd_all v) (e:=e1) (o:=1) (v:=v) (by simp[a4b,ht1,b1w hk1,E6,hc]) ρ w).1
  rw[run_equalIn_agg w (d+1) t _ _ (by rw[hf];exact hu) hp,hf];simp only[Op.eqFields,hn0,hn1,ne_eq,not_false_eq_true,if_true,h0.1,h0.2,h1.1,h1.2,Sem.run_bind];rw[p0 _ x0 rfl];simp only[Result.andThen_ok];rw[p0 _ y0 rfl];simp only[Result.andThen_ok,a0Y w ρ (hT _ _ ht0) hk0 hx0 e0'];cases b0
  ·simp
  ·simp only[Bool.not_true,Bool.false_eq_true,if_false,Sem.run_bind];rw[p1 _ x1 rfl];simp only[Result.andThen_ok];rw[p1 _ y1 rfl];simp only[Result.andThen_ok,a0Y w ρ (hT _ _ ht1) hk1 hx1 e1'];cases b1 <;> simp
end
end Go.Sx

namespace Go.Fl
open Ieee Go.Sx
theorem a2m{x y r:Nat}{a b:Int}(h:D4 .f64 x y r)(hx:FI x a)(hy:FI y b)(hb:b≠0)(hb2:b.natAbs<2 ^ 53)(ha2:a.natAbs<2 ^ 53):Fin r/\QV (V r) a b:=by
 obtain⟨q,h1,h2,h3⟩:=c2O hx hy hb hb2 ha2;have:floatBits .quo .f64 x y=some q:=h1;unfold D4 at h;rw[this]at h;subst h;exact⟨h2,h3⟩
theorem a2e{y:Nat}(hy:FI y 0):∃ t j,double.read y=.number t 0 j:=by
 obtain⟨t,n,j,h4,h5,h6,hn⟩:=B6 hy.1;rw[hy.2,Int.zero_mul]at h6;have:=congrArg Int.natAbs h6;rw[C9]at this;rcases Nat.mul_eq_zero.1 this with h|h
 ·subst h;exact⟨t,j,h4⟩
 ·exact absurd h (Nat.ne_of_gt (Nat.two_pow_pos _))
theorem a2x(s:Bool):double.read (double.word s double.infRung)=.infinity s:=by cases s <;> decide
theorem b3k{x y r:Nat}{a:Int}(h:D4 .f64 x y r)(hx:FI x a)(ha:a≠0)(hy:FI y 0){z:Nat}(hz:Fin z):fEq .f64 r z=false/\fEq .f64 z r=false:=by
 obtain⟨s,m,i,h1,h2,h3,hm⟩:=B6 hx.1;obtain⟨t,j,h4⟩:=a2e hy
 have hm0:m≠0:=λe=>by
  subst e;rw[hx.2]at h3;have:=congrArg Int.natAbs h3;rw[C9,Nat.zero_mul,Int.natAbs_mul,C7]at this;rcases Nat.mul_eq_zero.1 this.symm with h|h
  ·omega
  ·exact absurd h (Nat.ne_of_gt (Nat.two_pow_pos _))
 have hd:floatBits .quo .f64 x y=some (double.word (s ^^ t) double.infRung):=by
  show double.div x y=_;unfold Format.div;rw[h1,h4];unfold Datum.quotient;simp only[hm0,if_true,if_false];rfl
 unfold D4 at h;rw[hd]at h;subst h;obtain⟨u,l,k,h7,_⟩:=B6 hz;constructor
 ·unfold fEq;show (Datum.order (double.read _) (double.read z)==_)=_;rw[a2x,h7];show ((some (if (s ^^ t)then Ordering.lt else Ordering.gt):Option Ordering)==some .eq)=false;cases (s ^^ t) <;> rfl
 ·unfold fEq;show (Datum.order (double.read z) (double.read _)==_)=_;rw[a2x,h7];show ((some (if (s ^^ t)then Ordering.gt else Ordering.lt):Option Ordering)==some .eq)=false;cases (s ^^ t) <;> rfl
theorem b4t{r z:Nat}(h:(double.read r).isNaN=true):fEq .f64 r z=false/\fEq .f64 z r=false:=by
 cases hr:double.read r with
 | nan s f =>
  constructor
  ·unfold fEq;show (Datum.order (double.read r) (double.read z)==_)=_;rw[hr];rfl
  ·unfold fEq;show (Datum.order (double.read z) (double.read r)==_)=_;rw[hr]
   cases double.read z <;> rfl
 | number s m i=>rw[hr]at h;cases h
 | infinity s=>rw[hr]at h;cases h
theorem b8n{x y r:Nat}(h:D4 .f64 x y r)(hx:FI x 0)(hy:FI y 0){z:Nat}:fEq .f64 r z=false/\fEq .f64 z r=false:=by
 obtain⟨s,i,h1⟩:=a2e hx;obtain⟨t,j,h4⟩:=a2e hy
 have hd:floatBits .quo .f64 x y=none:=by
  show double.div x y=_;unfold Format.div;rw[h1,h4];rfl
 unfold D4 at h;rw[hd]at h;exact b4t h
theorem c2Y{v w a b c d:Int}(h1:QV v a b)(h2:QV w c d)(hb:b≠0)(hd:d≠0)(hs1:a.natAbs*d.natAbs<=2 ^ 50)(hs2:c.natAbs*b.natAbs<=2 ^ 50):v=w↔a*d=c*b:=by
 constructor
 ·intro hvw;rcases Int.lt_trichotomy (a*b*(d*d)) (c*d*(b*b))with h|h|h
  ·have:=b3m h1 h2 hb hd hs1 hs2 h;omega
  ·have e1:a*b*(d*d)=(b*d)*(a*d):=by ac_rfl
   have e2:c*d*(b*b)=(b*d)*(c*b):=by ac_rfl
   rw[e1,e2]at h;exact Int.eq_of_mul_eq_mul_left (Int.mul_ne_zero hb hd) h
  ·have:=b3m h2 h1 hd hb hs2 hs1 h;omega
 ·exact c1I h1 h2 hb hd
theorem b5e{v w a b c d:Int}(h1:QV v a b)(h2:QV w c d)(hbd:0<b*d)(hs1:a.natAbs*d.natAbs<=2 ^ 50)(hs2:c.natAbs*b.natAbs<=2 ^ 50):v<=w↔a*d<=c*b:=by
 have hb:b≠0:=λe=>by rw[e,Int.zero_mul]at hbd;omega
 have hd:d≠0:=λe=>by rw[e,Int.mul_zero]at hbd;omega
 have e1:a*b*(d*d)=(b*d)*(a*d):=by ac_rfl
 have e2:c*d*(b*b)=(b*d)*(c*b):=by ac_rfl
 rcases Int.lt_trichotomy (a*d) (c*b)with h|h|h
 ·have h3:=Int.mul_lt_mul_of_pos_left h hbd;rw[<-e1,<-e2]at h3;have:=b3m h1 h2 hb hd hs1 hs2 h3;omega
 ·have:=c1I h1 h2 hb hd h;omega
 ·have h3:=Int.mul_lt_mul_of_pos_left h hbd;rw[<-e1,<-e2]at h3;have:=b3m h2 h1 hd hb hs2 hs1 h3;omega
theorem a4B{x y:Nat}{a b:Int}(hx:FI x a)(hy:FI y b)(ha:a.natAbs<=2 ^ 22)(hb:b.natAbs<=2 ^ 22):fok .sub .f64 x y/\FI (fop .sub .f64 x y) (a-b):=by
 obtain⟨r,h1,h2⟩:=b7P hx hy (by omega);have:floatBits .sub .f64 x y=some r:=h1;unfold fok fop;rw[this];exact⟨rfl,h2⟩
theorem a5K{n m:Int}{k:Nat}(hk:k<=1045):(n*2 ^ U1+((2 ^ k:Nat):Int)<m*2 ^ U1↔n<m)/\(m*2 ^ U1<n*2 ^ U1+((2 ^ k:Nat):Int)↔m<=n)/\n*2 ^ U1+((2 ^ k:Nat):Int)≠m*2 ^ U1:=by
 have hU:U1=1074:=rfl;have h1:2 ^ k<2 ^ U1:=(Nat.pow_lt_pow_iff_right (by decide)).2 (by omega);have h2:0<2 ^ k:=Nat.two_pow_pos k;have e:(2:Int) ^ U1=((2 ^ U1:Nat):Int):=by simp
 rw[e];generalize 2 ^ U1=u at *;generalize 2 ^ k=t at *;have hu:(0:Int)<(u:Int):=by omega
 rcases Int.lt_trichotomy n m with h|h|h
 ·have h3:(n+1)*(u:Int)<=m*u:=Int.mul_le_mul_of_nonneg_right (by omega) (by omega);rw[Int.add_mul,Int.one_mul]at h3;omega
 ·subst h;omega
 ·have h3:(m+1)*(u:Int)<=n*u:=Int.mul_le_mul_of_nonneg_right (by omega) (by omega);rw[Int.add_mul,Int.one_mul]at h3;omega
def b4G(q:Nat)(n:Int):Prop:=Fin q/\∃ k,k<=1045/\V q=n*2 ^ U1+((2 ^ k:Nat):Int)
theorem b3I{q y:Nat}{n m:Int}(hq:b4G q n)(hy:FI y m):fEq .f64 q y=false:=by
 obtain⟨h1,k,hk,h2⟩:=hq;rw[b7H h1 hy.1,h2,hy.2];exact decide_eq_false (a5K hk).2.2
theorem b8X{q y:Nat}{n m:Int}(hq:b4G q n)(hy:FI y m):fLt .f64 q y=decide (n<m):=by
 obtain⟨h1,k,hk,h2⟩:=hq;rw[a4P h1 hy.1,h2,hy.2];exact decide_eq_decide.2 (a5K hk).1
theorem b8A{q y:Nat}{n m:Int}(hq:b4G q n)(hy:FI y m):fGt .f64 q y=decide (m<=n):=by
 obtain⟨h1,k,hk,h2⟩:=hq;rw[b0q h1 hy.1,h2,hy.2];exact decide_eq_decide.2 (a5K hk).2.1
theorem b0s{x:Nat}{n:Int}(h:FI x n)(hn:n.natAbs<=2 ^ 22):b4G (nxt x) n:=⟨(a6t h hn).2.1,(a6t h hn).2.2⟩
end Go.Fl

namespace Go.Geo
def E7(a1 a2 b1 b2 p1 p2:Int):Int:=(b1-a1)*(p2-a2)-(b2-a2)*(p1-a1)
def btw(a b p:Int):Prop:=(a<=p/\p<=b)∨(b<=p/\p<=a)
def On(a1 a2 b1 b2 p1 p2:Int):Prop:=btw a1 b1 p1/\btw a2 b2 p2/\E7 a1 a2 b1 b2 p1 p2=0
def Lft(a1 a2 b1 b2 p1 p2:Int):Prop:=(b2<a2/\b2<=p2/\p2<a2/\0<E7 b1 b2 a1 a2 p1 p2)∨(a2<=b2/\a2<=p2/\p2<b2/\0<E7 a1 a2 b1 b2 p1 p2)
instance (a b p:Int):Decidable (btw a b p):=by unfold btw;infer_instance
instance (a1 a2 b1 b2 p1 p2:Int):Decidable (On a1 a2 b1 b2 p1 p2):=by unfold On;infer_instance
instance (a1 a2 b1 b2 p1 p2:Int):Decidable (Lft a1 a2 b1 b2 p1 p2):=by unfold Lft;infer_instance
section
variable {a1 a2 b1 b2 p1 p2:Int}
theorem a2X:E7 b1 b2 a1 a2 p1 p2 = -E7 a1 a2 b1 b2 p1 p2:=by
 unfold E7
 have e1:(a1-b1)*(p2-b2)=(b1-a1)*b2-(b1-a1)*p2:=by
  rw[show a1-b1 = -(b1-a1) by omega,show p2-b2 = -(b2-p2) by omega,Int.neg_mul_neg,Int.mul_sub]
 have e2:(a2-b2)*(p1-b1)=(b2-a2)*b1-(b2-a2)*p1:=by
  rw[show a2-b2 = -(b2-a2) by omega,show p1-b1 = -(b1-p1) by omega,Int.neg_mul_neg,Int.mul_sub]
 have e3:(b1-a1)*(p2-a2)=(b1-a1)*p2-(b1-a1)*a2:=Int.mul_sub _ _ _;have e4:(b2-a2)*(p1-a1)=(b2-a2)*p1-(b2-a2)*a1:=Int.mul_sub _ _ _;have e5:(b1-a1)*b2=b1*b2-a1*b2:=Int.sub_mul _ _ _;have e6:(b1-a1)*a2=b1*a2-a1*a2:=Int.sub_mul _ _ _;have e7:(b2-a2)*b1=b2*b1-a2*b1:=Int.sub_mul _ _ _;have e8:(b2-a2)*a1=b2*a1-a2*a1:=Int.sub_mul _ _ _;rw[Int.mul_comm b2 b1,Int.mul_comm a2 b1]at e7;rw[Int.mul_comm b2 a1,Int.mul_comm a2 a1]at e8;rw[e1,e2,e3,e4];omega
theorem b1p{a b p:Int}:btw b a p↔btw a b p:=by unfold btw;omega
theorem a8X:On b1 b2 a1 a2 p1 p2↔On a1 a2 b1 b2 p1 p2:=by
 unfold On;rw[a2X];constructor <;> rintro⟨h1,h2,h3⟩ <;> exact⟨b1p.1 h1,b1p.1 h2,by omega⟩
theorem a1p(h0:a2<b2)(h1:a2<=p2)(h2:p2<=b2)(h:E7 a1 a2 b1 b2 p1 p2=0):btw a1 b1 p1:=by
 unfold E7 at h;have hB:0<b2-a2:=by omega
 have ht0:0<=p2-a2:=by omega
 have ht1:p2-a2<=b2-a2:=by omega
 generalize hBe:b2-a2=B at *;generalize p2-a2=t at *;rcases Int.lt_or_le b1 a1 with hA|hA
 ·
  refine .inr ⟨?_,?_⟩
  ·rcases Int.lt_or_le p1 b1 with hp|hp
   ·have e:(b1-a1)*B<=(b1-a1)*t:=Int.mul_le_mul_of_nonpos_left (by omega) ht1;have e2:B*(p1-a1)<B*(b1-a1):=Int.mul_lt_mul_of_pos_left (by omega) hB;rw[Int.mul_comm B (b1-a1)]at e2;omega
   ·exact hp
  ·rcases Int.lt_or_le a1 p1 with hp|hp
   ·have e:(b1-a1)*t<=0:=Int.mul_nonpos_of_nonpos_of_nonneg (by omega) ht0;have e2:0<B*(p1-a1):=Int.mul_pos hB (by omega);omega
   ·exact hp
 ·refine .inl ⟨?_,?_⟩
  ·rcases Int.lt_or_le p1 a1 with hp|hp
   ·have e:0<=(b1-a1)*t:=Int.mul_nonneg (by omega) ht0;have e2:B*(p1-a1)<0:=Int.mul_neg_of_pos_of_neg hB (by omega);omega
   ·exact hp
  ·rcases Int.lt_or_le b1 p1 with hp|hp
   ·have e:(b1-a1)*t<=(b1-a1)*B:=Int.mul_le_mul_of_nonneg_left ht1 (by omega);have e2:B*(b1-a1)<B*(p1-a1):=Int.mul_lt_mul_of_pos_left (by omega) hB;rw[Int.mul_comm B (b1-a1)]at e2;omega
   ·exact hp
theorem a4J(h1:a2<=p2)(h2:p2<b2)(h3:a1<=p1)(h4:b1<=p1):E7 a1 a2 b1 b2 p1 p2<=0:=by
 unfold E7;have e2:0<=(b2-a2)*(p1-a1):=Int.mul_nonneg (by omega) (by omega);rcases Int.lt_or_le b1 a1 with hA|hA
 ·have e:(b1-a1)*(p2-a2)<=0:=Int.mul_nonpos_of_nonpos_of_nonneg (by omega) (by omega);omega
 ·have e:(b1-a1)*(p2-a2)<=(b1-a1)*(b2-a2):=Int.mul_le_mul_of_nonneg_left (by omega) (by omega);have e3:(b2-a2)*(b1-a1)<=(b2-a2)*(p1-a1):=Int.mul_le_mul_of_nonneg_left (by omega) (by omega);rw[Int.mul_comm (b2-a2) (b1-a1)]at e3;omega
theorem a5A(h1:a2<=p2)(h2:p2<b2)(h3:p1<=a1)(h4:p1<=b1):0<=E7 a1 a2 b1 b2 p1 p2:=by
 unfold E7;have e2:(b2-a2)*(p1-a1)<=0:=Int.mul_nonpos_of_nonneg_of_nonpos (by omega) (by omega);rcases Int.lt_or_le a1 b1 with hA|hA
 ·have e:0<=(b1-a1)*(p2-a2):=Int.mul_nonneg (by omega) (by omega);omega
 ·have e:(b1-a1)*(b2-a2)<=(b1-a1)*(p2-a2):=Int.mul_le_mul_of_nonpos_left (by omega) (by omega);have e3:(b2-a2)*(p1-a1)<=(b2-a2)*(b1-a1):=Int.mul_le_mul_of_nonneg_left (by omega) (by omega);rw[Int.mul_comm (b2-a2) (b1-a1)]at e3;omega
theorem Y7(hn:¬On a1 a2 b1 b2 p1 p2)(h1:a2<=p2)(h2:p2<b2):E7 a1 a2 b1 b2 p1 p2≠0:=λh =>
 hn ⟨a1p (by omega) h1 (by omega) h, .inl ⟨h1,by omega⟩,h⟩
end
end Go.Geo

namespace Go.Proofs.Tryz.Sx
open Go Go.Sx Go.Proofs Go.Fl Go.Geo
set_option maxRecDepth 100000
theorem b6R:a1A prog 100 [true,true] :=
 (W3 E1 (t:=100) (e0:=98) (e1:=98) underlying100 (by kernel_rfl) (by decide) (by decide) ⟨rfl,rfl⟩ ⟨rfl,rfl⟩ (by rfl) (by rfl) rfl rfl).flat (by kernel_rfl) (by decide)
def GR:Ctx:=⟨⟨tys,[(100,[true,true])]⟩,[(99,z4 b7o),(100,z4 c2B)]⟩
theorem gR:B7 prog GR:=⟨⟨E1,FlatsOk.cons b6R FlatsOk.nil⟩,j9.cons (.pure next) (j9.cons (.pure inf) j9.nil),by kernel_rfl⟩
def SR(px py ax ay bx by':Nat):St :=
 ⟨302,[(4, .ptr 0 0),(5, .ptr 1 0),(6, .ptr 2 0),(7, .ptr 3 0)],
  [(0,⟨true,142, .cells [.ff, .ff],0⟩),(1,⟨true,100, .cells [.flt .f64 px, .flt .f64 py],0⟩),(2,⟨true,100, .cells [.flt .f64 ax, .flt .f64 ay],0⟩),(3,⟨true,100, .cells [.flt .f64 bx, .flt .f64 by'],0⟩)],4⟩
def KR(i o:Bool):Xt->St->Prop:=A8 GR.E.T f90.results.toList λ_ v=>eqv v (.agg [.bool i, .bool o])
def p2:Code->Code
 | .seq _ y=>y
 | c=>c
noncomputable def c0:Code:=p9 f90
noncomputable def c2:Code:=p2 (p2 c0)
noncomputable def c3:Code:=p2 c2
noncomputable def c4:Code:=p2 c3
noncomputable def c5:Code:=p2 c4
noncomputable def c6:Code:=p2 c5
noncomputable def c7:Code:=p2 c6
noncomputable def c8:Code:=p2 c7
noncomputable def c9:Code:=p2 c8
noncomputable def c10:Code:=p2 c9
theorem Wp.refines{P:Program}{N0:Nat}{S S1:St}{K:Xt->St->Prop}{c:Code}(hr:B4 N0 S S1)(h:Wp P N0 c S1 K):Wp P N0 c S K:=by
 intro W0 Fr ρ0 ρ a w Q hS hN hρ hK;obtain⟨ρ',h1,h2⟩:=hr.2 W0 Fr ρ a w hS;exact h W0 Fr ρ0 ρ' a w Q h1 hr.1 (λn hn=>(h2 n hn).trans (hρ n hn)) hK
set_option maxHeartbeats 4000000 in
theorem a6I(ax ay bx by' px py:Nat)(i o:Bool)(h:Wp prog 0 c2 (SR px py ax ay bx by') (KR i o)) :
  Wp prog 0 c0 (A6 302 [.agg [.flt .f64 ax, .flt .f64 ay, .flt .f64 bx, .flt .f64 by'], .agg [.flt .f64 px, .flt .f64 py]] [] 0) (KR i o):=by
 refine Wp.seq (K1:=λe S'=>match e with
  | .normal=>Wp prog 0 (p2 c0) S' (KR i o)
  | _=>False) (Wp.run gR ?_) (λS' h'=>h') (λ_ _ h=>h.elim) (λ_ h=>h.elim)
 show Wp prog 0 (p2 c0) _ (KR i o)
 refine Wp.seq (K1:=λe S'=>match e with
  | .normal=>B4 0 S' (SR px py ax ay bx by')
  | _=>False) (Wp.run gR ?_) (λS' h'=>Wp.refines h' h) (λ_ _ h=>h.elim) (λ_ h=>h.elim)
 refine And.intro ?_ ?_
 ·kernel_rfl
 ·show B4 0 _ (SR px py ax ay bx by');refine B4.by_names [(0,some 48),(1,some 192),(2,some 216),(3,some 240)] ⟨rfl,rfl,rfl,rfl,?_,?_⟩
  ·exact⟨⟨rfl,trivial,rfl⟩,⟨rfl,trivial,rfl⟩,⟨rfl,trivial,rfl⟩,⟨rfl,trivial,rfl⟩,trivial⟩
  ·exact⟨⟨rfl,rfl,rfl,rfl,trivial,trivial,trivial⟩,⟨rfl,rfl,rfl,rfl,rfl,rfl,trivial⟩,⟨rfl,rfl,rfl,rfl,rfl,rfl,trivial⟩,⟨rfl,rfl,rfl,rfl,rfl,rfl,trivial⟩,trivial⟩
structure Pts (ax ay bx by' px py:Nat) (a1 a2 b1 b2 p1 p2:Int):Prop where
 ax:FI ax a1
 ay:FI ay a2
 bx:FI bx b1
 by':FI by' b2
 px:FI px p1
 py:FI py p2
 ha1:a1.natAbs<=2 ^ 22
 ha2:a2.natAbs<=2 ^ 22
 hb1:b1.natAbs<=2 ^ 22
 hb2:b2.natAbs<=2 ^ 22
 hp1:p1.natAbs<=2 ^ 22
 hp2:p2.natAbs<=2 ^ 22
section
variable {ax ay bx by' px py:Nat} {a1 a2 b1 b2 p1 p2:Int} (H:Pts ax ay bx by' px py a1 a2 b1 b2 p1 p2)
include H
abbrev KK(a1 a2 b1 b2 p1 p2:Int):Xt->St->Prop:=KR (decide (¬On a1 a2 b1 b2 p1 p2/\Lft a1 a2 b1 b2 p1 p2)) (decide (On a1 a2 b1 b2 p1 p2))
set_option maxHeartbeats 4000000 in
theorem c8m(h:((a2<b2->a2<=p2/\p2<=b2)/\(b2<a2->b2<=p2/\p2<=a2))->Wp prog 0 c3 (SR px py ax ay bx by') (KK a1 a2 b1 b2 p1 p2)) :
  Wp prog 0 c2 (SR px py ax ay bx by') (KK a1 a2 b1 b2 p1 p2):=by
 refine Wp.keep _ (Wp.run gR ?_) h;have e1:=Z5 H.ay H.by';have e2:=Z5 H.py H.ay;have e3:=a1b H.py H.by';have e4:=a1b H.ay H.by';have e5:=Z5 H.py H.by';have e6:=a1b H.py H.ay
 repeat' (first|(intro h)|(refine And.intro ?_ ?_))
 all_goals try simp only[e1,e2,e3,e4,e5,e6,decide_eq_true_eq,decide_eq_false_iff_not]at *
 all_goals first
  | exact trivial
  | exact⟨rfl,rfl,rfl,rfl,rfl⟩
  | omega
  | exact decide_eq_false (λhh=>by unfold On btw at hh;omega)
  | exact decide_eq_false (λhh=>by unfold Lft at hh;omega)
set_option maxHeartbeats 4000000 in
theorem c8A(f1:(a2<b2->a2<=p2/\p2<=b2)/\(b2<a2->b2<=p2/\p2<=a2))(h:(a2=b2->a1≠b1/\(p2=b2->¬btw a1 b1 p1))->Wp prog 0 c4 (SR px py ax ay bx by') (KK a1 a2 b1 b2 p1 p2)) :
  Wp prog 0 c3 (SR px py ax ay bx by') (KK a1 a2 b1 b2 p1 p2):=by
 refine Wp.keep _ (Wp.run gR ?_) h;have e1:=a0d H.ay H.by';have e2:=a0d H.ax H.bx;have e3:=a0d H.px H.ax;have e3':=a0d H.py H.ay;have e4:=a0d H.py H.by';have e5:=Z5 H.ax H.bx;have e6:=a7Q H.px H.ax;have e7:=a7D H.px H.bx;have e8:=a7Q H.px H.bx;have e9:=a7D H.px H.ax;have l1:a2=b2->p2=b2->E7 a1 a2 b1 b2 p1 p2=0:=λx y=>by subst x;subst y;unfold E7;simp
 have l2:a2=b2->a1=b1->E7 a1 a2 b1 b2 p1 p2=0:=λx y=>by subst x;subst y;unfold E7;simp
 clear h
 repeat' (first|(intro h)|(refine And.intro ?_ ?_))
 all_goals try simp only[e1,e2,e3,e3',e4,e5,e6,e7,e8,e9,decide_eq_true_eq,decide_eq_false_iff_not,bA9,Bool.and_true,Bool.and_eq_false_imp]at *
 all_goals first
  | exact trivial
  | exact⟨rfl,rfl,rfl,rfl,rfl⟩
  | omega
  | (unfold btw at *;omega)
  | exact decide_eq_false (λhh=>by unfold On btw at hh;omega)
  | exact decide_eq_false (λhh=>by unfold Lft at hh;omega)
  | exact decide_eq_true (by unfold On btw;omega)
  | exact decide_eq_false (λhh=>hh.1 (by unfold On btw;omega))
set_option maxHeartbeats 4000000 in
theorem c7o(f1:(a2<b2->a2<=p2/\p2<=b2)/\(b2<a2->b2<=p2/\p2<=a2))(f2:a2=b2->a1≠b1/\(p2=b2->¬btw a1 b1 p1))(h:(a1=b1->p1≠b1)->Wp prog 0 c5 (SR px py ax ay bx by') (KK a1 a2 b1 b2 p1 p2)) :
  Wp prog 0 c4 (SR px py ax ay bx by') (KK a1 a2 b1 b2 p1 p2):=by
 refine Wp.keep _ (Wp.run gR ?_) h;have e1:=a0d H.ax H.bx;have e2:=a0d H.px H.bx;have e3:=Z5 H.ay H.by';have e4:=a7Q H.py H.ay;have e5:=a7D H.py H.by';have e6:=a7Q H.py H.by';have e7:=a7D H.py H.ay;have l1:a1=b1->p1=b1->E7 a1 a2 b1 b2 p1 p2=0:=λx y=>by subst x;subst y;unfold E7;simp
 clear h
 repeat' (first|(intro h)|(refine And.intro ?_ ?_))
 all_goals try simp only[e1,e2,e3,e4,e5,e6,e7,decide_eq_true_eq,decide_eq_false_iff_not]at *
 all_goals first
  | exact trivial
  | exact⟨rfl,rfl,rfl,rfl,rfl⟩
  | omega
  | exact decide_eq_true (by unfold On btw;omega)
  | exact decide_eq_false (λhh=>hh.1 (by unfold On btw;omega))
set_option maxHeartbeats 4000000 in
theorem c8q(f1:(a2<b2->a2<=p2/\p2<=b2)/\(b2<a2->b2<=p2/\p2<=a2))(f2:a2=b2->a1≠b1/\(p2=b2->¬btw a1 b1 p1))(f3:a1=b1->p1≠b1)
  (h:¬On a1 a2 b1 b2 p1 p2->Wp prog 0 c6 (SR px py ax ay bx by') (KK a1 a2 b1 b2 p1 p2)) :
  Wp prog 0 c5 (SR px py ax ay bx by') (KK a1 a2 b1 b2 p1 p2):=by
 refine Wp.keep _ (Wp.run gR ?_) h;clear h;obtain⟨s1,d1⟩:=a4B H.px H.ax H.hp1 H.ha1;obtain⟨s2,d2⟩:=a4B H.bx H.ax H.hb1 H.ha1;obtain⟨s3,d3⟩:=a4B H.py H.ay H.hp2 H.ha2;obtain⟨s4,d4⟩:=a4B H.by' H.ay H.hb2 H.ha2
 have key:∀ r q,D4 .f64 (fop .sub .f64 px ax) (fop .sub .f64 bx ax) r->D4 .f64 (fop .sub .f64 py ay) (fop .sub .f64 by' ay) q->(fEq .f64 r q=true↔On a1 a2 b1 b2 p1 p2):=by
  intro r q hr hq;have hb:=H.ha1;have hb':=H.ha2;have hb'':=H.hb1;have hb''':=H.hb2;have hc:=H.hp1;have hc':=H.hp2;by_cases hv:b1-a1=0
  ·rw[hv]at d2;have h4:b2-a2≠0:=by omega
   obtain⟨g1,_⟩:=a2m hq d3 d4 h4 (by omega) (by omega);rw[(b3k hr d1 (by omega) d2 g1).1];constructor
   ·intro h;cases h
   ·intro h;unfold On btw at h;omega
  ·obtain⟨g1,g2⟩:=a2m hr d1 d2 hv (by omega) (by omega);by_cases hw:b2-a2=0
   ·rw[hw]at d4
    have hne:fEq .f64 r q=false:=by
     by_cases hz:p2-a2=0
     ·rw[hz]at d3;exact(b8n hq d3 d4).2
     ·exact(b3k hq d3 hz d4 g1).2
    rw[hne];constructor
    ·intro h;cases h
    ·intro h;unfold On at h;unfold btw at h f2;omega
   ·obtain⟨g3,g4⟩:=a2m hq d3 d4 hw (by omega) (by omega);rw[b7H g1 g3,decide_eq_true_eq,c2Y g2 g4 hv hw ?_ ?_]
    ·have hcross:E7 a1 a2 b1 b2 p1 p2=(p2-a2)*(b1-a1)-(p1-a1)*(b2-a2):=by
      unfold E7;rw[Int.mul_comm (b1-a1),Int.mul_comm (b2-a2)]
     constructor
     ·intro h;have h0:E7 a1 a2 b1 b2 p1 p2=0:=by omega
      rcases Int.lt_or_le a2 b2 with hlt|hge
      ·exact⟨a1p hlt (by omega) (by omega) h0,by unfold btw;omega,h0⟩
      ·have hlt:b2<a2:=by omega
       refine a8X.1 ⟨a1p (p2:=p2) hlt (by omega) (by omega) (by rw[a2X];omega),by unfold btw;omega,by rw[a2X];omega⟩
     ·intro h;have:=h.2.2;omega
    ·have:=Nat.mul_le_mul (show (p1-a1).natAbs<=2 ^ 23 by omega) (show (b2-a2).natAbs<=2 ^ 23 by omega);omega
    ·have:=Nat.mul_le_mul (show (p2-a2).natAbs<=2 ^ 23 by omega) (show (b1-a1).natAbs<=2 ^ 23 by omega);omega
 refine And.intro s1 (And.intro s2 ?_);intro r hr;refine And.intro s3 (And.intro s4 ?_);intro q hq;have hk:=key r q hr hq;refine And.intro ?_ ?_
 ·intro h;have ho:=hk.1 h;exact⟨decide_eq_false (λhh=>hh.1 ho),decide_eq_true ho,trivial⟩
 ·intro h;refine And.intro ?_ ?_
  ·intro ho;rw[hk.2 ho]at h;cases h
  ·exact⟨rfl,rfl,rfl,rfl,rfl⟩
end
theorem B4.rfl'{S:St}:B4 0 S S:=⟨Nat.zero_le _,λ_ _ ρ _ _ h=>⟨ρ,h,λ_ _=>rfl⟩⟩
section
variable {ax ay bx by' px py:Nat} {a1 a2 b1 b2 p1 p2:Int} (H:Pts ax ay bx by' px py a1 a2 b1 b2 p1 p2)
include H
def LI(ax ay bx by' px py:Nat):Bool->St
 | false=>SR px py ax ay bx by'
 | true=>SR px (nxt py) ax ay bx by'
def Lμ:Bool->Nat
 | false=>1
 | true=>0
set_option maxHeartbeats 4000000 in
theorem c8w(hA:p2≠a2/\p2≠b2->Wp prog 0 c7 (SR px py ax ay bx by') (KK a1 a2 b1 b2 p1 p2))(hB:p2=a2∨p2=b2->Wp prog 0 c7 (SR px (nxt py) ax ay bx by') (KK a1 a2 b1 b2 p1 p2)) :
  Wp prog 0 c6 (SR px py ax ay bx by') (KK a1 a2 b1 b2 p1 p2):=by
 refine Wp.seq (K1:=λe S'=>match e with
  | .normal=>((p2≠a2/\p2≠b2)/\B4 0 S' (SR px py ax ay bx by'))∨((p2=a2∨p2=b2)/\B4 0 S' (SR px (nxt py) ax ay bx by'))
  | _=>False) ?_ (λS' h'=>by
   rcases h' with⟨h1,h2⟩|⟨h1,h2⟩
   ·exact Wp.refines h2 (hA h1)
   ·exact Wp.refines h2 (hB h1)) (λ_ _ h=>h.elim) (λ_ h=>h.elim)
 clear hA hB;have e1:=a0d H.py H.ay;have e2:=a0d H.py H.by';have hn:=b0s H.py H.hp2;have e3:=b3I hn H.ay;have e4:=b3I hn H.by';have hf:=H.py.1;have hl:=(a6t H.py H.hp2).1;refine Wp.block (Wp.loop (ι:={i:Bool // i=true->(p2=a2∨p2=b2)}) (λi=>LI ax ay bx by' px py i.1) (λi=>Lμ i.1) ⟨false,by intro h;cases h⟩ B4.rfl' ?_);rintro⟨i,hi⟩
 cases i with
 | false =>
  refine Wp.run gR ?_;refine And.intro ?_ ?_
  ·intro h;rw[e1]at h;refine And.intro rfl (And.intro ⟨rfl,hf,hl⟩ (And.intro (by kernel_rfl) ?_));refine⟨⟨true,λ_=>.inl (oT9 h)⟩,show (0:Nat)<1 by decide,B4.by_names [] ⟨rfl,rfl,rfl,rfl,?_,?_⟩⟩
   ·exact⟨⟨rfl,trivial,rfl⟩,⟨rfl,trivial,rfl⟩,⟨rfl,trivial,rfl⟩,⟨rfl,trivial,rfl⟩,trivial⟩
   ·exact⟨⟨rfl,rfl,rfl,rfl,trivial,trivial,trivial⟩,⟨rfl,rfl,rfl,rfl,rfl,rfl,trivial⟩,⟨rfl,rfl,rfl,rfl,rfl,rfl,trivial⟩,⟨rfl,rfl,rfl,rfl,rfl,rfl,trivial⟩,trivial⟩
  ·intro h;rw[e1]at h;refine And.intro ?_ ?_
   ·intro h';rw[e2]at h';refine And.intro rfl (And.intro ⟨rfl,hf,hl⟩ (And.intro (by kernel_rfl) ?_));refine⟨⟨true,λ_=>.inr (oT9 h')⟩,show (0:Nat)<1 by decide,B4.by_names [] ⟨rfl,rfl,rfl,rfl,?_,?_⟩⟩
    ·exact⟨⟨rfl,trivial,rfl⟩,⟨rfl,trivial,rfl⟩,⟨rfl,trivial,rfl⟩,⟨rfl,trivial,rfl⟩,trivial⟩
    ·exact⟨⟨rfl,rfl,rfl,rfl,trivial,trivial,trivial⟩,⟨rfl,rfl,rfl,rfl,rfl,rfl,trivial⟩,⟨rfl,rfl,rfl,rfl,rfl,rfl,trivial⟩,⟨rfl,rfl,rfl,rfl,rfl,rfl,trivial⟩,trivial⟩
   ·intro h';rw[e2]at h';refine Or.inl ⟨⟨of_decide_eq_false h,of_decide_eq_false h'⟩,B4.by_names [] ⟨rfl,rfl,rfl,rfl,?_,?_⟩⟩
    ·exact⟨⟨rfl,trivial,rfl⟩,⟨rfl,trivial,rfl⟩,⟨rfl,trivial,rfl⟩,⟨rfl,trivial,rfl⟩,trivial⟩
    ·exact⟨⟨rfl,rfl,rfl,rfl,trivial,trivial,trivial⟩,⟨rfl,rfl,rfl,rfl,rfl,rfl,trivial⟩,⟨rfl,rfl,rfl,rfl,rfl,rfl,trivial⟩,⟨rfl,rfl,rfl,rfl,rfl,rfl,trivial⟩,trivial⟩
 | true =>
  have hi:=hi rfl;refine Wp.run gR ?_;refine And.intro ?_ ?_
  ·intro h;rw[e3]at h;cases h
  ·intro h;refine And.intro ?_ ?_
   ·intro h';rw[e4]at h';cases h'
   ·intro h';refine Or.inr ⟨hi,B4.by_names [] ⟨rfl,rfl,rfl,rfl,?_,?_⟩⟩
    ·exact⟨⟨rfl,trivial,rfl⟩,⟨rfl,trivial,rfl⟩,⟨rfl,trivial,rfl⟩,⟨rfl,trivial,rfl⟩,trivial⟩
    ·exact⟨⟨rfl,rfl,rfl,rfl,trivial,trivial,trivial⟩,⟨rfl,rfl,rfl,rfl,rfl,rfl,trivial⟩,⟨rfl,rfl,rfl,rfl,rfl,rfl,trivial⟩,⟨rfl,rfl,rfl,rfl,rfl,rfl,trivial⟩,trivial⟩
end
end Go.Proofs.Tryz.Sx

namespace Go.Fl
open Ieee Go.Sx Go.Geo
theorem b5H{k:Nat}(hk:k<=1047):2 ^ k<2 ^ (U1-25):=(Nat.pow_lt_pow_iff_right (by decide)).2 (by have:U1=1074:=rfl;omega)
theorem c0Q{lx ly ux uy px q:Nat}{l1 l2 u1 u2 p1 p2:Int}(h1:FI lx l1)(h2:FI ly l2)(h3:FI ux u1)(h4:FI uy u2)(h5:FI px p1)
  (b1:l1.natAbs<=2 ^ 22) (b2:l2.natAbs<=2 ^ 22) (b3:u1.natAbs<=2 ^ 22) (b4:u2.natAbs<=2 ^ 22) (b5:p1.natAbs<=2 ^ 22) (b6:p2.natAbs<=2 ^ 22)
  (hy:l2<=p2/\p2<u2) (hx:(l1<p1/\p1<u1)∨(u1<p1/\p1<l1)) (hq:(FI q p2/\p2≠l2)∨(b4G q p2/\p2=l2)) :
  fok .sub .f64 q ly/\fok .sub .f64 px lx/\fok .sub .f64 uy ly/\fok .sub .f64 ux lx/\
  ∀ r w,D4 .f64 (fop .sub .f64 q ly) (fop .sub .f64 px lx) r->D4 .f64 (fop .sub .f64 uy ly) (fop .sub .f64 ux lx) w->fGe .f64 r w=decide (0<=E7 l1 l2 u1 u2 p1 p2):=by
 obtain⟨s2,d2⟩:=a4B h5 h1 b5 b1;obtain⟨s3,d3⟩:=a4B h4 h2 b4 b2;obtain⟨s4,d4⟩:=a4B h3 h1 b3 b1
 have hcross:E7 l1 l2 u1 u2 p1 p2=(p2-l2)*(u1-l1)-(u2-l2)*(p1-l1):=by
  unfold E7;rw[Int.mul_comm (u1-l1)]
 have hnum:u2-l2≠0:=by omega
 have hd1:p1-l1≠0:=by omega
 have hd2:u1-l1≠0:=by omega
 rcases hq with⟨hq,hne⟩|⟨hq,heq⟩
 ·obtain⟨s1,d1⟩:=a4B hq h2 b6 b2;refine⟨s1,s2,s3,s4,λr w hr hw=>?_⟩;obtain⟨g1,g2⟩:=a2m hr d1 d2 hd1 (by omega) (by omega);obtain⟨g3,g4⟩:=a2m hw d3 d4 hd2 (by omega) (by omega);rw[b9X g1 g3]
  have hpos:0<(u1-l1)*(p1-l1):=by
   rcases hx with hx|hx
   ·exact Int.mul_pos (by omega) (by omega)
   ·exact Int.mul_pos_of_neg_of_neg (by omega) (by omega)
  refine decide_eq_decide.2 ?_;rw[b5e g4 g2 hpos ?_ ?_,hcross]
  ·omega
  ·have:=Nat.mul_le_mul (show (u2-l2).natAbs<=2 ^ 23 by omega) (show (p1-l1).natAbs<=2 ^ 23 by omega);omega
  ·have:=Nat.mul_le_mul (show (p2-l2).natAbs<=2 ^ 23 by omega) (show (u1-l1).natAbs<=2 ^ 23 by omega);omega
 ·obtain⟨hf,k,hk,hv⟩:=hq;subst heq;obtain⟨n,n1,n2,n3,n4⟩:=b8b hf hv hk h2;have hn:floatBits .sub .f64 q ly=some n:=n1;have s1:fok .sub .f64 q ly:=by unfold fok;rw[hn];rfl
  have e1:fop .sub .f64 q ly=n:=by unfold fop;rw[hn];rfl
  refine⟨s1,s2,s3,s4,λr w hr hw=>?_⟩;rw[e1]at hr;obtain⟨r',m1,m2,m3,m4,m5⟩:=b2h n2 n3 n4 (by omega) d2 hd1
  have hrr:r=r':=by
   have:floatBits .quo .f64 n (fop .sub .f64 px lx)=some r':=m1;unfold D4 at hr;rw[this]at hr;exact hr
  subst hrr;obtain⟨g3,g4⟩:=a2m hw d3 d4 hd2 (by omega) (by omega);obtain⟨q1,q2⟩:=b6e g4 hnum (show (u1-l1).natAbs<=2 ^ 24 by omega);have hs:2 ^ (k+1+1)<2 ^ (U1-25):=b5H (by omega);rw[b9X m2 g3];refine decide_eq_decide.2 ?_;have hn0:decide (u2-p2<0)=false:=decide_eq_false (by omega);rw[hn0,Bool.false_xor]at q2;rw[hcross,Int.sub_self,Int.zero_mul];generalize 2 ^ (k+1+1)=t at *;generalize 2 ^ (U1-25)=u at *;rcases hx with hx|hx
  ·have hneg:¬V w<0:=by rw[q2];simp;omega
   have:=m3 (by omega);have hm:0<(u2-p2)*(p1-l1):=Int.mul_pos (by omega) (by omega);omega
  ·have hneg:V w<0:=by rw[q2];simp;omega
   have:=m4 (by omega);have hm:(u2-p2)*(p1-l1)<0:=Int.mul_neg_of_pos_of_neg (by omega) (by omega);omega
end Go.Fl

namespace Go.Proofs.Tryz.Sx
open Go Go.Sx Go.Proofs Go.Fl Go.Geo
set_option maxRecDepth 100000
def Ray(q:Nat)(p2 a2 b2:Int):Prop:=(FI q p2/\p2≠a2/\p2≠b2)∨(b4G q p2/\(p2=a2∨p2=b2))
theorem Ray.lt{q y:Nat}{p2 a2 b2 m:Int}(h:Ray q p2 a2 b2)(hy:FI y m):fLt .f64 q y=decide (p2<m):=by
 rcases h with⟨h,_⟩|⟨h,_⟩
 ·exact Z5 h hy
 ·exact b8X h hy
theorem Ray.gt{q y:Nat}{p2 a2 b2 m:Int}(h:Ray q p2 a2 b2)(hy:FI y m)(hm:m=a2∨m=b2):fGt .f64 q y=decide (m<=p2):=by
 rcases h with⟨h,h1,h2⟩|⟨h,_⟩
 ·rw[a1b h hy];exact decide_eq_decide.2 (by omega)
 ·exact b8A h hy
theorem b8j{a1 a2 b1 b2 p1 p2:Int}(f:(a2<b2/\a2<=p2/\p2<b2)∨(b2<a2/\b2<=p2/\p2<a2))(h1:a1<=p1)(h2:b1<=p1):¬Lft a1 a2 b1 b2 p1 p2:=by
 intro h;unfold Lft at h;rcases f with⟨f1,f2,f3⟩|⟨f1,f2,f3⟩
 ·have:=a4J f2 f3 h1 h2;omega
 ·have:=a4J f2 f3 h2 h1;omega
theorem b9n{a1 a2 b1 b2 p1 p2:Int}(hn:¬On a1 a2 b1 b2 p1 p2)(f:(a2<b2/\a2<=p2/\p2<b2)∨(b2<a2/\b2<=p2/\p2<a2))(h1:p1<=a1)(h2:p1<=b1):Lft a1 a2 b1 b2 p1 p2:=by
 unfold Lft;rcases f with⟨f1,f2,f3⟩|⟨f1,f2,f3⟩
 ·have:=a5A f2 f3 h1 h2;have:=Y7 hn f2 f3;omega
 ·have:=a5A f2 f3 h2 h1;have:=Y7 (λh=>hn (a8X.1 h)) f2 f3;omega
theorem c7V{ax ay bx by' px q:Nat}{a1 a2 b1 b2 p1 p2:Int}(hn:¬On a1 a2 b1 b2 p1 p2)(hl:¬Lft a1 a2 b1 b2 p1 p2):Wp prog 0 c10 (SR px q ax ay bx by') (KK a1 a2 b1 b2 p1 p2):=by
 refine Wp.run gR ?_;exact⟨decide_eq_false (λhh=>hl hh.2),decide_eq_false hn,trivial⟩
section
variable {ax ay bx by' px py q:Nat} {a1 a2 b1 b2 p1 p2:Int} (H:Pts ax ay bx by' px py a1 a2 b1 b2 p1 p2) (R:Ray q p2 a2 b2) (hn:¬On a1 a2 b1 b2 p1 p2)
include H R hn
set_option maxHeartbeats 4000000 in
theorem c6Y(h:(a2<b2/\a2<=p2/\p2<b2)∨(b2<a2/\b2<=p2/\p2<a2)->Wp prog 0 c8 (SR px q ax ay bx by') (KK a1 a2 b1 b2 p1 p2)) :
  Wp prog 0 c7 (SR px q ax ay bx by') (KK a1 a2 b1 b2 p1 p2):=by
 refine Wp.keep _ (Wp.run gR ?_) h;clear h;have e1:=Z5 H.ay H.by';have e2:=R.lt H.ay;have e3:=R.gt H.by' (.inr rfl);have e4:=R.lt H.by';have e5:=R.gt H.ay (.inl rfl)
 repeat' (first|(intro h)|(refine And.intro ?_ ?_))
 all_goals try simp only[e1,e2,e3,e4,e5,decide_eq_true_eq,decide_eq_false_iff_not]at *
 all_goals first
  | exact trivial
  | exact⟨rfl,rfl,rfl,rfl,rfl⟩
  | omega
  | exact decide_eq_false hn
  | exact decide_eq_false (λhh=>by unfold Lft at hh;omega)
set_option maxHeartbeats 4000000 in
theorem c7R(f:(a2<b2/\a2<=p2/\p2<b2)∨(b2<a2/\b2<=p2/\p2<a2))(h:(a1<p1/\p1<b1)∨(b1<p1/\p1<a1)->Wp prog 0 c9 (SR px q ax ay bx by') (KK a1 a2 b1 b2 p1 p2)) :
  Wp prog 0 c8 (SR px q ax ay bx by') (KK a1 a2 b1 b2 p1 p2):=by
 refine Wp.keep _ (Wp.run gR ?_) h;clear h;have _hR:=R;have r1:=b8j (a1:=a1) (b1:=b1) (p1:=p1) f;have r2:=b9n hn f;have e1:=a1b H.ax H.bx;have e2:=a7Q H.px H.ax;have e3:=a7D H.px H.bx;have e4:=a7Q H.px H.bx;have e5:=a7D H.px H.ax;clear f
 repeat' (first|(intro h)|(refine And.intro ?_ ?_))
 all_goals try simp only[e1,e2,e3,e4,e5,decide_eq_true_eq,decide_eq_false_iff_not]at *
 all_goals first
  | exact trivial
  | exact⟨rfl,rfl,rfl,rfl,rfl⟩
  | omega
  | exact decide_eq_false hn
  | exact decide_eq_true ⟨hn,r2 (by omega) (by omega)⟩
  | exact decide_eq_false (λhh=>r1 (by omega) (by omega) hh.2)
set_option maxHeartbeats 4000000 in
theorem c7E(f:(a2<b2/\a2<=p2/\p2<b2)∨(b2<a2/\b2<=p2/\p2<a2))(g:(a1<p1/\p1<b1)∨(b1<p1/\p1<a1))(h:¬Lft a1 a2 b1 b2 p1 p2->Wp prog 0 c10 (SR px q ax ay bx by') (KK a1 a2 b1 b2 p1 p2)) :
  Wp prog 0 c9 (SR px q ax ay bx by') (KK a1 a2 b1 b2 p1 p2):=by
 refine Wp.keep _ (Wp.run gR ?_) h;clear h;have e1:=Z5 H.ay H.by';refine And.intro ?_ ?_
 ·intro h;rw[e1]at h;have h:=oT9 h;have f:a2<=p2/\p2<b2:=by omega
  obtain⟨s1,s2,s3,s4,key⟩:=c0Q H.ax H.ay H.bx H.by' H.px H.ha1 H.ha2 H.hb1 H.hb2 H.hp1 H.hp2 f g (q:=q) (by
   rcases R with⟨h1,h2,h3⟩|⟨h1,h2⟩
   ·exact .inl ⟨h1,h2⟩
   ·exact .inr ⟨h1,by omega⟩)
  have hl:0<=E7 a1 a2 b1 b2 p1 p2↔Lft a1 a2 b1 b2 p1 p2:=by
   have:=Y7 hn f.1 f.2;unfold Lft;omega
  refine And.intro s1 (And.intro s2 ?_);intro r hr;refine And.intro s3 (And.intro s4 ?_);intro w hw;have hk:=key r w hr hw;refine And.intro ?_ ?_
  ·intro h';rw[hk]at h';exact⟨decide_eq_true ⟨hn,hl.1 (oT9 h')⟩,decide_eq_false hn,trivial⟩
  ·intro h';rw[hk]at h';refine And.intro (λhh=>of_decide_eq_false h' (hl.2 hh)) ?_;exact⟨rfl,rfl,rfl,rfl,rfl⟩
 ·intro h;rw[e1]at h;have h:=of_decide_eq_false h;have f:b2<a2/\b2<=p2/\p2<a2:=by omega
  obtain⟨s1,s2,s3,s4,key⟩:=c0Q H.bx H.by' H.ax H.ay H.px H.hb1 H.hb2 H.ha1 H.ha2 H.hp1 H.hp2 f.2 (by omega) (q:=q) (by
   rcases R with⟨h1,h2,h3⟩|⟨h1,h2⟩
   ·exact .inl ⟨h1,h3⟩
   ·exact .inr ⟨h1,by omega⟩)
  have hl:0<=E7 b1 b2 a1 a2 p1 p2↔Lft a1 a2 b1 b2 p1 p2:=by
   have:=Y7 (λh=>hn (a8X.1 h)) f.2.1 f.2.2;unfold Lft;omega
  refine And.intro s1 (And.intro s2 ?_);intro r hr;refine And.intro s3 (And.intro s4 ?_);intro w hw;have hk:=key r w hr hw;refine And.intro ?_ ?_
  ·intro h';rw[hk]at h';exact⟨decide_eq_true ⟨hn,hl.1 (oT9 h')⟩,decide_eq_false hn,trivial⟩
  ·intro h';rw[hk]at h';refine And.intro (λhh=>of_decide_eq_false h' (hl.2 hh)) ?_;exact⟨rfl,rfl,rfl,rfl,rfl⟩
theorem b7l:Wp prog 0 c7 (SR px q ax ay bx by') (KK a1 a2 b1 b2 p1 p2) :=
 c6Y H R hn λf=>c7R H R hn f λg=>c7E H R hn f g λhl=>c7V hn hl
end
theorem c4u{ax ay bx by' px py:Nat}{a1 a2 b1 b2 p1 p2:Int}(H:Pts ax ay bx by' px py a1 a2 b1 b2 p1 p2):Wp prog 0 c0 (A6 302 [.agg [.flt .f64 ax, .flt .f64 ay, .flt .f64 bx, .flt .f64 by'], .agg [.flt .f64 px, .flt .f64 py]] [] 0) (KK a1 a2 b1 b2 p1 p2) :=
 a6I _ _ _ _ _ _ _ _ (c8m H λf1=>c8A H f1 λf2=>c7o H f1 f2 λf3=>c8q H f1 f2 f3 λhn =>
  c8w H (λh=>b7l H (.inl ⟨H.py,h⟩) hn) (λh=>b7l H (.inr ⟨b0s H.py H.hp2,h⟩) hn))
end Go.Proofs.Tryz.Sx

namespace Go.Sx
open Go.RowKit
section
variable {P:Program}
theorem a3x:∀ {n:List Bool} {xs:List SV},U2 n xs=true->xs.length=n.length
 | [],[],_=>rfl
 | [],_ :: _,h=>by simp[U2]at h
 | _ :: _,[],h=>by simp[U2]at h
 | k :: ks,v :: r,h=>by
  unfold U2 at h;split at h
  ·simp only[bA9]at h;simp[a3x h.2]
  ·simp only[bA9]at h;simp[a3x h.2]
  ·cases h
theorem a1r:∀ {n m:List Bool} {xs:List SV},U2 (n++m) xs=true->∃ a b,xs=a++b/\U2 n a=true/\U2 m b=true
 | [],m,xs,h=>⟨[],xs,rfl,rfl,h⟩
 | k :: n,m,[],h=>by simp[U2]at h
 | k :: n,m,v :: r,h=>by
  unfold U2 at h;simp only[List.cons_append]at h;split at h
  ·simp only[bA9]at h;obtain⟨a,b,rfl,h1,h2⟩:=a1r h.2;exact⟨_ :: a,b,rfl,by simp[U2,h.1,h1],h2⟩
  ·simp only[bA9]at h;obtain⟨a,b,rfl,h1,h2⟩:=a1r h.2;refine⟨_ :: a,b,rfl,?_,h2⟩;have:=h.1;simp at this;simp[U2,this,h1]
  ·cases h
theorem a5x:∀ {a b ys:List SV} {r:Bool},lEq (a++b) ys=some r->∃ c d r0 r1,ys=c++d/\lEq a c=some r0/\lEq b d=some r1/\r=(r0&&r1)
 | [],b,ys,r,h=>⟨[],ys,true,r,rfl,by simp[lEq],h,by simp⟩
 | x :: a,b,ys,r,h=>by
  obtain⟨y,ys',b0,b1,rfl,h1,h2,rfl⟩:=a3i h;obtain⟨c,d,r0,r1,rfl,h3,h4,rfl⟩:=a5x h2;exact⟨y :: c,d,b0&&r0,r1,rfl,by simp[lEq,h1,h3],h4,by simp[Bool.and_assoc]⟩
theorem a9x:∀ {a c:List SV} {r:Bool},lEq a c=some r->c.length=a.length
 | [],c,r,h=>by obtain⟨rfl,_⟩:=b3C h;rfl
 | x :: a,c,r,h=>by
  obtain⟨y,ys',b0,b1,rfl,h1,h2,rfl⟩:=a3i h;simp[a9x h2]
theorem b0M:∀(x pre post:List SV),a9.getN (.cells (pre++x++post)) pre.length x.length=some x
 | [],_,_=>by simp[a9.getN]
 | v :: x,pre,post=>by
  simp only[List.length_cons,a9.getN,a9.get,E6];have h1:(pre++v :: x++post)[pre.length]? = some v:=by simp
  rw[h1];have h2:=b0M x (pre++[v]) post;simp only[List.length_append,List.length_cons,List.length_nil,Nat.zero_add,List.append_assoc,List.cons_append,List.nil_append]at h2;simp only[List.append_assoc,List.cons_append];rw[h2]
theorem a3a{T:Tys}(hT:TysOk P T){e:Nat}{te:TI}(ht:ty T e=some te)(ha:te.isAgg=true){pre x post:List SV}(hs:te.size=x.length)(ρ:Rho)(w:World) :
  (part e (p8 ρ (pre++x++post)).toArray pre.length).run P w=.ok (.agg (p8 ρ x).toArray) w:=by
 have:=(U8 (U:=λ_=>True) hT (cs:=pre++x++post) (by rw[G8];exact λv _=>SV.bd_all v) (e:=e) (o:=pre.length) (v:=.agg x)
  (by simp only[a4b,ht,ha,cut,hs];rw[b0M]) ρ w).1
 simpa [SV.den]using this
theorem a7M{T:Tys}(hT:TysOk P T){t e:Nat}{te:TI}{n:List Bool}{D:Nat}(hu:P.underlying t=some (.array 2 e))(ht:ty T e=some te)(ha:te.isAgg=true)(hs:te.size=n.length)
  (he:FE P e n D):FE P t (n++n) (D+1):=by
 intro d xs ys b hx h ρ w;obtain⟨a,c,rfl,h1,h2⟩:=a1r hx;obtain⟨a',c',r0,r1,rfl,h3,h4,rfl⟩:=a5x h;obtain⟨i,hi,hsz,_⟩:=(hT e te ht).run_info;have hc:P.cellsOf e=te.size:=by simp[Program.cellsOf,hi,hsz]
 have la:=a3x h1;have lc:=a3x h2;have la':=a9x h3;have lc':=a9x h4;rw[show d+(D+1)=(d+D)+1 from rfl,run_equalIn_array w (d+D) _ _ hu hi,hc];have p0:=a3a hT ht ha (pre:=[]) (x:=a) (post:=c) (by omega) ρ w;have p1:=a3a hT ht ha (pre:=[]) (x:=a') (post:=c') (by omega) ρ w;have p2:=a3a hT ht ha (pre:=a) (x:=c) (post:=[]) (by omega) ρ w;have p3:=a3a hT ht ha (pre:=a') (x:=c') (post:=[]) (by omega) ρ w;simp only[List.nil_append,List.append_nil,List.length_nil]at p0 p1 p2 p3;rw[show a.length=te.size by omega]at p2;rw[show a'.length=te.size by omega]at p3
 have hr:List.range 2=[0,1]:=rfl;simp only[hr,Op.eqItems,Sem.run_bind,Nat.zero_mul,p0,p1,Result.andThen_ok,he d a a' r0 h1 h3 ρ w];cases r0
 ·simp
 ·simp only[Bool.not_true,Bool.false_eq_true,if_false,Sem.run_bind,Nat.one_mul,p2,p3,Result.andThen_ok,he d c c' r1 h2 h4 ρ w];cases r1 <;> simp
end
end Go.Sx

namespace Go.Proofs.Tryz.Sx
open Go Go.Sx Go.Proofs
set_option maxRecDepth 100000
def G0:Ctx:=⟨⟨tys,[]⟩,[]⟩
theorem g0:B7 Tryz.prog G0:=⟨⟨E1,FlatsOk.nil⟩,j9.nil,by kernel_rfl⟩
def c2f(len:Nat)(g:Nat->Int):Fam:=⟨Nat,λi =>
 ⟨18,[(3, .slcc 1 i),(6, .slcc 0 len),(7, .int .i64 len),(8, .int .i64 i)],[(0,⟨false,23, .ints .i64 (2*len) g,0⟩),(1,⟨true,28, .ints .i64 (2*i) g,2⟩)],2⟩,λi=>i<=len,λi=>len-i⟩
theorem b0K{i:Nat}{g:Nat->Int}{x y:Int}(hx:x=g (2*i))(hy:y=g (2*i+1)):∀ j,j<2*(i+1)->z7 (2*i) g [x,y] 0 j=g j:=by
 intro j hj;subst hx hy;unfold z7;split
 ·rfl
 ·have:j=2*i∨j=2*i+1:=by omega
  rcases this with rfl|rfl <;> simp
noncomputable def a9r:List SV->RdM
 | [.slcc n len]=>.read n λo0=>(match y7 .i64 o0.c with
  | some (m0,g)=>.ret ⟨[.slcc 0 len],[(0,⟨false,23, .ints .i64 m0 g,0⟩)], .slcc 1 len,[],[(1,⟨true,28, .ints .i64 (2*len) g,2⟩)],some (m0=2*len/\len<=2147483647)⟩
  | none=>.fail)
 | _=>.fail
theorem b5Z(len:Nat)(g:Nat->Int){w9:HC}(e9:w9=⟨[.slcc 0 len],[(0,⟨false,23, .ints .i64 (2*len) g,0⟩)], .slcc 1 len,[],[(1,⟨true,28, .ints .i64 (2*len) g,2⟩)],some (2*len=2*len/\len<=2147483647)⟩){T1}(t1:T1=(↑len:Int)){T2}(t2:T2=λ(i:Nat)=>(↑i:Int))
 {T3}(t3:T3=λ(i:Nat)=>(2*len<=2*len/\∀(i:Nat),i<2*len->g i=g i)):J3 G0 1 [(3,c2f len g)] [] (p9 Tryz.f16) (A6 Tryz.f16.ntmps w9.args w9.heap 1) (A8 G0.E.T Tryz.f16.results.toList λS v=>D5 1 w9 S v)=(
 (∃(i:Nat),i<=len/\(i=0/\(True/\len=len)/\T1=T1/\0=(T2 i)/\True)/\True/\(T3 i)/\True/\2*i=0/\True)/\∀(i:Nat),i<=len->(decide ((T2 i)<T1)=true->((0<=(T2 i)/\(T2 i)<T1)/\1<=2*len)/\0+Int.toNat (T2 i) *
 2+2<=2*len/\(2*i=i*2/\(i+1)*16<=140737488355328/\i+1<=9223372036854775807)/\∃(i':Nat),i'<=len/\len-i'<len-i/\((True/\i+1=i')/\(True/\len=len)/\T1=T1/\IntKind.wrap .i64 ((T2 i)+1)=(↑i':Int)/\
 True)/\True/\(T3 i)/\True/\(28=28/\2=2/\2*i'<=2*i+List.length [g (0+Int.toNat (T2 i)*2),g (0+Int.toNat (T2 i)*2+1)]/\∀(i_1:Nat),i_1<2*i'->z7 (2*i) g [g (0+Int.toNat (T2 i)*2),g (0+Int.toNat (T2 i)*2
 + 1)] (0:Int) i_1=g i_1)/\True)/\(decide ((T2 i)<T1)=false->(True/\i=len)/\True/\(28=28/\2=2/\2*len<=2*i/\∀(i:Nat),i<2*len->g i=g i)/\True)):=by subst e9 t1 t2 t3;kernel_rfl
theorem c0A:C4 Tryz.prog 16 (B3 a9r):=by
 refine A5 g0 Tryz.func16 rfl (by kernel_rfl) λargs=>?_
 unfold a9r;split;rotate_left;trivial;rename_i n len;intro o0;try dsimp only
 split;rotate_left;trivial;rename_i m0 g hm0;intro(ho:m0=2*len/\len<=2147483647);obtain⟨hsz0,ho⟩:=ho;subst hsz0;refine⟨?_,_,_,(b5Z len g rfl rfl rfl rfl).mpr ?_⟩
 ·refine j8 rfl ⟨?_,⟨trivial,(y6 hm0).1,trivial⟩⟩;simp[q9,z5,z8,z3,nth,g9]
 ·refine⟨⟨0,by simp⟩,λi hi=>⟨λh=>?_,λh=>?_⟩⟩
  ·have h:=oT9 h;have e:0+(i:Int).toNat*2=2*i:=by omega
   refine⟨by omega,by omega,by omega,i+1,by omega,by omega,⟨⟨trivial,rfl⟩,⟨trivial,rfl⟩,rfl,?_,trivial⟩,trivial,⟨Nat.le_refl _,λ_ _=>rfl⟩,trivial,⟨rfl,rfl,?_,?_⟩,trivial⟩
   ·rw[j5 (by omega) (by omega)];omega
   ·show 2*(i+1)<=2*i+2;omega
   ·exact b0K (by rw[e]) (by rw[e])
  ·have h:=of_decide_eq_false h;have:i=len:=by omega
   subst this;exact⟨⟨trivial,rfl⟩,trivial,⟨rfl,rfl,Nat.le_refl _,λ_ _=>rfl⟩,trivial⟩
end Go.Proofs.Tryz.Sx

namespace Go.Proofs.Tryz.Sx
open Go Go.Sx Go.Proofs Go.Fl Go.Geo
set_option maxRecDepth 100000
def y9(n:Int):Prop := -1048576<=n/\n<=1048576
instance (n:Int):Decidable (y9 n):=by unfold y9;infer_instance
def L7(m:Nat)(g:Nat->Int):Bool:=decide (∀ i,i<m->y9 (g i))
def c2k(len:Nat)(g:Nat->Int)(i:Nat):St :=
 ⟨30,[(5, .slcc 0 len),(6, .int .i64 len),(7, .int .i64 i)],[(0,⟨false,28, .ints .i64 (2*len) g,0⟩)],1⟩
theorem b5m(len:Nat)(g:Nat->Int)(hlen:len<=1000000)(K:St->SV->Prop)(hK:∀ S,K S (.bool (L7 (2*len) g)))(hK1:L7 (2*len) g=true->∀ S,K S .tt)(hK0:L7 (2*len) g=false->∀ S,K S .ff) :
 a0G G0 1 (p9 f19) (A6 30 [.slcc 0 len] [(0,⟨false,28, .ints .i64 (2*len) g,0⟩)] 1) (A8 G0.E.T f19.results.toList K):=by
 apply b8e.mk
 refine⟨{i:Nat // i<=len/\∀ j,j<2*i->y9 (g j)},λi=>c2k len g i.1,λi=>len-i.1,⟨0,Nat.zero_le _,λj hj=>by omega⟩,?_,?_⟩
 ·refine B4.by_names [] ⟨rfl,rfl,rfl,rfl,?_,?_⟩
  ·exact⟨⟨rfl,trivial,rfl⟩,⟨rfl,rfl⟩,⟨rfl,rfl⟩,trivial⟩
  ·exact⟨⟨rfl,trivial,Nat.le_refl _,λ_ _=>rfl⟩,trivial⟩
 ·rintro⟨i,hi,hs⟩;have bad:∀ j,j<2*len->¬y9 (g j)->L7 (2*len) g=false:=λj hj hb=>decide_eq_false (λh=>hb (h j hj))
  refine And.intro ?_ ?_
  ·intro h;have h:(i:Int)<len:=oT9 h;have h0:0+((i:Int)).toNat*2=2*i:=by omega
   refine And.intro (And.intro (And.intro (Int.natCast_nonneg _) h) (show 0<2*len by omega)) ?_;refine And.intro (show 0+((i:Int)).toNat*2+2<=2*len by omega) ?_;have b0:=bad (2*i) (by omega);have b1:=bad (2*i+1) (by omega);refine And.intro ?_ ?_
   ·intro h1;have h1:g (0+((i:Int)).toNat*2) < -1048576:=oT9 h1;rw[h0]at h1;exact hK0 (b0 (λhh=>by unfold y9 at hh;omega)) _
   ·intro h1;have h1:¬g (0+((i:Int)).toNat*2) < -1048576:=of_decide_eq_false h1;refine And.intro ?_ ?_
    ·intro h2;have h2:1048576<g (0+((i:Int)).toNat*2):=oT9 h2;rw[h0]at h2;exact hK0 (b0 (λhh=>by unfold y9 at hh;omega)) _
    ·intro h2;have h2:¬1048576<g (0+((i:Int)).toNat*2):=of_decide_eq_false h2;refine And.intro ?_ ?_
     ·intro h3;have h3:g (0+((i:Int)).toNat*2+1) < -1048576:=oT9 h3;rw[h0]at h3;exact hK0 (b1 (λhh=>by unfold y9 at hh;omega)) _
     ·intro h3;have h3:¬g (0+((i:Int)).toNat*2+1) < -1048576:=of_decide_eq_false h3;refine And.intro ?_ ?_
      ·intro h4;have h4:1048576<g (0+((i:Int)).toNat*2+1):=oT9 h4;rw[h0]at h4;exact hK0 (b1 (λhh=>by unfold y9 at hh;omega)) _
      ·intro h4;have h4:¬1048576<g (0+((i:Int)).toNat*2+1):=of_decide_eq_false h4;rw[h0]at h1 h2 h3 h4;refine⟨⟨i+1,by omega,λj hj=>?_⟩,by show len-(i+1)<len-i;omega,B4.by_names [] ⟨rfl,rfl,rfl,rfl,?_,?_⟩⟩
       ·have:j<2*i∨j=2*i∨j=2*i+1:=by omega
        rcases this with h|rfl|rfl
        ·exact hs j h
        ·unfold y9;omega
        ·unfold y9;omega
       ·refine⟨⟨rfl,trivial,rfl⟩,⟨rfl,rfl⟩,⟨rfl,?_⟩,trivial⟩;show IntKind.i64.wrap ((i:Int)+1)=((i+1:Nat):Int);rw[j5 (by omega) (by omega)];omega
       ·exact⟨⟨rfl,trivial,Nat.le_refl _,λ_ _=>rfl⟩,trivial⟩
  ·intro h;have h:¬((i:Int)<len):=of_decide_eq_false h;have:i=len:=by omega
   subst this;exact hK1 (decide_eq_true hs) _
def a6z:List SV->RdM
 | [.slcc n len]=>.read n λo=>match y7 .i64 o.c with
  | some (m,g)=>.ret ⟨[.slcc 0 len],[(0,⟨false,28, .ints .i64 m g,0⟩)], .bool (L7 m g),[],[],some (m=2*len/\len<=1000000)⟩
  | none=>.fail
 | _=>.fail
theorem b6n:C4 prog 19 (B3 a6z):=by
 refine b8R g0 func19 rfl (by kernel_rfl) λargs=>?_
 unfold a6z;split;rotate_left;trivial;rename_i n len;intro o;try dsimp only
 split;rotate_left;trivial;rename_i m g hm;rintro⟨h1,h2⟩;subst h1;refine⟨?_,rfl,rfl,?_,rfl,rfl,rfl,?_⟩
 ·exact⟨⟨g9,rfl⟩,trivial⟩
 ·exact⟨rfl,trivial,(y6 hm).1,trivial⟩
 ·exact b5m len g h2 _ (λS=>⟨[],rfl,rfl,trivial,rfl⟩) (λh S=>⟨[],h,rfl,trivial,rfl⟩) (λh S=>⟨[],h,rfl,trivial,rfl⟩)
noncomputable section
def a0N(a b c d e f:Int):Prop:=(y9 a/\y9 b)/\(y9 c/\y9 d)/\(y9 e/\y9 f)
theorem a7u{x y:Int}{m n:Nat}(hx:x.natAbs<=m)(hy:y.natAbs<=n) : -((m*n:Nat):Int)<=x*y/\x*y<=((m*n:Nat):Int):=by
 have:=Nat.mul_le_mul hx hy;rw[<-Int.natAbs_mul]at this;omega
theorem b2v{ax ay bx by' px py:Int}(h:a0N ax ay bx by' px py) :
  IntKind.i64.wrap (IntKind.i64.wrap (IntKind.i64.wrap (bx-ax)*IntKind.i64.wrap (py-ay))-IntKind.i64.wrap (IntKind.i64.wrap (by'-ay)*IntKind.i64.wrap (px-ax)))=E7 ax ay bx by' px py:=by
 unfold a0N y9 at h;have m1:=a7u (show (bx-ax).natAbs<=2097152 by omega) (show (py-ay).natAbs<=2097152 by omega);have m2:=a7u (show (by'-ay).natAbs<=2097152 by omega) (show (px-ax).natAbs<=2097152 by omega);have w1:IntKind.i64.wrap (bx-ax)=bx-ax:=j5 (by omega) (by omega);have w2:IntKind.i64.wrap (py-ay)=py-ay:=j5 (by omega) (by omega);have w3:IntKind.i64.wrap (by'-ay)=by'-ay:=j5 (by omega) (by omega);have w4:IntKind.i64.wrap (px-ax)=px-ax:=j5 (by omega) (by omega);rw[w1,w2,w3,w4]
 rw[j5 (n:=(bx-ax)*(py-ay)) (by omega) (by omega),j5 (n:=(by'-ay)*(px-ax)) (by omega) (by omega),j5 (by omega) (by omega)];rfl
def b6r:PF:=fun
 | [.agg [.int .i64 ax, .int .i64 ay], .agg [.int .i64 bx, .int .i64 by'], .agg [.int .i64 px, .int .i64 py]] =>
  some (.int .i64 (E7 ax ay bx by' px py),some (a0N ax ay bx by' px py))
 | _=>none
theorem c8x:E8 prog 87 b6r:=by
 refine J5 g0 func87 rfl (by kernel_rfl) ?_;intro args v p h hp;unfold b6r at h;split at h
 ·injection h with h;injection h with h1 h2;subst h1 h2
  exact⟨rfl,rfl,rfl,b2v hp⟩
 ·cases h
theorem b9j{x y z:Int}:a0Q x y<=z↔x<=z∨y<=z:=by unfold a0Q;split <;> omega
theorem b8U{x y z:Int}:z<=a6B x y↔z<=x∨z<=y:=by unfold a6B;split <;> omega
def a8G:PF:=fun
 | [.agg [.int .i64 ax, .int .i64 ay], .agg [.int .i64 bx, .int .i64 by'], .agg [.int .i64 px, .int .i64 py]] =>
  some (.bool (decide (btw ax bx px/\btw ay by' py)),none)
 | _=>none
theorem c3f:E8 prog 70 a8G:=by
 refine J5 g0 func70 rfl (by kernel_rfl) ?_;intro args v p h hp;unfold a8G at h;split at h
 ·injection h with h;injection h with h1 h2;subst h1 h2
  refine⟨rfl,rfl,rfl,?_⟩
  repeat' (first|(intro h)|(refine And.intro ?_ ?_))
  all_goals (show (_:Bool)=_)
  all_goals simp only[b9j,b8U,decide_eq_true_eq,decide_eq_false_iff_not]at *
  all_goals first
   | (intro hh;unfold btw at hh;omega)
   | exact decide_eq_decide.2 (by unfold btw;omega)
 ·cases h
def GQ:Ctx:=⟨⟨tys,[]⟩,[(70,z4 a8G),(87,z4 b6r)]⟩
theorem gQ:B7 prog GQ:=⟨⟨E1,FlatsOk.nil⟩,j9.cons (.pure c3f) (j9.cons (.pure c8x) j9.nil),by kernel_rfl⟩
def ptF:PF:=fun
 | [.agg [.int .i64 x, .int .i64 y]]=>some (.agg [.flt .f64 (ofI .f64 x), .flt .f64 (ofI .f64 y)],none)
 | _=>none
theorem pt:E8 prog 75 ptF:=by
 refine J5 g0 func75 rfl (by kernel_rfl) ?_;intro args v p h hp;unfold ptF at h;split at h
 ·injection h with h;injection h with h1 h2;subst h1 h2
  refine⟨rfl,rfl,rfl,?_⟩;exact⟨rfl,rfl,trivial⟩
 ·cases h
def wh(x:Nat):Int:=V x / 2 ^ U1
theorem c6z{x:Nat}{n:Int}(h:FI x n):wh x=n:=by
 unfold wh;rw[h.2];exact Int.mul_ediv_cancel _ (Int.ne_of_gt (G1 U1))
def b8W:PF:=fun
 | [.agg [.flt .f64 ax, .flt .f64 ay, .flt .f64 bx, .flt .f64 by'], .agg [.flt .f64 px, .flt .f64 py]] =>
  some (.agg [.bool (decide (¬On (wh ax) (wh ay) (wh bx) (wh by') (wh px) (wh py)/\Lft (wh ax) (wh ay) (wh bx) (wh by') (wh px) (wh py))), .bool (decide (On (wh ax) (wh ay) (wh bx) (wh by') (wh px) (wh py)))],
   some (Pts ax ay bx by' px py (wh ax) (wh ay) (wh bx) (wh by') (wh px) (wh py)))
 | _=>none
theorem ray:E8 prog 90 b8W:=by
 refine a5B gR func90 (c:=c0) rfl (by kernel_rfl) ?_;intro args v p h hp;unfold b8W at h;split at h
 ·injection h with h;injection h with h1 h2;subst h1 h2
  exact⟨rfl,rfl,rfl,c4u hp⟩
 ·cases h
theorem c1X{ax ay bx by' px py:Int}(h:a0N ax ay bx by' px py):Pts (ofI .f64 ax) (ofI .f64 ay) (ofI .f64 bx) (ofI .f64 by') (ofI .f64 px) (ofI .f64 py) ax ay bx by' px py:=by
 unfold a0N y9 at h;exact⟨Q8 (by omega),Q8 (by omega),Q8 (by omega),Q8 (by omega),Q8 (by omega),Q8 (by omega),by omega,by omega,by omega,by omega,by omega,by omega⟩
theorem a6N{n:Int}(h:y9 n):wh (ofI .f64 n)=n:=c6z (Q8 (by unfold y9 at h;omega))
def GJ:Ctx:=⟨⟨tys,[]⟩,[(75,z4 ptF),(90,z4 b8W)]⟩
theorem gJ:B7 prog GJ:=⟨⟨E1,FlatsOk.nil⟩,j9.cons (.pure pt) (j9.cons (.pure ray) j9.nil),by kernel_rfl⟩
def b5Y:PF:=fun
 | [.agg [.int .i64 ax, .int .i64 ay], .agg [.int .i64 bx, .int .i64 by'], .agg [.int .i64 px, .int .i64 py]] =>
  some (.tup [.bool (decide (¬On ax ay bx by' px py/\Lft ax ay bx by' px py)), .bool (decide (On ax ay bx by' px py))],some (a0N ax ay bx by' px py))
 | _=>none
set_option maxHeartbeats 2000000 in
theorem c6U:E8 prog 62 b5Y:=by
 refine J5 gJ func62 rfl (by kernel_rfl) ?_;intro args v p h hp;unfold b5Y at h;split at h
 ·rename_i ax ay bx by' px py;injection h with h;injection h with h1 h2;subst h1 h2
  have hp:a0N ax ay bx by' px py:=hp;refine⟨rfl,rfl,rfl,?_⟩;have w1:=a6N hp.1.1;have w2:=a6N hp.1.2;have w3:=a6N hp.2.1.1;have w4:=a6N hp.2.1.2;have w5:=a6N hp.2.2.1;have w6:=a6N hp.2.2.2;refine And.intro ?_ ?_
  ·rw[w1,w2,w3,w4,w5,w6];exact c1X hp
  ·refine And.intro (by kernel_rfl) ?_;refine And.intro (by kernel_rfl) ?_;refine And.intro ?_ (And.intro ?_ trivial)
   ·show decide _=decide (¬On ax ay bx by' px py/\Lft ax ay bx by' px py);rw[w1,w2,w3,w4,w5,w6]
   ·show decide _=decide (On ax ay bx by' px py);rw[w1,w2,w3,w4,w5,w6]
 ·cases h
end
end Go.Proofs.Tryz.Sx

namespace Go.Fl
open Go.Sx Ieee
theorem b8K{s:Bool}{m u:Nat}{v:Int}(h:signed s m u=v)(hv:v≠0):s=decide (v<0):=by
 rw[J6]at h;cases s
 ·simp only[Bool.false_eq_true,if_false]at h;exact(decide_eq_false (by omega)).symm
 ·simp only[if_true]at h;exact(decide_eq_true (by omega)).symm
theorem c2q:FI 4607182418800017408 1:=by
 have h:=Q8 (n:=1) (by decide);have e:FloatKind.f64.nearest 1=4607182418800017408:=by decide
 rw[e]at h;exact h
end Go.Fl

namespace Go.Proofs.Tryz.Sx
open Go Go.Sx Go.Proofs Go.Fl Go.Geo
set_option maxRecDepth 100000
open Int (toNat)
open Go.IntKind (wrap)
def a1E:PF:=fun
 | [.agg [.int .i64 a, .int .i64 b, .int .i64 c, .int .i64 d]]=>some (.agg [.int .i64 a, .int .i64 b, .int .i64 c, .int .i64 d],none)
 | _=>none
theorem b2I(R:SV->Prop)(a b c d:Int):J3 G0 0 [] [] (p9 f17) (A6 f17.ntmps [.agg [.int .i64 a, .int .i64 b, .int .i64 c, .int .i64 d]] [] 0) (A8 G0.E.T f17.results.toList λ_ v=>R v)=(
(((0:Int)<=0/\(0:Int)<2)/\True)/\(((0:Int)<=1/\(1:Int)<2)/\True)/\R (SV.agg [SV.int .i64 a,SV.int .i64 b,SV.int .i64 c,SV.int .i64 d])):=by kernel_rfl
theorem a9C:E8 prog 17 a1E:=by
 refine G6 g0 func17 rfl (by kernel_rfl) ?_;intro args v p h hp;unfold a1E at h;split at h
 ·rename_i a b c d;injection h with h;injection h with h1 h2;subst h1 h2
  clear hp;refine⟨rfl,_,_,(b2I _ a b c d).mpr ?_⟩;simp[eqv,a2v,A0]
 ·cases h
def a5q:PF:=fun
 | [.agg [.int .i64 a, .int .i64 b, .int .i64 c, .int .i64 d]]=>some (.bool (decide (a<=c/\b<=d)),none)
 | _=>none
theorem b5f(R:SV->Prop)(a b c d:Int):J3 G0 0 [] [] (p9 f20) (A6 f20.ntmps [.agg [.int .i64 a, .int .i64 b, .int .i64 c, .int .i64 d]] [] 0) (A8 G0.E.T f20.results.toList λ_ v=>R v)=(
(((0:Int)<=0/\(0:Int)<2)/\True)/\(((0:Int)<=1/\(1:Int)<2)/\True)/\(decide (a<=c)=true->(((0:Int)<=0/\(0:Int)<2)/\True)/\(((0:Int)<=1/\(1:Int)<2)
/\True)/\R (SV.bool (decide (b<=d))))/\(decide (a<=c)=false->R SV.ff)):=by kernel_rfl
theorem b6a:E8 prog 20 a5q:=by
 refine G6 g0 func20 rfl (by kernel_rfl) ?_;intro args v p h hp;unfold a5q at h;split at h
 ·rename_i a b c d;injection h with h;injection h with h1 h2;subst h1 h2
  clear hp;refine⟨rfl,_,_,(b5f _ a b c d).mpr ?_⟩;simp only[eqv];grind
 ·cases h
def a0O:PF:=fun
 | [.agg [.int .i64 a, .int .i64 b, .int .i64 c, .int .i64 d], .agg [.int .i64 p, .int .i64 q, .int .i64 r, .int .i64 s]]=>some (.bool (decide (a<=r/\p<=c/\b<=s/\q<=d)),none)
 | _=>none
theorem a9s(R:SV->Prop)(a b c d p q r s:Int){T1}(t1:T1=(((0:Int)<=0/\(0:Int)<2)/\True)){T2}(t2:T2=(((0:Int)<=1/\(1:Int)<2)/\True)):J3 GQ 0 [] [] (p9 f32) (A6 f32.ntmps [.agg [.int .i64 a, .int .i64 b, .int .i64 c, .int .i64 d], .agg [.int .i64 p, .int .i64 q, .int .i64 r, .int .i64 s]] [] 0) (A8 GQ.E.T f32.results.toList λ_ v=>R v)=(
 T1/\T2/\(decide (a<=r)=true->T1/\T2/\(decide (p<=c)=true->T1/\T2/\(decide (b<=s)=true->T1/\(((0:Int)<=(1:Int)/\(1:Int)<2)/\True)/\R (SV.bool (decide (q<=d))))/\(decide (b<=s)=false->R SV.ff))/\(decide (p<=c) =
 false->R SV.ff))/\(decide (a<=r)=false->R SV.ff)):=by subst t1 t2;kernel_rfl
theorem a8k:E8 prog 32 a0O:=by
 refine G6 gQ func32 rfl (by kernel_rfl) ?_;intro args v p h hp;unfold a0O at h;split at h
 ·rename_i a b c d p q r s;injection h with h;injection h with h1 h2;subst h1 h2
  clear hp;refine⟨rfl,_,_,(a9s _ a b c d p q r s rfl rfl).mpr ?_⟩;simp only[eqv];grind
 ·cases h
def GP:Ctx:=⟨⟨tys,[]⟩,[(75,z4 ptF)]⟩
theorem gP:B7 prog GP:=⟨⟨E1,FlatsOk.nil⟩,j9.cons (.pure pt) j9.nil,by kernel_rfl⟩
def a8I:PF:=fun
 | [.agg [.int .i64 a, .int .i64 b, .int .i64 c, .int .i64 d]]=>some (.agg [.flt .f64 (ofI .f64 a), .flt .f64 (ofI .f64 b), .flt .f64 (ofI .f64 c), .flt .f64 (ofI .f64 d)],none)
 | _=>none
theorem b4p(R:SV->Prop)(a b c d:Int):J3 GP 0 [] [] (p9 f68) (A6 f68.ntmps [.agg [.int .i64 a, .int .i64 b, .int .i64 c, .int .i64 d]] [] 0) (A8 GP.E.T f68.results.toList λ_ v=>R v)=(
(((0:Int)<=0/\(0:Int)<2)/\True)/\(((0:Int)<=1/\(1:Int)<2)/\True)/\true=true/\R (SV.agg [SV.flt .f64 (ofI .f64 a),SV.flt .f64 (ofI .f64 b),SV.flt .f64 (ofI .f64 c),SV.flt .f64
(ofI .f64 d)])):=by kernel_rfl
theorem c3i:E8 prog 68 a8I:=by
 refine G6 gP func68 rfl (by kernel_rfl) ?_;intro args v p h hp;unfold a8I at h;split at h
 ·rename_i a b c d;injection h with h;injection h with h1 h2;subst h1 h2
  clear hp;refine⟨rfl,_,_,(b4p _ a b c d).mpr ?_⟩;simp[eqv,a2v,C0]
 ·cases h
def a6X:PF:=fun
 | [.agg [.flt .f64 a, .flt .f64 b, .flt .f64 c, .flt .f64 d], .agg [.flt .f64 p, .flt .f64 q, .flt .f64 r, .flt .f64 s]]=>some (.bool (!(fGt .f64 b s) && !(fLt .f64 d q) && !(fGt .f64 a r) && !(fLt .f64 c p)),none)
 | _=>none
theorem b6S(R:SV->Prop)(a b c d p q r s:Nat):J3 G0 0 [] [] (p9 f175) (A6 f175.ntmps [.agg [.flt .f64 a, .flt .f64 b, .flt .f64 c, .flt .f64 d], .agg [.flt .f64 p, .flt .f64 q, .flt .f64 r, .flt .f64 s]] [] 0) (A8 G0.E.T f175.results.toList λ_ v=>R v)=(
(fGt .f64 b s=true->R SV.ff)/\(fGt .f64 b s=false->(fLt .f64 d q=true->R SV.ff)/\(fLt .f64 d q=false->(fGt .f64 a r=true->R SV.ff)/\(fGt .f64 a r=false->(fLt .f64 c p=true->R SV.ff)/\
(fLt .f64 c p=false->R SV.tt))))):=by kernel_rfl
theorem b6V:E8 prog 175 a6X:=by
 refine G6 g0 func175 rfl (by kernel_rfl) ?_;intro args v p h hp;unfold a6X at h;split at h
 ·rename_i a b c d p q r s;injection h with h;injection h with h1 h2;subst h1 h2
  clear hp;refine⟨rfl,_,_,(b6S _ a b c d p q r s).mpr ?_⟩;simp only[eqv];grind
 ·cases h
def c8i(x y:Nat):Bool:=fGe .f64 x 13863909240395005952&&fLe .f64 x 4640537203540230144&&fGe .f64 y 13859405640767635456&&fLe .f64 y 4636033603912859648
def fdiv(x y:Nat):Nat:=(floatBits .quo .f64 x y).getD 0
def b1Z(x y:Nat):Prop:=(floatBits .quo .f64 x y).isSome=true
theorem S8{x y r:Nat}(h:D4 .f64 x y r)(hk:b1Z x y):r=fdiv x y:=by
 unfold D4 at h;unfold b1Z at hk;unfold fdiv
 cases hq:floatBits .quo .f64 x y with
 | none=>rw[hq]at hk;cases hk
 | some v=>rw[hq]at h;simpa using h
def b1P:PF:=fun
 | [.agg [.flt .f64 x, .flt .f64 y]]=>some (.agg [.int .i64 (toI .f64 x .i64), .int .i64 (toI .f64 y .i64)],some (a6U .f64 x .i64/\a6U .f64 y .i64))
 | _=>none
theorem b8h(R:SV->Prop)(x y:Nat):J3 G0 0 [] [] (p9 f80) (A6 f80.ntmps [.agg [.flt .f64 x, .flt .f64 y]] [] 0) (A8 G0.E.T f80.results.toList λ_ v=>R v)=(
 a6U .f64 x .i64/\a6U .f64 y .i64/\R (SV.agg [SV.int .i64 (toI .f64 x .i64),SV.int .i64 (toI .f64 y .i64)])):=by kernel_rfl
theorem c5y:E8 prog 80 b1P:=by
 refine G6 g0 func80 rfl (by kernel_rfl) ?_;intro args v p h hp;unfold b1P at h;split at h
 ·rename_i x y;injection h with h;injection h with h1 h2;subst h1 h2
  have hp:a6U .f64 x .i64/\a6U .f64 y .i64:=hp;refine⟨rfl,_,_,(b8h _ x y).mpr ?_⟩;exact⟨hp.1,hp.2,rfl,rfl,trivial⟩
 ·cases h
def GA:Ctx:=⟨⟨tys,[]⟩,[(62,z4 b5Y)]⟩
theorem gA:B7 prog GA:=⟨⟨E1,FlatsOk.nil⟩,j9.cons (.pure c6U) j9.nil,by kernel_rfl⟩
def a9n:PF:=fun
 | []=>some (.tt,none)
 | _=>none
theorem b6C(R:SV->Prop):J3 GA 0 [] [] (p9 f21) (A6 f21.ntmps [] [] 0) (A8 GA.E.T f21.results.toList λ_ v=>R v)=(
 a0N (0:Int) (0:Int) (2:Int) (2:Int) (1:Int) (1:Int)/\R (SV.bool true)):=by kernel_rfl
theorem c0Y:E8 prog 21 a9n:=by
 refine G6 gA func21 rfl (by kernel_rfl) ?_;intro args v p h hp;unfold a9n at h;split at h
 ·injection h with h;injection h with h1 h2;subst h1 h2
  clear hp;refine⟨rfl,_,_,(b6C _).mpr ?_⟩;exact⟨by unfold a0N y9;omega,by simp[eqv]⟩
 ·cases h
theorem c1V:a1A prog 28 [false,false] :=
 (W3 E1 (t:=28) (e0:=2) (e1:=2) underlying28 (by kernel_rfl) (by decide) (by decide) ⟨rfl,rfl⟩ ⟨rfl,rfl⟩ (by rfl) (by rfl) rfl rfl).flat (by kernel_rfl) (by decide)
theorem c7C:FE prog 28 [false,false] 2 :=
 W3 E1 (t:=28) (e0:=2) (e1:=2) underlying28 (by kernel_rfl) (by decide) (by decide) ⟨rfl,rfl⟩ ⟨rfl,rfl⟩ (by rfl) (by rfl) rfl rfl
theorem c2K:a1A prog 23 [false,false] :=
 (W3 E1 (t:=23) (e0:=2) (e1:=2) underlying23 (by kernel_rfl) (by decide) (by decide) ⟨rfl,rfl⟩ ⟨rfl,rfl⟩ (by rfl) (by rfl) rfl rfl).flat (by kernel_rfl) (by decide)
theorem c2R:a1A prog 29 [false,false,false,false] :=
 (a7M E1 (t:=29) (e:=28) underlying29 (by rfl) rfl rfl c7C).flat (by kernel_rfl) (by decide)
def FL:Flats:=[(28,[false,false]),(23,[false,false]),(29,[false,false,false,false])]
theorem c4g:FlatsOk prog FL:=FlatsOk.cons c1V (FlatsOk.cons c2K (FlatsOk.cons c2R FlatsOk.nil))
def GS:Ctx:=⟨⟨tys,FL⟩,[(17,z4 a1E)]⟩
theorem gS:B7 prog GS:=⟨⟨E1,c4g⟩,j9.cons (.pure a9C) j9.nil,by kernel_rfl⟩
def b9W(m:Nat)(g h:Nat->Int):Prop:=∀ j,j<m->g j=h j
instance (m:Nat) (g h:Nat->Int):Decidable (b9W m g h):=by unfold b9W;infer_instance
def I0(g:Nat->Int)(len:Nat)(j:Nat):Int:=if j / 4+1<len then g (2*(j / 4)+j % 4)else if j % 4<2 then g (2*(j / 4)+j % 4)else g (j % 4-2)
def c6C(len:Nat)(b:Bool)(g:Nat->Int):Fam:=⟨Nat,λi =>
 ⟨62,[(0, .slcc 0 len),(1, .bool b),(5, .slcc 1 i),(21, .int .i64 ((len:Int)-1)),(22, .int .i64 i)],[(0,⟨false,28, .ints .i64 (2*len) g,0⟩),(1,⟨true,29, .ints .i64 (4*i) (I0 g len),4⟩)],2⟩,λi=>i+1<=len,λi=>len-i⟩
def c4h(len:Nat)(b:Bool)(g:Nat->Int):Fam:=⟨Nat,λ_ =>
 ⟨62,[(0, .slcc 0 len),(1, .bool b),(5, .nils)],[(0,⟨false,28, .ints .i64 (2*len) g,0⟩)],1⟩,λ_=>2<=len/\(b=true->3<=len),λ_=>0⟩
def j7(len:Nat)(b:Bool)(g:Nat->Int):Nat :=
 if len<2∨(b=true/\len<3)then 0 else if b=true/\¬(g (2*len-2)=g 0/\g (2*len-1)=g 1)then len else len-1
theorem a8d{i:Nat}{f:Nat->Int}{x y z w:Int}(hx:x=f (4*i))(hy:y=f (4*i+1))(hz:z=f (4*i+2))(hw:w=f (4*i+3)):∀ j,j<4*(i+1)->z7 (4*i) f [x,y,z,w] 0 j=f j:=by
 intro j hj;subst hx hy hz hw;unfold z7;split
 ·rfl
 ·have:j=4*i∨j=4*i+1∨j=4*i+2∨j=4*i+3:=by omega
  rcases this with rfl|rfl|rfl|rfl <;> simp
theorem b3f{g:Nat->Int}{len i:Nat}(h:i+1<len):I0 g len (4*i)=g (2*i)/\I0 g len (4*i+1)=g (2*i+1)/\I0 g len (4*i+2)=g (2*i+2)/\I0 g len (4*i+3)=g (2*i+3):=by
 have key:∀ k,k<4->I0 g len (4*i+k)=g (2*i+k):=by
  intro k hk;have h1:(4*i+k) / 4=i:=by omega
  have h2:(4*i+k) % 4=k:=by omega
  unfold I0;rw[h1,h2,if_pos h]
 exact⟨key 0 (by decide),key 1 (by decide),key 2 (by decide),key 3 (by decide)⟩
theorem b3Q{g:Nat->Int}{len i:Nat}(h:¬i+1<len):I0 g len (4*i)=g (2*i)/\I0 g len (4*i+1)=g (2*i+1)/\I0 g len (4*i+2)=g 0/\I0 g len (4*i+3)=g 1:=by
 have key:∀ k,k<4->I0 g len (4*i+k)=if k<2 then g (2*i+k)else g (k-2):=by
  intro k hk;have h1:(4*i+k) / 4=i:=by omega
  have h2:(4*i+k) % 4=k:=by omega
  unfold I0;rw[h1,h2,if_neg h]
 exact⟨key 0 (by decide),key 1 (by decide),key 2 (by decide),key 3 (by decide)⟩
noncomputable def a3O:List SV->RdM
 | [.slcc n len,bb]=>.read n λo0=>(match y7 .i64 o0.c with
  | some (m0,g)=>(match bb.toB with
  | some b=>.ret ⟨[.slcc 0 len, .bool b],[(0,⟨false,28, .ints .i64 m0 g,0⟩)], .slcc 1 (j7 len b g),[],[(1,⟨true,29, .ints .i64 (4*j7 len b g) (I0 g len),4⟩)],some (m0=2*len/\len<=1000000)⟩
  | none=>.fail)
  | none=>.fail)
 | _=>.fail
theorem b2q(len:Nat)(b:Bool)(g:Nat->Int){w9:HC}(e9:w9=⟨[.slcc 0 len, .bool b],[(0,⟨false,28, .ints .i64 (2*len) g,0⟩)], .slcc 1 (j7 len b g),[],[(1,⟨true,29, .ints .i64 (4*j7 len b g) (I0 g len),4⟩)],some (2*len=2*len/\len<=1000000)⟩){T1}(t1:T1=(↑len:Int))
 {T2}(t2:T2=(wrap .i64 (T1-1))) {T3}(t3:T3=λ(i:Nat)=>(wrap .i64 ((↑i:Int)+1))) {T4}(t4:T4=λ(i:Nat)=>(29=29/\4=4/\4*j7 len b g<=4*i/\∀(i:Nat),i<4*j7 len b g->I0 g len i=I0 g len i))
 {T5}(t5:T5=(!(g (0+toNat T2*2)==g 0&&(g (0+toNat T2*2+1)==g 1&&true)))) {T6}(t6:T6=λ(i:Nat)=>(4*i=i*4/\(i+1)*32<=140737488355328/\i+1<=9223372036854775807)) {T7}(t7:T7=(2*len<=2*len/\∀(i:Nat),i
 < 2*len->g i=g i)) {T8}(t8:T8=λ(i:Nat)=>(↑i:Int)) {T9}(t9:T9=(True/\len=len)) {T10}(t10:T10=λ(i:Nat)=>(2*len<=2*len/\∀(i:Nat),i<2*len->g i=g i)):J3 GS 1 [(5,c6C len b g)] [(4,c4h len b g)] (p9 f31) (A6 f31.ntmps w9.args w9.heap 1) (A8 GS.E.T f31.results.toList λS v=>D5 1 w9 S v)=(
 ((decide (T1<2)=true->j7 len b g=0/\True/\4*j7 len b g=0/\True)/\(decide (T1<2)=false->(b=true->(decide (T1<(3:Int))=true->j7 len b g=0/\True/\4*j7 len b g=0/\True)/\(decide (T1<3)=false->∃ (_
 : Nat),(2<=len/\(b=true->3<=len))/\(T9/\b=b/\True/\True)/\True/\T7/\True))/\(b=false->∃(_:Nat),(2<=len/\(b=true->3<=len))/\(T9/\b=b/\True/\True)/\True/\T7/\True)))/\∀(_:Nat),2<=len/\(b=true->3<=len)->
 (∃(i:Nat),i+1<=len/\(T9/\b=b/\i=0/\wrap .i64 (T1-1)=T1-1/\0=(T8 i)/\True)/\True/\(T10 i)/\True/\4*i=0/\True)/\∀(i:Nat),i+1<=len->(decide ((T8 i)<T1-1)=true->((0<=(T8 i)/\(T8 i)<T1)/\1<=2
 * len)/\0+toNat (T8 i)*2+2<=2*len/\(((0:Int)<=wrap .i64 ((T8 i)+1)/\wrap .i64 ((T8 i)+1)<T1)/\1<=2*len)/\0+toNat (T3 i)*2+2<=2*len/\(T6 i)/\true=true/\∃(i':Nat),i'+1<=len/\len -
 i'<len-i/\(T9/\b=b/\(True/\i+1=i')/\T1-1=T1-1/\wrap .i64 ((T8 i)+1)=(↑i':Int)/\True)/\True/\(T10 i)/\True/\(29=29/\4=4/\4*i'<=4*i+List.length [g (0+toNat (T8 i)*2),g (0+toNat (T8 i)
 * 2+1),g (0+toNat (T3 i)*2),g (0+toNat (T3 i)*2+1)]/\∀(i_1:Nat),i_1<4*i'->z7 (4*i) (I0 g len) [g (0+toNat (T8 i)*2),g (0+toNat (T8 i)*2+1),g (0+toNat (T3 i)*2),g (0+toNat (T3 i)
 * 2+1)] (0:Int) i_1=I0 g len i_1)/\True)/\(decide ((T8 i)<T1-1)=false->(((0:Int)<=wrap .i64 (T1-(1:Int))/\wrap .i64 (T1-1)<T1)/\1<=2*len)/\0+toNat T2*2+2<=2*len/\(b=true->b=true/\
 (((0:Int)<=0/\0<T1)/\1<=2*len)/\2<=2*len/\true=true/\(T5=true->(((0:Int)<=0/\0<T1)/\1<=2*len)/\2<=2*len/\(T6 i)/\true=true/\(True/\i+1=j7 len b g)/\True/\(29=29/\4=4/\4*j7 len b g<=4*i +
 List.length [g (0+toNat T2*2),g (0+toNat T2*2+1),g 0,g 1]/\∀(i_1:Nat),i_1<4*j7 len b g->z7 (4*i) (I0 g len) [g (0+toNat (wrap .i64 (T1-(1:Int)))*2),g (0+toNat T2*2+1),g 0,g 1]
 (0:Int) i_1=I0 g len i_1)/\True)/\(T5=false->(True/\i=j7 len b g)/\True/\(T4 i)/\True))/\(b=false->b=false/\true=true/\(True/\i=j7 len b g)/\True/\(T4 i)/\True))):=by subst e9 t1 t2 t3 t4 t5 t6 t7 t8 t9 t10;kernel_rfl
theorem b4b:C4 prog 31 (B3 a3O):=by
 refine A5 gS func31 rfl (by kernel_rfl) λargs=>?_
 unfold a3O;split;rotate_left;trivial;rename_i n len bb;intro o0;try dsimp only
 split;rotate_left;trivial;rename_i m0 g hm0;try dsimp only
 split;rotate_left;trivial;rename_i b hb;intro(ho:m0=2*len/\len<=1000000);obtain⟨hsz0,ho⟩:=ho;subst hsz0;refine⟨?_,_,_,(b2q len b g rfl rfl rfl rfl rfl rfl rfl rfl rfl rfl rfl).mpr ?_⟩
 ·refine j8 rfl ⟨?_,⟨trivial,(y6 hm0).1,trivial⟩⟩;simp[q9,z5,z8,z3,nth,g9,J9 hb]
 ·have hwl:IntKind.i64.wrap ((len:Int)-1)=(len:Int)-1:=j5 (by omega) (by omega);refine⟨⟨λh=>?_,λh=>⟨λhb=>⟨λh3=>?_,λh3=>?_⟩,λhb=>?_⟩⟩,λ_ hl=>⟨⟨0,by omega,by simp[hwl]⟩,λi hi=>⟨λh=>?_,λh=>?_⟩⟩⟩
  ·have h:=oT9 h;have:j7 len b g=0:=if_pos (.inl (by omega));simp[this]
  ·have h3:=oT9 h3;have:j7 len b g=0:=if_pos (.inr ⟨hb,by omega⟩);simp[this]
  ·have h3:=of_decide_eq_false h3;exact⟨0,⟨by omega,λ_=>by omega⟩,by simp⟩
  ·have h:=of_decide_eq_false h;exact⟨0,⟨by omega,λhh=>by simp[hb]at hh⟩,by simp⟩
  ·have h:=oT9 h;have e:0+(i:Int).toNat*2=2*i:=by omega
   have hw:IntKind.i64.wrap ((i:Int)+1)=((i+1:Nat):Int):=by rw[j5 (by omega) (by omega)];omega
   have e1:0+((i+1:Nat):Int).toNat*2=2*i+2:=by omega
   obtain⟨s0,s1,s2,s3⟩:=b3f (g:=g) (len:=len) (i:=i) (by omega);rw[hw,e,e1];refine⟨by omega,by omega,by omega,by omega,by omega,rfl,i+1,by omega,by omega,by simp,trivial,by simp,trivial,⟨rfl,rfl,?_,a8d s0.symm s1.symm s2.symm s3.symm⟩,trivial⟩;show 4*(i+1)<=4*i+4;omega
  ·have h:=of_decide_eq_false h;have hil:i=len-1:=by omega
   subst hil;have e:0+((len:Int)-1).toNat*2=2*len-2:=by omega
   rw[hwl,e]
   have hn2:¬(len<2∨b=true/\len<3):=by
    intro hh;rcases hh with hh|⟨hh,hh'⟩
    ·omega
    ·have:=hl.2 hh;omega
   have e1:2*len-2+1=2*len-1:=by omega
   rw[e1];refine⟨by omega,by omega,λhb=>⟨hb,by omega,by omega,rfl,λhne=>?_,λheq=>?_⟩,λhb=>?_⟩
   ·have hns:j7 len b g=len:=by
     unfold j7;rw[if_neg hn2,if_pos ⟨hb,λhh=>by simp[hh.1,hh.2]at hne⟩]
    obtain⟨s0,s1,s2,s3⟩:=b3Q (g:=g) (len:=len) (i:=len-1) (by omega);have e2:2*(len-1)=2*len-2:=by omega
    rw[e2]at s0 s1;rw[e1]at s1;rw[hns];refine⟨by omega,by omega,by omega,rfl,⟨trivial,by omega⟩,trivial,⟨rfl,rfl,?_,?_⟩,trivial⟩
    ·show 4*len<=4*(len-1)+4;omega
    ·have:=a8d s0.symm s1.symm s2.symm s3.symm;rw[show len-1+1=len by omega]at this;exact this
   ·have hns:j7 len b g=len-1:=by
     unfold j7;rw[if_neg hn2,if_neg];simp at heq;exact λhh=>hh.2 ⟨heq.1,heq.2⟩
    simp[hns]
   ·have hns:j7 len b g=len-1:=by
     unfold j7;rw[if_neg hn2,if_neg];exact λhh=>by simp[hb]at hh
    simp[hns];exact hb
def nx(len i:Nat):Nat:=if i+1=len then 0 else i+1
def nx2(len i:Nat):Nat:=if i+1=len then 1 else if i+2=len then 0 else i+2
def la(g:Nat->Nat)(k:Nat):Nat->Nat
 | 0=>0
 | i+1=>g (2*i+k)
def lb(g:Nat->Nat)(len k:Nat):Nat->Nat
 | 0=>0
 | i+1=>g (2*nx len i+k)
def lc(g:Nat->Nat)(len k:Nat):Nat->Nat
 | 0=>0
 | i+1=>g (2*nx2 len i+k)
def b2O(i x y:Nat):Nat:=if i=0∨fLt .f64 x y=true then x else y
def a6J(i x lo hi:Nat):Nat:=if i=0 then x else if fLt .f64 x lo=true then hi else if fGt .f64 x hi=true then x else hi
def rlo(g:Nat->Nat)(k:Nat):Nat->Nat
 | 0=>0
 | i+1=>b2O i (g (2*i+k)) (rlo g k i)
def rhi(g:Nat->Nat)(k:Nat):Nat->Nat
 | 0=>0
 | i+1=>a6J i (g (2*i+k)) (rlo g k i) (rhi g k i)
def b6j(s ax ay bx by':Nat):Nat:=fop .add .f64 s (fop .mul .f64 (fop .sub .f64 bx ax) (fop .add .f64 by' ay))
def cwF(g:Nat->Nat)(len:Nat):Nat->Nat
 | 0=>0
 | i+1=>b6j (cwF g len i) (g (2*i)) (g (2*i+1)) (g (2*nx len i)) (g (2*nx len i+1))
def zcF(g:Nat->Nat)(len i:Nat):Nat :=
 fop .sub .f64 (fop .mul .f64 (fop .sub .f64 (g (2*nx len i)) (g (2*i))) (fop .sub .f64 (g (2*nx2 len i+1)) (g (2*nx len i+1))))
  (fop .mul .f64 (fop .sub .f64 (g (2*nx len i+1)) (g (2*i+1))) (fop .sub .f64 (g (2*nx2 len i)) (g (2*nx len i))))
def c0u(d:Int)(c:Bool)(z:Nat):Int×Bool :=
 if c=true then(d,c)else if d=0 then(if fLt .f64 z 0=true then(-1,c)else if fGt .f64 z 0=true then(1,c)else(d,c))
 else if fLt .f64 z 0=true then(d,decide (d=1))else if fGt .f64 z 0=true then(d,decide (d = -1))else(d,c)
def dcF(g:Nat->Nat)(len:Nat):Nat->Int×Bool
 | 0=>(0,false)
 | i+1=>c0u (dcF g len i).1 (dcF g len i).2 (zcF g len i)
def l9(len:Nat)(cl:Bool):Bool:=decide (2<=len/\(cl=true->3<=len))
def pick(b:Bool)(x:Nat):Nat:=if b=true then x else 0
def c6D(s ax ay bx by':Nat):Prop:=fok .sub .f64 bx ax/\fok .add .f64 by' ay/\fok .mul .f64 (fop .sub .f64 bx ax) (fop .add .f64 by' ay)/\fok .add .f64 s (fop .mul .f64 (fop .sub .f64 bx ax) (fop .add .f64 by' ay))
def c6h(ax ay bx by' cx cy:Nat):Prop:=fok .sub .f64 bx ax/\fok .sub .f64 cy by'/\fok .mul .f64 (fop .sub .f64 bx ax) (fop .sub .f64 cy by')/\fok .sub .f64 by' ay/\fok .sub .f64 cx bx/\fok .mul .f64 (fop .sub .f64 by' ay) (fop .sub .f64 cx bx)/\
 fok .sub .f64 (fop .mul .f64 (fop .sub .f64 bx ax) (fop .sub .f64 cy by')) (fop .mul .f64 (fop .sub .f64 by' ay) (fop .sub .f64 cx bx))
def ppOk(g:Nat->Nat)(len:Nat):Prop:=∀ i,i<len->c6D (cwF g len i) (g (2*i)) (g (2*i+1)) (g (2*nx len i)) (g (2*nx len i+1))/\
 c6h (g (2*i)) (g (2*i+1)) (g (2*nx len i)) (g (2*nx len i+1)) (g (2*nx2 len i)) (g (2*nx2 len i+1))
def ppH(len:Nat)(g:Nat->Nat)(r a b c:List SV):A1:=[(0,⟨false,100, .flts .f64 (2*len) g,0⟩),(1,⟨true,102, .cells r,0⟩),(2,⟨true,100, .cells a,0⟩),(3,⟨true,100, .cells b,0⟩),(4,⟨true,100, .cells c,0⟩)]
def pf(x:Nat):SV:=.flt .f64 x
def ppS(len i:Nat)(cl:Bool)(cw:Nat)(d:Int)(cc:Bool):Slots :=
 [(0, .slcc 0 len),(1, .bool cl),(5, .ptr 1 0),(7, .bool cc),(8, .int .i64 d),(9, .ptr 2 0),(10, .ptr 3 0),(11, .ptr 4 0),(12, .flt .f64 cw),(13, .int .i64 i)]
def c4l(len i:Nat)(cl:Bool)(g:Nat->Nat)(rx ry:Nat)(ai bi:Nat)(cwi:Nat)(di:Nat):St :=
 ⟨201,ppS len i cl (cwF g len cwi) (dcF g len di).1 (dcF g len di).2,
  ppH len g [pf (rlo g 0 rx),pf (rlo g 1 ry),pf (rhi g 0 rx),pf (rhi g 1 ry)] [pf (la g 0 ai),pf (la g 1 ai)] [pf (lb g len 0 bi),pf (lb g len 1 bi)] [pf (lc g len 0 bi),pf (lc g len 1 bi)],5⟩
def one(len i:Nat)(cl:Bool)(g:Nat->Nat)(rx ry ai bi cwi di:Nat)(p:Prop):Fam:=⟨Nat,λ_=>c4l len i cl g rx ry ai bi cwi di,λ_=>p,λ_=>0⟩
def ppL(len:Nat)(cl:Bool)(g:Nat->Nat):R5 :=
 ⟨⟨Nat,λi=>c4l len i cl g i i i i i i,λi=>i<=len/\l9 len cl=true,λi=>len-i⟩,λi=>[
  (19,one len i cl g (i+1) (i+1) i i i i (i<len/\l9 len cl=true)),
  (20,one len i cl g (i+1) (i+1) (i+1) i i i (i<len/\l9 len cl=true)),
  (28,one len i cl g (i+1) (i+1) (i+1) (i+1) i i (i<len/\l9 len cl=true)),
  (29,one len i cl g (i+1) (i+1) (i+1) (i+1) (i+1) i (i<len/\l9 len cl=true))]⟩
def ppK(len:Nat)(cl:Bool)(g:Nat->Nat):Fam:=⟨Nat,λ_=>⟨201,[(0, .slcc 0 len),(1, .bool cl),(5, .ptr 1 0)],[(0,⟨false,100, .flts .f64 (2*len) g,0⟩),(1,⟨true,102, .cells [pf 0,pf 0,pf 0,pf 0],0⟩)],2⟩,λ_=>l9 len cl=true,λ_=>0⟩
noncomputable def b2b:List SV->RdM
 | [.slcc n len,v]=>.read n λo0=>(match A9 .f64 o0.c with
  | some (m0,g)=>(match v.toB with
  | some cl=>.ret ⟨[.slcc 0 len, .bool cl],[(0,⟨false,100, .flts .f64 m0 g,0⟩)], .tup [.bool (l9 len cl && !(dcF g len len).2), .agg [.flt .f64 (pick (l9 len cl) (rlo g 0 len)), .flt .f64 (pick (l9 len cl) (rlo g 1 len)), .flt .f64 (pick (l9 len cl) (rhi g 0 len)), .flt .f64 (pick (l9 len cl) (rhi g 1 len))], .bool (l9 len cl&&fGt .f64 (cwF g len len) 0)],[],[],some (m0=2*len/\len<=1000000/\(l9 len cl=true->ppOk g len))⟩
  | none=>.fail)
  | none=>.fail)
 | _=>.fail
theorem b6b(len:Nat)(cl:Bool)(g:Nat->Nat){w9:HC}(e9:w9=⟨[.slcc 0 len, .bool cl],[(0,⟨false,100, .flts .f64 (2*len) g,0⟩)], .tup [.bool (l9 len cl && !(dcF g len len).2), .agg [.flt .f64 (pick (l9 len cl) (rlo g 0 len)), .flt .f64 (pick (l9 len cl) (rlo g 1 len)), .flt .f64
 (pick (l9 len cl) (rhi g 0 len)), .flt .f64 (pick (l9 len cl) (rhi g 1 len))], .bool (l9 len cl&&fGt .f64 (cwF g len len) 0)],[],[],some (2*len=2*len/\len<=1000000/\(l9 len cl=true->ppOk g len))⟩){T1}(t1:T1=fun
 (i:Nat)=>((True/\len=len)/\cl=cl/\(True/\0=0)/\(dcF g len i).2=(dcF g len i).2/\(dcF g len i).1=(dcF g len i).1/\(True/\0=0)/\(True/\0=0)/\(True/\0=0)/\cwF g len i=cwF g len i/\(↑i:Int)=(↑i:Int)/\True))
 {T2}(t2:T2=λ(i:Nat)=>(fop BinOp.sub .f64 (fop BinOp.mul .f64 (fop BinOp.sub .f64 (lb g len 0 (i+1)) (la g 0 (i+1))) (fop BinOp.sub .f64 (lc g len 1 (i+1)) (lb g len 1 (i+1)))) (fop BinOp.mul .f64 (fop BinOp.sub .f64 (lb g len 1 (i+1))
 (la g 1 (i+1))) (fop BinOp.sub .f64 (lc g len 0 (i+1)) (lb g len 0 (i+1)))))) {T3}(t3:T3=λ(i:Nat)=>(2*len<=2*len/\∀(i:Nat),i<2*len->g i=g i)) {T4}(t4:T4=λ(i:Nat)(i':Nat)=>(102=102/\0=0/\rlo g 0 (i+1)=rlo g 0
 i'/\rlo g 1 (i+1)=rlo g 1 i'/\rhi g 0 (i+1)=rhi g 0 i'/\rhi g 1 (i+1)=rhi g 1 i'/\True)) {T5}(t5:T5=λ(i:Nat)=>((0<=(↑i:Int)/\(↑i:Int)<(↑len:Int))/\1<=2*len)) {T6}(t6:T6=λ(i:Nat)=>(100=100/\0=0/\lb g len 0 i
 = lb g len 0 i/\lb g len 1 i=lb g len 1 i/\True)) {T7}(t7:T7=λ(i:Nat)=>(100=100/\0=0/\lc g len 0 i=lc g len 0 i/\lc g len 1 i=lc g len 1 i/\True)) {T8}(t8:T8=(True/\0=0)) {T9}(t9:T9=λ(i:Nat)(i':Nat)=>(100=100/\0=0/\lb
 g len 0 (i+1)=lb g len 0 i'/\lb g len 1 (i+1)=lb g len 1 i'/\True)) {T10}(t10:T10=λ(i:Nat)(i':Nat)=>(100=100/\0=0/\lc g len 0 (i+1)=lc g len 0 i'/\lc g len 1 (i+1)=lc g len 1 i'/\True)) {T11}(t11:T11=λ(i:Nat)=>(102 =
 102/\0=0/\rlo g 0 (i+1)=rlo g 0 (i+1)/\rlo g 1 (i+1)=rlo g 1 (i+1)/\rhi g 0 (i+1)=rhi g 0 (i+1)/\rhi g 1 (i+1)=rhi g 1 (i+1)/\True)) {T12}(t12:T12=λ(i:Nat)(i':Nat)=>((True/\len=len)/\cl=cl/\T8/\(dcF g len
 i).2=(dcF g len i').2/\(dcF g len i).1=(dcF g len i').1/\T8/\T8/\T8/\cwF g len (i+1)=cwF g len i'/\wrap .i64 ((↑i:Int)+1)=(↑i':Int)/\True)) {T13}(t13:T13=λ(i:Nat)(i':Nat)=>(100=100/\0=0/\la g 0 (i+1)=la g
 0 i'/\la g 1 (i+1)=la g 1 i'/\True)) {T14}(t14:T14=λ(i:Nat)=>(100=100/\0=0/\la g 0 i=la g 0 i/\la g 1 i=la g 1 i/\True)) {T15}(t15:T15=((l9 len cl && !(dcF g len len).2)=false/\(0=pick (l9 len cl) (rlo g 0 len)/\0 =
 pick (l9 len cl) (rlo g 1 len)/\0=pick (l9 len cl) (rhi g 0 len)/\0=pick (l9 len cl) (rhi g 1 len)/\True)/\(l9 len cl&&fGt .f64 (cwF g len len) 0)=false/\True)) {T16}(t16:T16=λ(i:Nat)=>(0+toNat (↑i:Int)*2+1))
 {T17}(t17:T17=λ(i:Nat)=>(i<len/\l9 len cl=true)) {T18}(t18:T18=λ(i:Nat)=>(↑i:Int)) {T19}(t19:T19=λ(i:Nat)=>(100=100/\0=0/\la g 0 (i+1)=la g 0 (i+1)/\la g 1 (i+1)=la g 1 (i+1)/\True)) {T20}(t20:T20=fun
 (i:Nat)=>(fGt .f64 (T2 i) 0=false->∃(i':Nat),(i'<=len/\l9 len cl=true)/\len-i'<len-i/\(T12 i i')/\True/\(T3 i)/\True/\(T4 i i')/\True/\(T13 i i')/\True/\(T9 i i')/\True/\(T10 i i')/\True)) {T21}(t21:T21=fun
 (i:Nat)=>(dcF g len i)) {T22}(t22:T22=λ(i:Nat)=>(0+toNat (T18 i)*2+0)) {T23}(t23:T23=(True/\len=len)) {T24}(t24:T24=(↑len:Int)) {T25}(t25:T25=λ(i:Nat)=>(fop BinOp.sub .f64 (lb g len 0 (i+1)) (la g 0 (i+1))))
 {T26}(t26:T26=λ(i:Nat)(i':Nat)=>(T23/\cl=cl/\T8/\(dcF g len i').2=true/\(T21 i).1=(dcF g len i').1/\T8/\T8/\T8/\cwF g len (i+1)=cwF g len i'/\wrap .i64 ((T18 i)+1)=(↑i':Int)/\True)) {T27}(t27:T27=fun
 (i':Nat)=>(i'<=len/\l9 len cl=true)) {T28}(t28:T28=λ(i:Nat)=>(T23/\cl=cl/\T8/\(T21 i).2=(T21 i).2/\(T21 i).1=Prod.fst (T21 i)/\T8/\T8/\T8/\cwF g len i=cwF g len i/\(T18 i)=(T18 i)/\True)) {T29}(t29:T29=λ(i:Nat)=>(lb
 g len 1 (i+1))) {T30}(t30:T30=λ(i:Nat)=>(((0:Int)<=wrap .i64 ((T18 i)+1)/\wrap .i64 ((T18 i)+1)<T24)/\1<=2*len)) {T31}(t31:T31=(102=102/\0=0/\0=0/\0=0/\0=0/\0=0/\True)) {T32}(t32:T32=fun
 (i:Nat)=>(wrap .i64 ((T18 i)+1))) {T33}(t33:T33=λ(i:Nat)=>(fop BinOp.add .f64 (T29 i) (la g 1 (i+1)))) {T34}(t34:T34=(2*len<=2*len/\∀(i:Nat),i<2*len->g i=g i)) {T35}(t35:T35=(((0:Int)<=0/\0<T24)/\1<=2*len)):J3 G0 1 [(7,ppL len cl g)] [(2,ppK len cl g)] (p9 f102) (A6 f102.ntmps w9.args w9.heap 1) (A8 G0.E.T f102.results.toList λS v=>D5 1 w9 S v)=(
 ((cl=true->(decide (T24<3)=true->T15/\True)/\(decide (T24<(3:Int))=false->(decide (T24<2)=true->T15/\True)/\(decide (T24<(2:Int))=false->∃(_:Nat),l9 len cl=true/\(T23/\cl=cl/\T8/\True)/\True/\T34/\True
 /\T31/\True)))/\(cl=false->(decide (T24<2)=true->T15/\True)/\(decide (T24<2)=false->∃(_:Nat),l9 len cl=true/\(T23/\cl=cl/\T8/\True)/\True/\T34/\True/\T31/\True)))/\∀(_:Nat),l9 len cl=true->(∃(i:Nat),
 (i<=len/\l9 len cl=true)/\(T23/\cl=cl/\T8/\(T21 i).2=false/\(0:Int)=(T21 i).1/\T8/\T8/\T8/\0=cwF g len i/\0=(T18 i)/\True)/\True/\(T3 i)/\True/\(102=102/\0=0/\0=rlo g 0 i/\0=rlo g 1 i/\0=rhi g 0 i/\0 =
 rhi g 1 i/\True)/\True/\(100=100/\0=0/\0=la g 0 i/\0=la g 1 i/\True)/\True/\(100=100/\0=0/\0=lb g len 0 i/\0=lb g len 1 i/\True)/\True/\(100=100/\0=0/\0=lc g len 0 i/\0=lc g len 1 i/\True)/\True)/\∀(i :
 Nat),i<=len/\l9 len cl=true->(decide ((T18 i)<T24)=true->((((T18 i)==(0:Int))=true->(T5 i)/\0+toNat (T18 i)*2+2<=2*len/\(T5 i)/\0+toNat (T18 i)*2+2<=2*len/\true=true/\∃(_:Nat),(T17 i)/\(T1 i)
 /\True/\(T3 i)/\True/\(102=102/\0=0/\g (0+toNat (T18 i)*2)=rlo g 0 (i+1)/\g (T16 i)=rlo g 1 (i+1)/\g (0+toNat (T18 i)*2)=rhi g 0 (i+1)/\g (T16 i)=rhi g 1 (i+1)/\True)/\True/\(T14 i)/\True/\(T6 i)/\
 True/\(T7 i)/\True)/\(((T18 i)==(0:Int))=false->(T5 i)/\0<2*len/\0+toNat (T18 i)*2+0+1<=2*len/\true=true/\(fLt .f64 (g (T22 i)) (rlo g 0 i)=true->(T5 i)/\0<2*len/\0+toNat (T18 i)*2+0+1<=2*len
 /\(T5 i)/\0<2*len/\0+toNat (T18 i)*2+1+1<=2*len/\true=true/\(fLt .f64 (g (T16 i)) (rlo g 1 i)=true->(T5 i)/\0<2*len/\0+toNat (T18 i)*2+1+1<=2*len/\∃(_:Nat),(T17 i)/\(T1 i)/\True/\(T3 i)/\True
 /\(102=102/\0=0/\g (T22 i)=rlo g 0 (i+1)/\g (T16 i)=rlo g 1 (i+1)/\rhi g 0 i=rhi g 0 (i+1)/\rhi g 1 i=rhi g 1 (i+1)/\True)/\True/\(T14 i)/\True/\(T6 i)/\True/\(T7 i)/\True)/\(fLt .f64 (g (T16 i)) (rlo g 1 i)=false
 ->(T5 i)/\0<2*len/\0+toNat (T18 i)*2+1+1<=2*len/\true=true/\(fGt .f64 (g (T16 i)) (rhi g 1 i)=true->(T5 i)/\0<2*len/\0+toNat (T18 i)*2+1+1<=2*len/\∃(_:Nat),(T17 i)/\(T1 i)/\True/\(T3 i)/\True
 /\(102=102/\0=0/\g (T22 i)=rlo g 0 (i+1)/\rlo g 1 i=rlo g 1 (i+1)/\rhi g 0 i=rhi g 0 (i+1)/\g (T16 i)=rhi g 1 (i+1)/\True)/\True/\(T14 i)/\True/\(T6 i)/\True/\(T7 i)/\True)/\(fGt .f64 (g (T16 i)) (rhi g 1 i)=false
 ->∃(_:Nat),(T17 i)/\(T28 i)/\True/\(T3 i)/\True/\(102=102/\0=0/\g (T22 i)=rlo g 0 (i+1)/\rlo g 1 i=rlo g 1 (i+1)/\rhi g 0 i=rhi g 0 (i+1)/\rhi g 1 i=rhi g 1 (i+1)/\True)/\True/\(T14 i)/\True/\(T6 i)/\True/\(T7
 i)/\True)))/\(fLt .f64 (g (T22 i)) (rlo g 0 i)=false->(T5 i)/\0<2*len/\0+toNat (T18 i)*2+0+1<=2*len/\true=true/\(fGt .f64 (g (T22 i)) (rhi g 0 i)=true->(T5 i)/\0<2*len/\0+toNat (T18 i)*2+0+1<=2 *
 len/\(T5 i)/\0<2*len/\0+toNat (T18 i)*2+1+1<=2*len/\true=true/\(fLt .f64 (g (T16 i)) (rlo g 1 i)=true->(T5 i)/\0<2*len/\0+toNat (T18 i)*2+1+1<=2*len/\∃(_:Nat),(T17 i)/\(T28 i)/\True/\(T3 i)/\
 True/\(102=102/\0=0/\rlo g 0 i=rlo g 0 (i+1)/\g (T16 i)=rlo g 1 (i+1)/\g (T22 i)=rhi g 0 (i+1)/\rhi g 1 i=rhi g 1 (i+1)/\True)/\True/\(T14 i)/\True/\(T6 i)/\True/\(T7 i)/\True)/\(fLt .f64 (g (T16 i)) (rlo g 1 i) =
 false->(T5 i)/\0<2*len/\0+toNat (T18 i)*2+1+1<=2*len/\true=true/\(fGt .f64 (g (T16 i)) (rhi g 1 i)=true->(((0:Int)<=(T18 i)/\(T18 i)<T24)/\1<=2*len)/\0<2*len/\0+toNat (T18 i)*2+1+1<=2*len/\
 ∃(_:Nat),(T17 i)/\(T1 i)/\True/\(T3 i)/\True/\(102=102/\0=0/\rlo g 0 i=rlo g 0 (i+1)/\rlo g 1 i=rlo g 1 (i+1)/\g (T22 i)=rhi g 0 (i+1)/\g (T16 i)=rhi g 1 (i+1)/\True)/\True/\(T14 i)/\True/\(T6 i)/\True/\(T7 i)
 /\True)/\(fGt .f64 (g (T16 i)) (rhi g 1 i)=false->∃(_:Nat),(T17 i)/\(T1 i)/\True/\(T3 i)/\True/\(102=102/\0=0/\rlo g 0 i=rlo g 0 (i+1)/\rlo g 1 i=rlo g 1 (i+1)/\g (T22 i)=rhi g 0 (i+1)/\rhi g 1 i=rhi g 1 (i+1)/\
 True)/\True/\(T14 i)/\True/\(T6 i)/\True/\(T7 i)/\True)))/\(fGt .f64 (g (T22 i)) (rhi g 0 i)=false->(T5 i)/\0<2*len/\0+toNat (T18 i)*2+1+1<=2*len/\true=true/\(fLt .f64 (g (T16 i)) (rlo g 1 i)=true->(T5 i)/\0 <
 2*len/\0+toNat (T18 i)*2+1+1<=2*len/\∃(_:Nat),(T17 i)/\(T1 i)/\True/\(T3 i)/\True/\(102=102/\0=0/\rlo g 0 i=rlo g 0 (i+1)/\g (T16 i)=rlo g 1 (i+1)/\rhi g 0 i=rhi g 0 (i+1)/\rhi g 1 i=rhi g 1 (i+1)
 /\True)/\True/\(T14 i)/\True/\(T6 i)/\True/\(T7 i)/\True)/\(fLt .f64 (g (T16 i)) (rlo g 1 i)=false->(T5 i)/\0<2*len/\0+toNat (T18 i)*2+1+1<=2*len/\true=true/\(fGt .f64 (g (T16 i)) (rhi g 1 i)=true->(T5 i)/\0 <
 2*len/\0+toNat (T18 i)*2+1+1<=2*len/\∃(_:Nat),(T17 i)/\(T1 i)/\True/\(T3 i)/\True/\(102=102/\0=0/\rlo g 0 i=rlo g 0 (i+1)/\rlo g 1 i=rlo g 1 (i+1)/\rhi g 0 i=rhi g 0 (i+1)/\g (T16 i)=rhi g 1 (i+1)
 /\True)/\True/\(T14 i)/\True/\(T6 i)/\True/\(T7 i)/\True)/\(fGt .f64 (g (T16 i)) (rhi g 1 i)=false->∃(_:Nat),(T17 i)/\(T1 i)/\True/\(T3 i)/\True/\(102=102/\0=0/\rlo g 0 i=rlo g 0 (i+1)/\rlo g 1 i=rlo g 1 (i+1)/\rhi
 g 0 i=rhi g 0 (i+1)/\rhi g 1 i=rhi g 1 (i+1)/\True)/\True/\(T14 i)/\True/\(T6 i)/\True/\(T7 i)/\True))))))/\∀(_:Nat),i<len/\l9 len cl=true->((T5 i)/\0+toNat (T18 i)*2+2<=2*len/\∃(_:Nat),(T17 i)/\(T1
 i)/\True/\(T3 i)/\True/\(T11 i)/\True/\(100=100/\0=0/\g (0+toNat (T18 i)*2)=la g 0 (i+1)/\g (T16 i)=la g 1 (i+1)/\True)/\True/\(T6 i)/\True/\(T7 i)/\True)/\∀(_:Nat),i<len/\l9 len cl=true->((((T18 i) ==
 wrap .i64 (T24-1))=true->T35/\2<=2*len/\(((0:Int)<=(1:Int)/\1<T24)/\1<=2*len)/\4<=2*len/\∃(_:Nat),(T17 i)/\(T23/\cl=cl/\T8/\Prod.snd (T21 i)=(T21 i).2/\(T21 i).1=(T21 i).1/\T8/\T8/\T8/\cwF g len i
 = cwF g len i/\(T18 i)=(T18 i)/\True)/\True/\(T3 i)/\True/\(T11 i)/\True/\(T19 i)/\True/\(100=100/\0=0/\g 0=lb g len 0 (i+1)/\g 1=lb g len 1 (i+1)/\True)/\True/\(100=100/\0=0/\g 2=lc g len 0 (i+1)/\g 3=lc g
 len 1 (i+1)/\True)/\True)/\(((T18 i)==wrap .i64 (T24-1))=false->(((T18 i)==wrap .i64 (T24-2))=true->(T30 i)/\0+toNat (wrap .i64 ((T18 i)+(1:Int)))*2+2<=2*len/\T35/\2<=2*len/\∃(_ :
 Nat),(T17 i)/\(T1 i)/\True/\(T3 i)/\True/\(T11 i)/\True/\(T19 i)/\True/\(100=100/\0=0/\g (0+toNat (T32 i)*2)=lb g len 0 (i+1)/\g (0+toNat (T32 i)*2+1)=lb g len 1 (i+1)/\True)/\True/\(100=100/\0=0/\g
 0=lc g len 0 (i+1)/\g 1=lc g len 1 (i+1)/\True)/\True)/\(((T18 i)==wrap .i64 (T24-2))=false->(T30 i)/\0+toNat (T32 i)*2+2<=2*len/\(((0:Int)<=wrap .i64 ((T18 i)+2)/\wrap .i64 ((T18 i) +
 2)<T24)/\1<=2*len)/\0+toNat (wrap .i64 ((T18 i)+2))*2+2<=2*len/\∃(_:Nat),(T17 i)/\(T23/\cl=cl/\T8/\(T21 i).2=(T21 i).2/\Prod.fst (T21 i)=(T21 i).1/\T8/\T8/\T8/\cwF g len i=cwF g len i/\(T18 i) =
 (T18 i)/\True)/\True/\(T3 i)/\True/\(T11 i)/\True/\(T19 i)/\True/\(100=100/\0=0/\g (0+toNat (wrap .i64 ((T18 i)+(1:Int)))*2)=lb g len 0 (i+1)/\g (0+toNat (T32 i)*2+1)=lb g len 1 (i+1)/\True)/\
 True/\(100=100/\0=0/\g (0+toNat (wrap .i64 ((T18 i)+2))*2)=lc g len 0 (i+1)/\g (0+toNat (wrap .i64 ((T18 i)+2))*2+1)=lc g len 1 (i+1)/\True)/\True)))/\∀(_:Nat),i<len/\l9 len cl=true
 ->(fok BinOp.sub .f64 (lb g len 0 (i+1)) (la g 0 (i+1))/\fok BinOp.add .f64 (T29 i) (la g 1 (i+1))/\fok BinOp.mul .f64 (T25 i) (T33 i)/\fok BinOp.add .f64 (cwF g len i) (fop BinOp.mul .f64 (T25 i) (T33 i))/\∃(_:Nat),(T17 i)/\(T23/\cl
 = cl/\T8/\(T21 i).2=(T21 i).2/\(T21 i).1=(T21 i).1/\T8/\T8/\T8/\fop BinOp.add .f64 (cwF g len i) (fop BinOp.mul .f64 (T25 i) (T33 i))=cwF g len (i+1)/\(T18 i)=(T18 i)/\True)/\True/\(T3 i)/\True/\(T11 i)/\True/\(T19 i)/\True
 /\(100=100/\0=0/\lb g len 0 (i+1)=lb g len 0 (i+1)/\lb g len 1 (i+1)=lb g len 1 (i+1)/\True)/\True/\(100=100/\0=0/\lc g len 0 (i+1)=lc g len 0 (i+1)/\lc g len 1 (i+1)=lc g len 1 (i+1)/\True)/\True)/\∀(_ :
 Nat),i<len/\l9 len cl=true->((T21 i).2=true->∃(i':Nat),(T27 i')/\len-i'<len-i/\(T12 i i')/\True/\(T3 i)/\True/\(T4 i i')/\True/\(T13 i i')/\True/\(T9 i i')/\True/\(T10 i i')/\True)/\((T21 i).2=false->fok
 BinOp.sub .f64 (lb g len 0 (i+1)) (la g 0 (i+1))/\fok BinOp.sub .f64 (lc g len 1 (i+1)) (T29 i)/\fok BinOp.mul .f64 (T25 i) (fop BinOp.sub .f64 (lc g len 1 (i+1)) (T29 i))/\fok BinOp.sub .f64 (T29 i) (la g 1 (i+1))/\fok BinOp.sub .f64
 (lc g len 0 (i+1)) (lb g len 0 (i+1))/\fok BinOp.mul .f64 (fop BinOp.sub .f64 (T29 i) (la g 1 (i+1))) (fop BinOp.sub .f64 (lc g len 0 (i+1)) (lb g len 0 (i+1)))/\fok BinOp.sub .f64 (fop BinOp.mul .f64 (T25 i) (fop BinOp.sub .f64 (lc g len
 1 (i+1)) (T29 i))) (fop BinOp.mul .f64 (fop BinOp.sub .f64 (T29 i) (la g 1 (i+1))) (fop BinOp.sub .f64 (lc g len 0 (i+1)) (lb g len 0 (i+1))))/\(((T21 i).1==(0:Int))=true->(fLt .f64 (T2 i) 0=true->∃(i':Nat),(T27 i')/\len-i'
 < len-i/\(T23/\cl=cl/\T8/\(T21 i).2=(dcF g len i').2/\(-1:Int)=Prod.fst (dcF g len i')/\T8/\T8/\T8/\cwF g len (i+1)=cwF g len i'/\wrap .i64 ((T18 i)+(1:Int))=(↑i':Int)/\True)/\True/\(T3 i)/\True/\(T4 i i')
 /\True/\(T13 i i')/\True/\(T9 i i')/\True/\(T10 i i')/\True)/\(fLt .f64 (T2 i) 0=false->(fGt .f64 (T2 i) 0=true->∃(i':Nat),(T27 i')/\len-i'<len-i/\(T23/\cl=cl/\T8/\(T21 i).2=(dcF g len i').2/\(1:Int)=(dcF g len
 i').1/\T8/\T8/\T8/\cwF g len (i+1)=cwF g len i'/\wrap .i64 ((T18 i)+1)=(↑i':Int)/\True)/\True/\(T3 i)/\True/\(T4 i i')/\True/\(T13 i i')/\True/\(T9 i i')/\True/\(T10 i i')/\True)/\(T20 i)))/\(((T21 i).1==(0 :
 Int))=false->(fLt .f64 (T2 i) 0=true->(((T21 i).1==(1:Int))=true->∃(i':Nat),(T27 i')/\len-i'<len-i/\(T26 i i')/\True/\(T3 i)/\True/\(T4 i i')/\True/\(T13 i i')/\True/\(T9 i i')/\True/\(T10 i i')/\True)/\(((T21
 i).1==(1:Int))=false->∃(i':Nat),(T27 i')/\len-i'<len-i/\(T23/\cl=cl/\T8/\Prod.snd (T21 i)=(dcF g len i').2/\(T21 i).1=(dcF g len i').1/\T8/\T8/\T8/\cwF g len (i+1)=cwF g len i'/\wrap .i64 ((T18 i)+1) =
 (↑i':Int)/\True)/\True/\(T3 i)/\True/\(T4 i i')/\True/\(T13 i i')/\True/\(T9 i i')/\True/\(T10 i i')/\True))/\(fLt .f64 (T2 i) 0=false->(fGt .f64 (T2 i) 0=true->(((T21 i).1==(-1:Int))=true->∃(i':Nat),(T27 i')/\len -
 i'<len-i/\(T26 i i')/\True/\(T3 i)/\True/\(T4 i i')/\True/\(T13 i i')/\True/\(T9 i i')/\True/\(T10 i i')/\True)/\((Prod.fst (T21 i)==(-1:Int))=false->∃(i':Nat),(T27 i')/\len-i'<len-i/\(T12 i i')/\True/\(T3 i)/\
 True/\(T4 i i')/\True/\(T13 i i')/\True/\(T9 i i')/\True/\(T10 i i')/\True))/\(T20 i)))))/\(decide ((T18 i)<T24)=false->true=true/\((!(T21 i).2)=(l9 len cl && !(dcF g len len).2)/\(rlo g 0 i=pick (l9 len cl) (rlo g 0 len)
 /\rlo g 1 i=pick (l9 len cl) (rlo g 1 len)/\rhi g 0 i=pick (l9 len cl) (rhi g 0 len)/\rhi g 1 i=pick (l9 len cl) (rhi g 1 len)/\True)/\fGt .f64 (cwF g len i) 0=(l9 len cl&&fGt .f64 (cwF g len len) 0)/\True)/\True)):=by subst e9 t1 t2 t3 t4 t5 t6 t7 t8 t9 t10 t11 t12 t13 t14 t15 t16 t17 t18 t19 t20 t21 t22 t23 t24 t25 t26 t27 t28 t29 t30 t31 t32 t33 t34 t35;kernel_rfl
theorem c4a:C4 prog 102 (B3 b2b):=by
 refine A5 g0 func102 rfl (by kernel_rfl) λargs=>?_
 unfold b2b;split;rotate_left;trivial;rename_i n len v;intro o0;try dsimp only
 split;rotate_left;trivial;rename_i m0 g hm0;try dsimp only
 split;rotate_left;trivial;rename_i cl hcl;intro(ho:m0=2*len/\len<=1000000/\(l9 len cl=true->ppOk g len));obtain⟨hsz0,ho⟩:=ho;subst hsz0;refine⟨?_,_,_,(b6b len cl g rfl rfl rfl rfl rfl rfl rfl rfl rfl rfl rfl rfl rfl rfl rfl rfl rfl rfl rfl rfl rfl rfl rfl rfl rfl rfl rfl rfl rfl rfl rfl rfl rfl rfl rfl rfl).mpr ?_⟩
 ·refine j8 rfl ⟨?_,⟨trivial,(C6 hm0).1,trivial⟩⟩;simp[q9,z5,z8,z3,nth,g9,J9 hcl]
 ·obtain⟨hlen,hok⟩:=ho;refine⟨⟨λhc=>⟨λh3=>?_,λh3=>⟨λh2=>?_,λh2=>?_⟩⟩,λhc=>⟨λh2=>?_,λh2=>?_⟩⟩,λ_ hb=>?_⟩
  ·have h3:=oT9 h3;have hb:l9 len cl=false:=by simp[l9,hc];omega
   simp[hb,pick]
  ·have h2:=oT9 h2;have hb:l9 len cl=false:=by simp[l9,hc];omega
   simp[hb,pick]
  ·have h2:=of_decide_eq_false h2;have h3:=of_decide_eq_false h3;have hb:l9 len cl=true:=by simp[l9,hc];omega
   refine⟨0,hb,?_⟩;simp
  ·have h2:=oT9 h2;have hb:l9 len cl=false:=by simp[l9,hc];omega
   simp[hb,pick]
  ·have h2:=of_decide_eq_false h2;have hb:l9 len cl=true:=by simp[l9,hc];omega
   refine⟨0,hb,?_⟩;simp
  have hbb:2<=len/\(cl=true->3<=len):=by unfold l9 at hb;exact oT9 hb
  have hl2:=hbb.1;replace hok:=hok hb;refine⟨⟨0,⟨by omega,hb⟩,by simp[dcF,cwF,rlo,rhi,la,lb,lc]⟩,λi hi=>⟨λhlt=>?_,λhlt=>?_⟩⟩
  ·have hlt:=oT9 hlt;have hil:i<len:=by omega
   have w1:IntKind.i64.wrap ((i:Int)+1)=((i+1:Nat):Int):=by rw[j5 (by omega) (by omega)];omega
   have w2:IntKind.i64.wrap ((i:Int)+2)=((i+2:Nat):Int):=by rw[j5 (by omega) (by omega)];omega
   have v1:IntKind.i64.wrap ((len:Int)-1)=((len-1:Nat):Int):=by rw[j5 (by omega) (by omega)];omega
   have v2:IntKind.i64.wrap ((len:Int)-2)=((len-2:Nat):Int):=by rw[j5 (by omega) (by omega)];omega
   have m0:i*2=2*i:=by omega
   have m1:(i+1)*2=2*(i+1):=by omega
   have m2:(i+2)*2=2*(i+2):=by omega
   obtain⟨hcw,hzc⟩:=hok i hil;simp only[w1,w2,v1,v2,tN9,Nat.zero_add,Nat.add_zero,m0,m1,m2,true_and,and_true,implies_true,Nat.le_refl];refine⟨⟨λh0=>?_,λh0=>?_⟩,λ_ _=>⟨?_,λ_ _=>⟨?_,λ_ _=>⟨?_,λ_ _=>?_⟩⟩⟩⟩
   ·have h0:i=0:=by simpa using h0
    subst h0;refine⟨by omega,by omega,by omega,by omega,0,⟨hil,hb⟩,?_⟩;simp[rlo,rhi,b2O,a6J]
   ·have h0:¬i=0:=by simpa using h0
    repeat' first
     | intro hx
     | apply And.intro
     | apply Exists.intro 0
    all_goals first
     | omega
     | simp[rlo,rhi,b2O,a6J, *]
   ·refine⟨by omega,by omega,0,⟨hil,hb⟩,?_⟩;simp[la]
   ·refine⟨λh1=>?_,λh1=>⟨λh2=>?_,λh2=>?_⟩⟩
    ·have h1:=eq_of_beq h1;have h1:i+1=len:=by omega
     refine⟨by omega,by omega,by omega,by omega,0,⟨hil,hb⟩,?_⟩;simp[lb,lc,nx,nx2,h1]
    ·have h1:=ne_of_beq_false h1;have h2:=eq_of_beq h2;have h1:¬i+1=len:=by omega
     have h2:i+2=len:=by omega
     refine⟨by omega,by omega,by omega,by omega,0,⟨hil,hb⟩,?_⟩;simp[lb,lc,nx,nx2,h1,h2]
    ·have h1:=ne_of_beq_false h1;have h2:=ne_of_beq_false h2;have h1:¬i+1=len:=by omega
     have h2:¬i+2=len:=by omega
     refine⟨by omega,by omega,by omega,by omega,0,⟨hil,hb⟩,?_⟩;simp[lb,lc,nx,nx2,h1,h2]
   ·obtain⟨k1,k2,k3,k4⟩:=hcw;refine⟨k1,k2,k3,k4,0,⟨hil,hb⟩,?_⟩;simp[cwF,b6j,la,lb]
   ·obtain⟨k1,k2,k3,k4,k5,k6,k7⟩:=hzc;refine⟨λhc=>?_,λhc=>⟨k1,k2,k3,k4,k5,k6,k7,⟨λhd=>⟨λz1=>?_,λz1=>⟨λz2=>?_,λz2=>?_⟩⟩,λhd=>⟨λz1=>⟨λhd1=>?_,λhd1=>?_⟩,λz1=>⟨λz2=>⟨λhd1=>?_,λhd1=>?_⟩,λz2=>?_⟩⟩⟩⟩⟩
    all_goals refine⟨i+1,⟨by omega,hb⟩,by omega,?_⟩
    all_goals try (replace hd1:=eq_of_beq hd1)
    all_goals try (replace hd1:=ne_of_beq_false hd1)
    all_goals try (replace hd:=eq_of_beq hd)
    all_goals try (replace hd:=ne_of_beq_false hd)
    all_goals try (change fLt .f64 (zcF g len i) 0=_ at z1)
    all_goals try (change fGt .f64 (zcF g len i) 0=_ at z2)
    all_goals simp[dcF,c0u, *]
  ·have hlt:=of_decide_eq_false hlt;have:i=len:=by omega
   subst this;simp[hb,pick]
theorem fi{n:Int}(h:y9 n):FI (ofI .f64 n) n:=Q8 (by unfold y9 at h;omega)
theorem b2E{op:BinOp}{x y r:Nat}(h:floatBits op .f64 x y=some r):fok op .f64 x y/\fop op .f64 x y=r:=by
 unfold fok fop;rw[h];exact⟨rfl,rfl⟩
theorem a9O{x y:Nat}{a b:Int}(hx:FI x a)(hy:FI y b)(h:(a*b).natAbs<2 ^ 53):fok .mul .f64 x y/\FI (fop .mul .f64 x y) (a*b):=by
 obtain⟨r,h1,h2⟩:=c2D hx hy h;obtain⟨h3,h4⟩:=b2E (op:=.mul) h1;exact⟨h3,by rw[h4];exact h2⟩
end Go.Proofs.Tryz.Sx

namespace Go.Fl
open Go.Sx Ieee
structure Rnd (P K E:Nat):Prop where
 up:2*(K*2 ^ E)<=2*P+2 ^ E
 dn:2*P<=2*(K*2 ^ E)+2 ^ E
 lo:E=0∨2 ^ 52*2 ^ E<=P
 hi:P<2 ^ 53*2 ^ E
 tie:2*(K*2 ^ E)=2*P+2 ^ E->K % 2=0
theorem a5m:FI 0 0:=⟨a6Y,by rw[a9X,Int.zero_mul]⟩
end Go.Fl

namespace Go.Proofs.Tryz.Sx
open Go Go.Sx Go.Proofs Go.Fl Go.Geo
set_option maxRecDepth 100000
def Whl(g:Nat->Nat)(z:Nat->Int)(m:Nat):Prop:=∀ j,j<m->FI (g j) (z j)/\(z j).natAbs<=4194304
def cwZ(z:Nat->Int)(len:Nat):Nat->Int
 | 0=>0
 | i+1=>cwZ z len i+(z (2*nx len i)-z (2*i))*(z (2*nx len i+1)+z (2*i+1))
def zcZ(z:Nat->Int)(len i:Nat):Int :=
 (z (2*nx len i)-z (2*i))*(z (2*nx2 len i+1)-z (2*nx len i+1))-(z (2*nx len i+1)-z (2*i+1))*(z (2*nx2 len i)-z (2*nx len i))
def loZ(z:Nat->Int)(k:Nat):Nat->Int
 | 0=>0
 | i+1=>if i=0∨z (2*i+k)<loZ z k i then z (2*i+k)else loZ z k i
def hiZ(z:Nat->Int)(k:Nat):Nat->Int
 | 0=>0
 | i+1=>if i=0 then z (2*i+k)else if z (2*i+k)<loZ z k i then hiZ z k i else if hiZ z k i<z (2*i+k)then z (2*i+k)else hiZ z k i
theorem c0m{x y:Nat}{a b:Int}(hx:FI x a)(hy:FI y b)(h:(a+b).natAbs<2 ^ 53):fok .add .f64 x y/\FI (fop .add .f64 x y) (a+b):=by
 obtain⟨r,h1,h2⟩:=c2W hx hy h;obtain⟨h3,h4⟩:=b2E (op:=.add) h1;exact⟨h3,by rw[h4];exact h2⟩
theorem a4Q{x y:Nat}{a b:Int}(hx:FI x a)(hy:FI y b)(h:(a-b).natAbs<2 ^ 53):fok .sub .f64 x y/\FI (fop .sub .f64 x y) (a-b):=by
 obtain⟨r,h1,h2⟩:=b7P hx hy h;obtain⟨h3,h4⟩:=b2E (op:=.sub) h1;exact⟨h3,by rw[h4];exact h2⟩
theorem S0{a b:Int}{m n:Nat}(ha:a.natAbs<=m)(hb:b.natAbs<=n):(a*b).natAbs<=m*n:=by
 rw[Int.natAbs_mul];exact Nat.mul_le_mul ha hb
theorem N5{a b:Int}{m:Nat}(ha:a.natAbs<=m)(hb:b.natAbs<=m):(a-b).natAbs<=2*m:=by omega
theorem a6y{a b:Int}{m:Nat}(ha:a.natAbs<=m)(hb:b.natAbs<=m):(a+b).natAbs<=2*m:=by omega
theorem a5W{len i:Nat}(h:i<len):nx len i<len:=by unfold nx;split <;> omega
theorem c2Z{len i:Nat}(h:i<len)(h2:2<=len):nx2 len i<len:=by unfold nx2;split;omega;split <;> omega
section
variable {g:Nat->Nat} {z:Nat->Int} {len:Nat} (hl:len<=64) (hg:Whl g z (2*len))
include hg
theorem b5k{k:Nat}(hk:k<2):∀ i,i<=len->FI (rlo g k i) (loZ z k i)/\(loZ z k i).natAbs<=4194304
 | 0,_=>⟨a5m,by simp[loZ]⟩
 | i+1,h=>by
  obtain⟨h1,h2⟩:=b5k hk i (by omega);obtain⟨h3,h4⟩:=hg (2*i+k) (by omega);show FI (if i=0∨fLt .f64 (g (2*i+k)) (rlo g k i)=true then g (2*i+k)else rlo g k i) (if i=0∨z (2*i+k)<loZ z k i then z (2*i+k)else loZ z k i)/\(if i=0∨z (2*i+k)<loZ z k i then z (2*i+k)else loZ z k i).natAbs<=4194304;rw[Z5 h3 h1];by_cases hc:i=0∨z (2*i+k)<loZ z k i
  ·rw[if_pos hc,if_pos (by simpa using hc)];exact⟨h3,h4⟩
  ·rw[if_neg hc,if_neg (by simpa using hc)];exact⟨h1,h2⟩
theorem b7e{k:Nat}(hk:k<2):∀ i,i<=len->FI (rhi g k i) (hiZ z k i)/\(hiZ z k i).natAbs<=4194304
 | 0,_=>⟨a5m,by simp[hiZ]⟩
 | i+1,h=>by
  obtain⟨h1,h2⟩:=b7e hk i (by omega);obtain⟨h1',h2'⟩:=b5k hg hk i (by omega);obtain⟨h3,h4⟩:=hg (2*i+k) (by omega);show FI (a6J i (g (2*i+k)) (rlo g k i) (rhi g k i)) (hiZ z k (i+1))/\(hiZ z k (i+1)).natAbs<=4194304;unfold a6J hiZ;rw[Z5 h3 h1',a1b h3 h1];by_cases c0:i=0
  ·rw[if_pos c0,if_pos c0];exact⟨h3,h4⟩
  rw[if_neg c0,if_neg c0];by_cases c1:z (2*i+k)<loZ z k i
  ·rw[if_pos c1,if_pos (decide_eq_true c1)];exact⟨h1,h2⟩
  rw[if_neg c1,if_neg (by simpa using c1)];by_cases c2:hiZ z k i<z (2*i+k)
  ·rw[if_pos c2,if_pos (decide_eq_true c2)];exact⟨h3,h4⟩
  ·rw[if_neg c2,if_neg (by simpa using c2)];exact⟨h1,h2⟩
theorem c7n{i:Nat}(hi:i<len)(h2:2<=len):c6h (g (2*i)) (g (2*i+1)) (g (2*nx len i)) (g (2*nx len i+1)) (g (2*nx2 len i)) (g (2*nx2 len i+1))/\
  FI (zcF g len i) (zcZ z len i):=by
 have n1:=a5W hi;have n2:=c2Z hi h2;obtain⟨fa,ba⟩:=hg (2*i) (by omega);obtain⟨fa',ba'⟩:=hg (2*i+1) (by omega);obtain⟨fb,bb⟩:=hg (2*nx len i) (by omega);obtain⟨fb',bb'⟩:=hg (2*nx len i+1) (by omega);obtain⟨fc,bc⟩:=hg (2*nx2 len i) (by omega);obtain⟨fc',bc'⟩:=hg (2*nx2 len i+1) (by omega);have s1:=N5 bb ba;have s2:=N5 bc' bb';have s3:=N5 bb' ba';have s4:=N5 bc bb;have p1:=S0 s1 s2;have p2:=S0 s3 s4;obtain⟨k1,e1⟩:=a4Q fb fa (by omega);obtain⟨k2,e2⟩:=a4Q fc' fb' (by omega);obtain⟨k3,e3⟩:=a4Q fb' fa' (by omega)
 obtain⟨k4,e4⟩:=a4Q fc fb (by omega);obtain⟨k5,e5⟩:=a9O e1 e2 (by omega);obtain⟨k6,e6⟩:=a9O e3 e4 (by omega);obtain⟨k7,e7⟩:=a4Q e5 e6 (by omega);exact⟨⟨k1,k2,k5,k3,k4,k6,k7⟩,e7⟩
include hl in
theorem c4E:∀ i,i<=len->FI (cwF g len i) (cwZ z len i)/\(cwZ z len i).natAbs<=i*70368744177664/\
  (i<len->c6D (cwF g len i) (g (2*i)) (g (2*i+1)) (g (2*nx len i)) (g (2*nx len i+1))/\FI (cwF g len (i+1)) (cwZ z len (i+1))/\(cwZ z len (i+1)).natAbs<=(i+1)*70368744177664)
 | i,h=>by
  have base:FI (cwF g len i) (cwZ z len i)/\(cwZ z len i).natAbs<=i*70368744177664:=by
   cases i with
   | zero=>exact⟨a5m,by simp[cwZ]⟩
   | succ j=>exact((c4E j (by omega)).2.2 (by omega)).2
  refine⟨base.1,base.2,λhi=>?_⟩;have n1:=a5W hi;obtain⟨fa,ba⟩:=hg (2*i) (by omega);obtain⟨fa',ba'⟩:=hg (2*i+1) (by omega);obtain⟨fb,bb⟩:=hg (2*nx len i) (by omega);obtain⟨fb',bb'⟩:=hg (2*nx len i+1) (by omega);have s1:=N5 bb ba;have s2:=a6y bb' ba';have p1:=S0 s1 s2;obtain⟨k1,e1⟩:=a4Q fb fa (by omega);obtain⟨k2,e2⟩:=c0m fb' fa' (by omega);obtain⟨k3,e3⟩:=a9O e1 e2 (by omega);obtain⟨k4,e4⟩:=c0m base.1 e3 (by omega);exact⟨⟨k1,k2,k3,k4⟩,e4,by show (cwZ z len i+_).natAbs<=_;omega⟩
include hl in
theorem c2A(h2:2<=len):ppOk g len:=λi hi=>⟨((c4E hl hg i (by omega)).2.2 hi).1,(c7n hg hi h2).1⟩
end
theorem a1Y{z:Nat->Int}{k:Nat}:∀ {i j:Nat},j<i->loZ z k i<=z (2*j+k)
 | 0,_,h=>by omega
 | i+1,j,h=>by
  unfold loZ;split
  ·rename_i hc;by_cases e:j=i
   ·subst e;exact Int.le_refl _
   ·rcases hc with rfl|hc
    ·omega
    ·exact Int.le_trans (Int.le_of_lt hc) (a1Y (by omega))
  ·rename_i hc;by_cases e:j=i
   ·subst e;omega
   ·exact a1Y (by omega)
theorem a2Y{z:Nat->Int}{k:Nat}:∀ {i j:Nat},j<i->z (2*j+k)<=hiZ z k i
 | 0,_,h=>by omega
 | i+1,j,h=>by
  have hl:=λ(hi:0<i)=>a1Y (z:=z) (k:=k) (i:=i) (j:=0) hi
  have hh:=λ(hi:0<i)=>a2Y (z:=z) (k:=k) (i:=i) (j:=0) hi
  unfold hiZ;split
  ·have:j=i:=by omega
   subst this;exact Int.le_refl _
  ·have hl:=hl (by omega);have hh:=hh (by omega);by_cases e:j=i
   ·subst e;split
    ·omega
    ·split <;> omega
   ·have h3:=a2Y (z:=z) (k:=k) (i:=i) (j:=j) (by omega);split
    ·exact h3
    ·split
     ·omega
     ·exact h3
theorem a3E(b:Nat):∀(vs:List Value)(c:Nat)(F:Nat->Nat->Value)(b' c':Nat),a3u F b c vs b' c'=if b'=b/\c<=c'/\c'<c+vs.length then vs.getD (c'-c) (.bool false)else F b' c'
 | [],c,F,b',c'=>by
  have:¬(b'=b/\c<=c'/\c'<c+([]:List Value).length):=by simp only[List.length_nil];omega
  rw[if_neg this];rfl
 | v :: r,c,F,b',c'=>by
  show a3u (j0 F b c v) b (c+1) r b' c'=_;rw[a3E b r (c+1)];by_cases h:b'=b/\c+1<=c'/\c'<c+1+r.length
  ·have h2:b'=b/\c<=c'/\c'<c+(v :: r).length:=⟨h.1,by omega,by simp only[List.length_cons];omega⟩;rw[if_pos h,if_pos h2,show c'-c=(c'-(c+1))+1 by omega];rfl
  ·rw[if_neg h];by_cases h1:b'=b/\c'=c
   ·obtain⟨rfl,rfl⟩:=h1;have h2:b'=b'/\c'<=c'/\c'<c'+(v :: r).length:=⟨rfl,Nat.le_refl _,by simp only[List.length_cons];omega⟩;rw[if_pos h2];simp[j0]
   ·have h2:¬(b'=b/\c<=c'/\c'<c+(v :: r).length):=by
     simp only[List.length_cons];rintro⟨e1,e2,e3⟩;by_cases e:c'=c
     ·exact h1 ⟨e1,e⟩
     ·exact h ⟨e1,by omega,by omega⟩
    rw[if_neg h2];simp only[j0];rw[if_neg h1]
theorem a0n{b c:Nat}{vs:List Value}{F:Nat->Nat->Value}{b' c':Nat}(h:b'≠b∨c'<c∨c+vs.length<=c'):a3u F b c vs b' c'=F b' c':=by
 rw[a3E,if_neg];rintro⟨h1,h2,h3⟩;omega
theorem b9{b c:Nat}{v:Value}{F:Nat->Nat->Value}{b' c':Nat}(h:b'≠b∨c'≠c):j0 F b c v b' c'=F b' c':=by
 unfold j0;rw[if_neg];rintro⟨h1,h2⟩;omega
theorem A2{b c:Nat}{v:Value}{F:Nat->Nat->Value}:j0 F b c v b c=v:=by simp[j0]
def fz(v:Value)(n:Int):Prop:=v=.float .f64 (j6 v)/\FI (j6 v) n/\n.natAbs<=4194304
theorem fz.flt{v:Value}{n:Int}(h:fz v n):z6 .f64 v:=h.1
theorem fz.lt{v w:Value}{n m:Int}(h1:fz v n)(h2:fz w m):fLt .f64 (j6 v) (j6 w)=decide (n<m):=Z5 h1.2.1 h2.2.1
theorem fz.gt{v w:Value}{n m:Int}(h1:fz v n)(h2:fz w m):fGt .f64 (j6 v) (j6 w)=decide (m<n):=a1b h1.2.1 h2.2.1
theorem fz.sub{v w:Value}{n m:Int}(h1:fz v n)(h2:fz w m):fok .sub .f64 (j6 v) (j6 w)/\FI (fop .sub .f64 (j6 v) (j6 w)) (n-m)/\(n-m).natAbs<=8388608:=by
 have a:=h1.2.2;have b:=h2.2.2;obtain⟨h3,h4⟩:=a4Q h1.2.1 h2.2.1 (by omega);exact⟨h3,h4,by omega⟩
structure Bx where
 x0:Int
 y0:Int
 x1:Int
 y1:Int
deriving DecidableEq
def Bx.lo(B:Bx)(k:Nat):Int:=if k=0 then B.x0 else B.y0
def Bx.hi(B:Bx)(k:Nat):Int:=if k=0 then B.x1 else B.y1
def isBox(F:Nat->Nat->Value)(b c:Nat)(B:Bx):Prop:=fz (F b (c+1)) B.x0/\fz (F b (c+2)) B.y0/\fz (F b (c+3)) B.x1/\fz (F b (c+4)) B.y1
theorem isBox.lo{F:Nat->Nat->Value}{b c:Nat}{B:Bx}(h:isBox F b c B){k:Nat}(hk:k<2):fz (F b (c+1+k)) (B.lo k):=by
 unfold Bx.lo
 match k,hk with
 | 0,_=>exact h.1
 | 1,_=>exact h.2.1
theorem isBox.hi{F:Nat->Nat->Value}{b c:Nat}{B:Bx}(h:isBox F b c B){k:Nat}(hk:k<2):fz (F b (c+3+k)) (B.hi k):=by
 unfold Bx.hi
 match k,hk with
 | 0,_=>exact h.2.2.1
 | 1,_=>exact h.2.2.2
def D6(A B:Bx):Prop:=A.x0<=B.x0/\A.y0<=B.y0/\B.x1<=A.x1/\B.y1<=A.y1
instance (A B:Bx):Decidable (D6 A B):=by unfold D6;infer_instance
def B5(A B:Bx):Bx:=⟨if B.x0<A.x0 then B.x0 else A.x0,if B.y0<A.y0 then B.y0 else A.y0,if A.x1<B.x1 then B.x1 else A.x1,if A.y1<B.y1 then B.y1 else A.y1⟩
theorem a7y(A B:Bx)(h:D6 A B):B5 A B=A:=by
 unfold D6 at h;cases A;cases B;simp only[B5,Bx.mk.injEq]at h ⊢;refine⟨if_neg (by omega),if_neg (by omega),if_neg (by omega),if_neg (by omega)⟩
def H7(B:Bx)(l:List Bx):Prop:=(∀ a∈l,D6 B a)/\(l≠[]->(∃ a∈l,a.x0=B.x0)/\(∃ a∈l,a.y0=B.y0)/\(∃ a∈l,a.x1=B.x1)/\(∃ a∈l,a.y1=B.y1))
theorem a7T(B:Bx):H7 B [B]:=⟨λa ha=>by simp at ha;subst ha;exact⟨Int.le_refl _,Int.le_refl _,Int.le_refl _,Int.le_refl _⟩,λ_=>⟨⟨B,by simp⟩,⟨B,by simp⟩,⟨B,by simp⟩,⟨B,by simp⟩⟩⟩
theorem b1X{B:Bx}{l l':List Bx}(h:l.Perm l')(ht:H7 B l):H7 B l':=by
 refine⟨λa ha=>ht.1 a (h.mem_iff.2 ha),λhn=>?_⟩;have hn':l≠[]:=λe=>hn (by rw[e]at h;exact h.nil_eq.symm)
 obtain⟨⟨a,h1,h2⟩,⟨b,h3,h4⟩,⟨c,h5,h6⟩,⟨d,h7,h8⟩⟩:=ht.2 hn';exact⟨⟨a,h.mem_iff.1 h1,h2⟩,⟨b,h.mem_iff.1 h3,h4⟩,⟨c,h.mem_iff.1 h5,h6⟩,⟨d,h.mem_iff.1 h7,h8⟩⟩
theorem a8v{B C:Bx}{l:List Bx}(hn:l≠[])(ht:H7 B l):H7 (B5 B C) (l++[C]):=by
 obtain⟨h0,h⟩:=ht;obtain⟨⟨a,h1,h2⟩,⟨b,h3,h4⟩,⟨c,h5,h6⟩,⟨d,h7,h8⟩⟩:=h hn;refine⟨λx hx=>?_,λ_=>⟨?_,?_,?_,?_⟩⟩
 ·rcases List.mem_append.1 hx with hx|hx
  ·have:=h0 x hx;unfold D6 at this ⊢;simp only[B5];refine⟨?_,?_,?_,?_⟩ <;> split <;> omega
  ·simp at hx;subst hx;unfold D6;simp only[B5];refine⟨?_,?_,?_,?_⟩ <;> split <;> omega
 ·by_cases e:C.x0<B.x0
  ·exact⟨C,by simp,by simp[B5,e]⟩
  ·exact⟨a,by simp[h1],by simp[B5,e,h2]⟩
 ·by_cases e:C.y0<B.y0
  ·exact⟨C,by simp,by simp[B5,e]⟩
  ·exact⟨b,by simp[h3],by simp[B5,e,h4]⟩
 ·by_cases e:B.x1<C.x1
  ·exact⟨C,by simp,by simp[B5,e]⟩
  ·exact⟨c,by simp[h5],by simp[B5,e,h6]⟩
 ·by_cases e:B.y1<C.y1
  ·exact⟨C,by simp,by simp[B5,e]⟩
  ·exact⟨d,by simp[h7],by simp[B5,e,h8]⟩
noncomputable def zI(v:Value):Int:=V (j6 v) / 2 ^ U1
theorem fz.zI{v:Value}{n:Int}(h:fz v n):zI v=n:=by
 unfold Go.Proofs.Tryz.Sx.zI;rw[h.2.1.2];exact Int.mul_ediv_cancel _ (by have:=G1 U1;omega)
noncomputable def bxOf(F:Nat->Nat->Value)(b c:Nat):Bx:=⟨zI (F b (c+1)),zI (F b (c+2)),zI (F b (c+3)),zI (F b (c+4))⟩
theorem isBox.bxOf{F:Nat->Nat->Value}{b c:Nat}{B:Bx}(h:isBox F b c B):bxOf F b c=B:=by
 obtain⟨h1,h2,h3,h4⟩:=h;cases B;simp only[Go.Proofs.Tryz.Sx.bxOf,h1.zI,h2.zI,h3.zI,h4.zI]
def okR(q:RM)(b c:Nat):Prop:=q.D b/\c+5<=q.S b/\isBox q.F b c (bxOf q.F b c)
theorem okR.mk'{q:RM}{b c:Nat}{B:Bx}(hD:q.D b)(hS:c+5<=q.S b)(h:isBox q.F b c B):okR q b c:=⟨hD,hS,by rw[h.bxOf];exact h⟩
def L4(q q':RM)(W:Nat->Nat->Prop):Prop:=q'.D=q.D/\q'.S=q.S/\∀ b c,¬W b c->q'.F b c=q.F b c
theorem L4.refl(q:RM)(W:Nat->Nat->Prop):L4 q q W:=⟨rfl,rfl,λ_ _ _=>rfl⟩
theorem L4.trans{q q' q'':RM}{W W' W'':Nat->Nat->Prop}(h:L4 q q' W)(h':L4 q' q'' W')(h1:∀ b c,W b c->W'' b c)(h2:∀ b c,W' b c->W'' b c):L4 q q'' W'' :=
 ⟨h'.1.trans h.1,h'.2.1.trans h.2.1,λb c hw=>(h'.2.2 b c λhw'=>hw (h2 b c hw')).trans (h.2.2 b c λhw'=>hw (h1 b c hw'))⟩
structure En where
 v:Value
 B:Bx
structure F1 (q:RM) (b:Nat) (l:List En):Prop where
 D:q.D b
 S:q.S b=86
 n:q.F b 0=.int .i64 (l.length:Nat)
 le:l.length<=17
 v:∀ j e,l[j]? = some e->q.F b (1+5*j)=e.v
 o:∀(j:Nat)(e:En),l[j]? = some e->e.v.oneCell'=true
 B:∀ j e,l[j]? = some e->isBox q.F b (1+5*j) e.B
theorem F1.okR{q:RM}{b:Nat}{l:List En}(h:F1 q b l){j:Nat}{e:En}(hj:l[j]? = some e):okR q b (1+5*j):=by
 refine okR.mk' h.D ?_ (h.B j e hj);have:=(List.getElem?_eq_some_iff.1 hj).1;have:=h.le;rw[h.S];omega
theorem F1.same{q q':RM}{b:Nat}{l:List En}(h:F1 q b l)(hD:q'.D b)(hS:q'.S b=q.S b)(hF:∀ c,q'.F b c=q.F b c):F1 q' b l where
 D:=hD
 S:=hS.trans h.S
 n:=(hF 0).trans h.n
 le:=h.le
 v:=λj e hj=>(hF _).trans (h.v j e hj)
 o:=h.o
 B:=λj e hj=>by
  obtain⟨h1,h2,h3,h4⟩:=h.B j e hj;exact⟨by rw[hF];exact h1,by rw[hF];exact h2,by rw[hF];exact h3,by rw[hF];exact h4⟩
theorem F1.push{q q':RM}{b:Nat}{l:List En}(h:F1 q b l)(hl:l.length<17)(hD:q'.D b)(hS:q'.S b=q.S b){e:En}(ho:e.v.oneCell'=true)(hn:q'.F b 0=.int .i64 (l.length+1:Nat))
  (hv:q'.F b (1+5*l.length)=e.v) (hB:isBox q'.F b (1+5*l.length) e.B) (hF:∀ c,1<=c->c<1+5*l.length->q'.F b c=q.F b c):F1 q' b (l++[e]) where
 D:=hD
 S:=hS.trans h.S
 n:=by rw[hn];simp
 le:=by simp;omega
 v:=λj x hj=>by
  by_cases hc:j<l.length
  ·rw[List.getElem?_append_left hc]at hj;rw[hF _ (by omega) (by omega)];exact h.v j x hj
  ·have hjl:j=l.length:=by
    have:=(List.getElem?_eq_some_iff.1 hj).1;simp at this;omega
   subst hjl;simp at hj;subst hj;exact hv
 o:=λj x hj=>by
  rcases List.mem_append.1 (List.mem_of_getElem? hj)with h1|h1
  ·obtain⟨i,hi,h2⟩:=List.getElem_of_mem h1;exact h.o i x (by rw[List.getElem?_eq_getElem hi,h2])
  ·simp at h1;subst h1;exact ho
 B:=λj x hj=>by
  by_cases hc:j<l.length
  ·rw[List.getElem?_append_left hc]at hj;obtain⟨h1,h2,h3,h4⟩:=h.B j x hj;exact⟨by rw[hF _ (by omega) (by omega)];exact h1,by rw[hF _ (by omega) (by omega)];exact h2,by rw[hF _ (by omega) (by omega)];exact h3,by rw[hF _ (by omega) (by omega)];exact h4⟩
  ·have hjl:j=l.length:=by
    have:=(List.getElem?_eq_some_iff.1 hj).1;simp at this;omega
   subst hjl;simp at hj;subst hj;exact hB
def a2a(l:List En)(i:Nat):List En:=(match l.getLast? with|some e=>l.set i e|none=>l).dropLast
theorem a5I{l:List En}{i:Nat}{e:En}(h:l[i]? = some e):l.Perm (e :: a2a l i):=by
 obtain⟨hi,rfl⟩:=List.getElem?_eq_some_iff.1 h;rcases List.eq_nil_or_concat l with rfl|⟨m,x,hm⟩
 ·simp at hi
 ·have hm:l=m++[x]:=by simpa using hm
  subst hm;simp only[a2a,List.getLast?_concat];by_cases hc:i<m.length
  ·rw[List.set_append_left _ _ hc,List.dropLast_concat,List.getElem_append_left hc];have h1:(m.set i x)=m.take i++x :: m.drop (i+1):=List.set_eq_take_append_cons_drop.trans (by rw[if_pos hc])
   have h2:m=m.take i++m[i] :: m.drop (i+1):=by
    conv=>lhs;rw[<-List.take_append_drop i m]
    rw[List.drop_eq_getElem_cons hc]
   rw[h1]
   conv=>lhs;rw[h2]
   rw[List.append_assoc];refine(List.perm_middle).trans (List.Perm.cons _ ?_);exact(List.Perm.append_left _ (List.perm_append_singleton x (m.drop (i+1))))
  ·have:i=m.length:=by simp at hi;omega
   subst this;simp
theorem a3b{l:List En}{i:Nat}(_:i<l.length):(a2a l i).length=l.length-1:=by
 unfold a2a;split <;> simp
theorem a7x{l:List En}{i j:Nat}(hi:i<l.length)(hj:j<l.length-1):(a2a l i)[j]? = if j=i then l[l.length-1]? else l[j]? := by
 rcases List.eq_nil_or_concat l with rfl|⟨m,x,hm⟩
 ·simp at hi
 ·have hm:l=m++[x]:=by simpa using hm
  subst hm;simp only[List.length_append,List.length_cons,List.length_nil,Nat.zero_add,Nat.add_sub_cancel]at hi hj ⊢;simp only[a2a,List.getLast?_concat,List.getElem?_dropLast,List.length_set,List.length_append,List.length_cons,List.length_nil,Nat.zero_add,Nat.add_sub_cancel,hj,if_true];rw[List.getElem?_set];by_cases hc:i=j
  ·subst hc;simp[hi]
  ·rw[if_neg hc,if_neg (λe=>hc e.symm)]
structure Kid where
 b:Nat
 fp:List Nat
 its:List (Int×Bx)
 B:Bx
 n:Nat
def b1r(x:Int×Bx):En:=⟨.iface 3 (.int .i64 x.1),x.2⟩
def E5(k:Kid):En:=⟨.iface 207 (.pointer (some ⟨k.b,0,none⟩)),k.B⟩
def isTr(q:RM):Nat->Kid->Prop
 | 0,k=>k.fp=[k.b]/\k.n=k.its.length/\F1 q k.b (k.its.map b1r)/\H7 k.B (k.its.map (·.2))
 | h+1,k=>∃ ks:List Kid,k.n=ks.length/\1<=k.n/\k.fp=k.b :: ks.flatMap (·.fp)/\k.its=ks.flatMap (·.its)/\F1 q k.b (ks.map E5)/\H7 k.B (ks.map (·.B))/\∀ x∈ks,isTr q h x/\1<=x.n/\x.n<=16
theorem isTr.nd{q:RM}:∀ {h:Nat} {k:Kid},isTr q h k->∃ l:List En,F1 q k.b l/\l.length=k.n/\H7 k.B (l.map (·.B))
 | 0,k,⟨_,h2,h3,h4⟩=>⟨_,h3,by simp[h2],by simpa [List.map_map,b1r,Function.comp_def]using h4⟩
 | h+1,k,⟨ks,h1,_,_,_,h5,h6,_⟩=>⟨_,h5,by simp[h1],by simpa [List.map_map,E5,Function.comp_def]using h6⟩
theorem isTr.fp0{q:RM}:∀ {h:Nat} {k:Kid},isTr q h k->k.b∈k.fp
 | 0,k,⟨h1,_⟩=>by rw[h1];simp
 | h+1,k,⟨ks,_,_,h3,_⟩=>by rw[h3];simp
theorem isTr.D{q:RM}:∀ {h:Nat} {k:Kid},isTr q h k->∀ b∈k.fp,q.D b
 | 0,k,⟨h1,_,h3,_⟩,b,hb=>by rw[h1]at hb;simp at hb;subst hb;exact h3.D
 | h+1,k,⟨ks,_,_,h3,_,h5,_,h7⟩,b,hb=>by
  rw[h3]at hb;rcases List.mem_cons.1 hb with rfl|hb
  ·exact h5.D
  ·obtain⟨x,hx,hb⟩:=List.mem_flatMap.1 hb;exact(h7 x hx).1.D b hb
theorem isTr.same{q q':RM}:∀ {h:Nat} {k:Kid},isTr q h k->(∀ b∈k.fp,q'.D b/\q'.S b=q.S b/\∀ c,q'.F b c=q.F b c)->isTr q' h k
 | 0,k,⟨h1,h2,h3,h4⟩,hs=>⟨h1,h2,h3.same (hs k.b (by rw[h1];simp)).1 (hs k.b (by rw[h1];simp)).2.1 (hs k.b (by rw[h1];simp)).2.2,h4⟩
 | h+1,k,⟨ks,h1,h2,h3,h4,h5,h6,h7⟩,hs=>⟨ks,h1,h2,h3,h4,h5.same (hs k.b (by rw[h3];simp)).1 (hs k.b (by rw[h3];simp)).2.1 (hs k.b (by rw[h3];simp)).2.2,h6,
   λx hx=>⟨(h7 x hx).1.same λb hb=>hs b (by rw[h3];exact List.mem_cons_of_mem _ (List.mem_flatMap.2 ⟨x,hx,hb⟩)),(h7 x hx).2⟩⟩
def X0:F3:=⟨G0,[],[],[],[]⟩
theorem x0:A7 prog X0:=⟨g0,q8.nil⟩
noncomputable def a9A:List SV->RRd (Unit)
 | [.pb n rb rc, .pb n1 bb bc]=>.read n λo0=>(match I5 o0 with
  | some (ts,q)=>.ret ⟨[.pb 0 rb rc, .pb 0 bb bc],[(0,rwO ts q)],some (n=n1/\(okR q rb rc/\okR q bb bc)),λ_i=>True,λ_i=>⟨[],[], .bool (decide (D6 (bxOf q.F rb rc) (bxOf q.F bb bc))),[(0,rwO ts (q))],[],none⟩⟩
  | none=>.fail)
 | _=>.fail
theorem b7x(R:Option Ob->SV->Prop)(ts:List Nat)(q:RM)(rb rc bb bc:Nat){T1}(t1:T1=(Option.some (Ob.mk true 0 (a9.raw ts (RM.D q) q.2 q.3) 0))){T2}(t2:T2=((0:Int)<=0/\(0:Int)<2)){T3}(t3:T3=((0:Int)<=1/\(1:Int)<2)){T4}(t4:T4=((0:Int)<=2/\(2:Int)<2)){T5}(t5:T5=(q.3 bb (bc+1+0))){T6}(t6:T6=(q.3
 rb (rc+1+0))){T7}(t7:T7=(q.3 bb (bc+1+1))){T8}(t8:T8=(q.3 rb (rc+1+1))){T9}(t9:T9=(q.3 bb (bc+1+2))){T10}(t10:T10=(q.3 rb (rc+1+2))){T11}(t11:T11=(q.1 rb/\rc+1+2<q.2 rb/\z6 .f64 T10)){T12}(t12:T12=(q.1 bb/\bc+1+0
 < q.2 bb/\z6 .f64 T5)){T13}(t13:T13=(q.1 rb/\rc+1+0<q.2 rb/\z6 .f64 T6)){T14}(t14:T14=(q.1 bb/\bc+1+1<q.2 bb/\z6 .f64 T7)){T15}(t15:T15=(q.1 rb/\rc+1+1<q.2 rb/\z6 .f64 T8)){T16}(t16:T16=(q.1 bb/\bc+1+2<q.2
 bb/\z6 .f64 T9)):K8 X0 1 [(2, .iter 3)] [] (p9 f133) (A6 f133.ntmps [.pb 0 rb rc, .pb 0 bb bc] [(0,rwO ts q)] 1) (A8 X0.G.E.T f133.results.toList λS v=>R (Go.Sx.look S.H 0) v)=(
 (true=true->(fLt .f64 (j6 T5) (j6 T6)=true->T2/\T12/\T2/\T13/\fLt .f64 (j6 T5) (j6 T6)=true/\true=true/\R T1 SV.ff)/\(fLt .f64 (j6 T5) (j6 T6)=false->T2/\T12/\T2/\T13/\fLt .f64 (j6 T5) (j6 T6)=false/\T2/\
 (q.1 bb/\bc+3+0<q.2 bb/\z6 .f64 (q.3 bb (bc+3+0)))/\T2/\(q.1 rb/\rc+3+0<q.2 rb/\z6 .f64 (q.3 rb (rc+3+0)))/\true=true/\(fGt .f64 (j6 (q.3 bb (bc+3+0))) (j6 (q.3 rb (rc+3+0)))=true->R T1 SV.ff)/\(fGt
 .f64 (j6 (q.3 bb (bc+3+0))) (j6 (q.3 rb (rc+3+0)))=false->(true=true->(fLt .f64 (j6 T7) (j6 T8)=true->T3/\T14/\T3/\T15/\fLt .f64 (j6 T7) (j6 T8)=true/\true=true/\R T1 SV.ff)/\(fLt .f64 (j6 T7) (j6 T8) =
 false->T3/\T14/\((0:Int)<=1/\(1:Int)<(2:Int))/\T15/\fLt .f64 (j6 T7) (j6 T8)=false/\((0:Int)<=(1:Int)/\(1:Int)<2)/\(q.1 bb/\bc+3+1<q.2 bb/\z6 .f64 (q.3 bb (bc+3+1)))/\T3/\(q.1 rb/\rc+3+1<q.2 rb
 /\z6 .f64 (q.3 rb (rc+3+1)))/\true=true/\(fGt .f64 (j6 (q.3 bb (bc+3+1))) (j6 (q.3 rb (rc+3+1)))=true->R T1 SV.ff)/\(fGt .f64 (j6 (q.3 bb (bc+3+1))) (j6 (q.3 rb (rc+3+1)))=false->(false=true->(fLt .f64
 (j6 T9) (j6 T10)=true->T4/\T16/\((0:Int)<=(2:Int)/\(2:Int)<2)/\T11/\fLt .f64 (j6 T9) (j6 T10)=true/\true=true/\R T1 SV.ff)/\(fLt .f64 (j6 T9) (j6 T10)=false->T4/\T16/\T4/\T11/\fLt .f64 (j6 T9) (j6 T10) =
 false/\((0:Int)<=2/\(2:Int)<(2:Int))/\(q.1 bb/\bc+3+2<q.2 bb/\z6 .f64 (q.3 bb (bc+3+2)))/\T4/\(q.1 rb/\rc+3+2<q.2 rb/\z6 .f64 (q.3 rb (rc+3+2)))/\true=true/\(fGt .f64 (j6 (q.3 bb (bc+3+2))) (j6
 (q.3 rb (rc+3+2)))=true->R T1 SV.ff)/\(fGt .f64 (j6 (q.3 bb (bc+3+2))) (j6 (q.3 rb (rc+3+2)))=false->False)))/\(false=false->R T1 SV.tt))))/\(true=false->R T1 SV.tt))))/\(true=false->R T1 SV.tt)):=by subst t1 t2 t3 t4 t5 t6 t7 t8 t9 t10 t11 t12 t13 t14 t15 t16;kernel_rfl
theorem c1H:z0 prog 133 (o9 (Unit) ⟨()⟩ a9A):=by
 refine D7 x0 func133 rfl (by kernel_rfl) λargs=>?_
 unfold a9A;split;rotate_left;trivial;rename_i n rb rc n1 bb bc;intro o0;try dsimp only
 split;rotate_left;trivial;rename_i ts q hm0;intro(ho:n=n1/\(okR q rb rc/\okR q bb bc));obtain⟨heq0,ho⟩:=ho;subst heq0;refine⟨?_,Nat.succ_pos _,ts,λ_i=>q,λ_i=>.bool (decide (D6 (bxOf q.F rb rc) (bxOf q.F bb bc))),λ_=>rfl,?_,_,_,(b7x (I7 1 ts (λ_i=>True) (λ_i=>q) (λ_i=>.bool (decide (D6 (bxOf q.F rb rc) (bxOf q.F bb bc))))) ts q rb rc bb bc rfl rfl rfl rfl rfl rfl rfl rfl rfl rfl rfl rfl rfl rfl rfl rfl).mpr ?_⟩
 ·refine j8 rfl ⟨λ_=>rfl,?_,⟨trivial,B8 hm0,trivial⟩⟩;simp[q9,z5,z8,z3,nth,g9]
 ·intro _i _;rfl
 ·obtain⟨⟨d1,s1,b1⟩,⟨d2,s2,b2⟩⟩:=ho;have e0:=(b2.lo (k:=0) (by omega)).lt (b1.lo (k:=0) (by omega));have e1:=(b2.lo (k:=1) (by omega)).lt (b1.lo (k:=1) (by omega));have e2:=(b2.hi (k:=0) (by omega)).gt (b1.hi (k:=0) (by omega));have e3:=(b2.hi (k:=1) (by omega)).gt (b1.hi (k:=1) (by omega));have f0:=(b2.lo (k:=0) (by omega)).flt;have f1:=(b2.lo (k:=1) (by omega)).flt;have f2:=(b2.hi (k:=0) (by omega)).flt;have f3:=(b2.hi (k:=1) (by omega)).flt;have g0:=(b1.lo (k:=0) (by omega)).flt;have g1:=(b1.lo (k:=1) (by omega)).flt;have g2:=(b1.hi (k:=0) (by omega)).flt
  have g3:=(b1.hi (k:=1) (by omega)).flt;have hR:∀ b:Bool,b=decide (D6 (bxOf q.F rb rc) (bxOf q.F bb bc))->∀ v,z5 (L3 1 []) v (.bool b)->I7 1 ts (λ_i:Unit=>True) (λ_i=>q) (λ_i=>.bool (decide (D6 (bxOf q.F rb rc) (bxOf q.F bb bc)))) (some ⟨true,0, .raw ts q.D q.S q.F,0⟩) v:=λb hb v hv=>⟨(),trivial,rfl,by subst hb;exact hv⟩
  generalize I7 1 ts (λ_i:Unit=>True) (λ_i=>q) (λ_i=>.bool (decide (D6 (bxOf q.F rb rc) (bxOf q.F bb bc))))=R at hR ⊢;have hff:¬D6 (bxOf q.F rb rc) (bxOf q.F bb bc)->R (some ⟨true,0, .raw ts q.D q.S q.F,0⟩) .ff:=λh=>hR false (decide_eq_false h).symm _ rfl
  have htt:D6 (bxOf q.F rb rc) (bxOf q.F bb bc)->R (some ⟨true,0, .raw ts q.D q.S q.F,0⟩) .tt:=λh=>hR true (decide_eq_true h).symm _ rfl
  clear hR;simp only[Bx.lo,Bx.hi,if_true,show ¬(1=0)from by omega,if_false]at e0 e1 e2 e3;simp only[e0,e1,e2,e3,f0,f1,f2,f3,g0,g1,g2,g3,d1,d2,true_and,and_true];unfold D6 at hff htt;grind
open Int (toNat)
def a3z(i j:Nat)(A B:Bx):Bx:=⟨if 0<i/\B.x0<A.x0 then B.x0 else A.x0,if 1<i/\B.y0<A.y0 then B.y0 else A.y0,if 0<j/\A.x1<B.x1 then B.x1 else A.x1,if 1<j/\A.y1<B.y1 then B.y1 else A.y1⟩
def rW(rb rc:Nat):Nat->Nat->Prop:=λb c=>b=rb/\rc+1<=c/\c<rc+5
def apart(rb rc bb bc:Nat):Prop:=rb≠bb∨rc+5<=bc∨bc+5<=rc
def exI(q:RM)(rb rc bb bc i j:Nat)(q':RM):Prop:=L4 q q' (rW rb rc)/\isBox q'.F rb rc (a3z i j (bxOf q.F rb rc) (bxOf q.F bb bc))
def c5f(ts:List Nat)(rb rc bb bc i:Nat)(q:RM):St:=⟨57,[(0, .pb 0 rb rc),(1, .pb 0 bb bc),(4, .int .i64 i)],[(0,rwO ts q)],1⟩
def exL(ts:List Nat)(q:RM)(rb rc bb bc:Nat):R5 :=
 ⟨⟨Nat×RM,λp=>c5f ts rb rc bb bc p.1 p.2,λp=>p.1<=2/\exI q rb rc bb bc p.1 p.1 p.2,λp=>2-p.1⟩,λp=>[(5,⟨RM,λq'=>c5f ts rb rc bb bc p.1 q',λq'=>p.1<2/\exI q rb rc bb bc (p.1+1) p.1 q',λ_=>0⟩)]⟩
theorem O6{F:Nat->Nat->Value}{b c:Nat}{B:Bx}:isBox F b c B↔∀ k,k<2->fz (F b (c+1+k)) (B.lo k)/\fz (F b (c+3+k)) (B.hi k) :=
 ⟨λh k hk=>⟨h.lo hk,h.hi hk⟩,λh=>⟨(h 0 (by omega)).1,(h 1 (by omega)).1,(h 0 (by omega)).2,(h 1 (by omega)).2⟩⟩
theorem a0i(i j k:Nat)(A B:Bx)(hk:k<2):(a3z i j A B).lo k=if k<i/\B.lo k<A.lo k then B.lo k else A.lo k:=by
 match k,hk with
 | 0,_=>rfl
 | 1,_=>rfl
theorem a0k(i j k:Nat)(A B:Bx)(hk:k<2):(a3z i j A B).hi k=if k<j/\A.hi k<B.hi k then B.hi k else A.hi k:=by
 match k,hk with
 | 0,_=>rfl
 | 1,_=>rfl
theorem a4q(A B:Bx):a3z 2 2 A B=B5 A B:=by
 unfold a3z B5;simp
theorem b1G(A B:Bx):a3z 0 0 A B=A:=by
 cases A;simp[a3z]
section
variable {q q':RM} {rb rc bb bc i j:Nat} (h1:okR q rb rc) (h2:okR q bb bc) (ha:apart rb rc bb bc) (h:exI q rb rc bb bc i j q')
include h1 h2 ha h
theorem exI.rd{k:Nat}(hk:k<2):fz (q'.F bb (bc+1+k)) ((bxOf q.F bb bc).lo k)/\fz (q'.F bb (bc+3+k)) ((bxOf q.F bb bc).hi k)/\fz (q'.F rb (rc+1+k)) ((a3z i j (bxOf q.F rb rc) (bxOf q.F bb bc)).lo k)/\fz (q'.F rb (rc+3+k)) ((a3z i j (bxOf q.F rb rc) (bxOf q.F bb bc)).hi k):=by
 have _:=h1;have off:∀ c,bc+1<=c->c<bc+5->q'.F bb c=q.F bb c:=λc c1 c2=>h.1.2.2 bb c (by unfold apart at ha;unfold rW;omega)
 refine⟨?_,?_,h.2.lo hk,h.2.hi hk⟩
 ·rw[off _ (by omega) (by omega)];exact h2.2.2.lo hk
 ·rw[off _ (by omega) (by omega)];exact h2.2.2.hi hk
theorem exI.dom:q'.D bb/\q'.D rb/\bc+5<=q'.S bb/\rc+5<=q'.S rb:=by
 have _:=ha;rw[h.1.1,h.1.2.1];exact⟨h2.1,h1.1,h2.2.1,h1.2.1⟩
theorem exI.lo1(hi:i<2)(hlt:fLt .f64 (j6 (q'.F bb (bc+1+i))) (j6 (q'.F rb (rc+1+i)))=true) :
  exI q rb rc bb bc (i+1) j ⟨q'.D,q'.S,j0 q'.F rb (rc+1+i) (.float .f64 (j6 (q'.F bb (bc+1+i))))⟩:=by
 obtain⟨r1,r2,r3,r4⟩:=exI.rd h1 h2 ha h hi;rw[r1.lt r3,a0i _ _ _ _ _ hi,if_neg (by omega),decide_eq_true_eq]at hlt;refine⟨⟨h.1.1,h.1.2.1,λb c hw=>(b9 (by unfold rW at hw;omega)).trans (h.1.2.2 b c hw)⟩,O6.2 λk hk=>?_⟩;obtain⟨t1,t2⟩:=O6.1 h.2 k hk;rw[a0i _ _ _ _ _ hk]at t1 ⊢;rw[a0k _ _ _ _ _ hk]at t2 ⊢;refine⟨?_,?_⟩
 ·by_cases e:k=i
  ·subst e;show fz (j0 q'.F rb (rc+1+k) _ rb (rc+1+k)) _;rw[A2,if_pos ⟨by omega,hlt⟩,<-r1.1];exact r1
  ·show fz (j0 q'.F rb (rc+1+i) _ rb (rc+1+k)) _;rw[b9 (by omega)];have:(k<i+1/\(bxOf q.F bb bc).lo k<(bxOf q.F rb rc).lo k)↔(k<i/\(bxOf q.F bb bc).lo k<(bxOf q.F rb rc).lo k):=by omega
   simp only[this];exact t1
 ·show fz (j0 q'.F rb (rc+1+i) _ rb (rc+3+k)) _;rw[b9 (by omega)];exact t2
theorem exI.lo0(hi:i<2)(hlt:fLt .f64 (j6 (q'.F bb (bc+1+i))) (j6 (q'.F rb (rc+1+i)))=false):exI q rb rc bb bc (i+1) j q':=by
 obtain⟨r1,r2,r3,r4⟩:=exI.rd h1 h2 ha h hi;rw[r1.lt r3,a0i _ _ _ _ _ hi,if_neg (by omega),decide_eq_false_iff_not]at hlt;refine⟨h.1,O6.2 λk hk=>?_⟩;obtain⟨t1,t2⟩:=O6.1 h.2 k hk;rw[a0i _ _ _ _ _ hk]at t1 ⊢;rw[a0k _ _ _ _ _ hk]at t2 ⊢;refine⟨?_,t2⟩
 have:(k<i+1/\(bxOf q.F bb bc).lo k<(bxOf q.F rb rc).lo k)↔(k<i/\(bxOf q.F bb bc).lo k<(bxOf q.F rb rc).lo k):=by
  by_cases e:k=i
  ·subst e;omega
  ·omega
 simp only[this];exact t1
theorem exI.hi1(hi:j<2)(hlt:fGt .f64 (j6 (q'.F bb (bc+3+j))) (j6 (q'.F rb (rc+3+j)))=true) :
  exI q rb rc bb bc i (j+1) ⟨q'.D,q'.S,j0 q'.F rb (rc+3+j) (.float .f64 (j6 (q'.F bb (bc+3+j))))⟩:=by
 obtain⟨r1,r2,r3,r4⟩:=exI.rd h1 h2 ha h hi;rw[r2.gt r4,a0k _ _ _ _ _ hi,if_neg (by omega),decide_eq_true_eq]at hlt;refine⟨⟨h.1.1,h.1.2.1,λb c hw=>(b9 (by unfold rW at hw;omega)).trans (h.1.2.2 b c hw)⟩,O6.2 λk hk=>?_⟩;obtain⟨t1,t2⟩:=O6.1 h.2 k hk;rw[a0i _ _ _ _ _ hk]at t1 ⊢;rw[a0k _ _ _ _ _ hk]at t2 ⊢;refine⟨?_,?_⟩
 ·show fz (j0 q'.F rb (rc+3+j) _ rb (rc+1+k)) _;rw[b9 (by omega)];exact t1
 ·by_cases e:k=j
  ·subst e;show fz (j0 q'.F rb (rc+3+k) _ rb (rc+3+k)) _;rw[A2,if_pos ⟨by omega,hlt⟩,<-r2.1];exact r2
  ·show fz (j0 q'.F rb (rc+3+j) _ rb (rc+3+k)) _;rw[b9 (by omega)];have:(k<j+1/\(bxOf q.F rb rc).hi k<(bxOf q.F bb bc).hi k)↔(k<j/\(bxOf q.F rb rc).hi k<(bxOf q.F bb bc).hi k):=by omega
   simp only[this];exact t2
theorem exI.hi0(hi:j<2)(hlt:fGt .f64 (j6 (q'.F bb (bc+3+j))) (j6 (q'.F rb (rc+3+j)))=false):exI q rb rc bb bc i (j+1) q':=by
 obtain⟨r1,r2,r3,r4⟩:=exI.rd h1 h2 ha h hi;rw[r2.gt r4,a0k _ _ _ _ _ hi,if_neg (by omega),decide_eq_false_iff_not]at hlt;refine⟨h.1,O6.2 λk hk=>?_⟩;obtain⟨t1,t2⟩:=O6.1 h.2 k hk;rw[a0i _ _ _ _ _ hk]at t1 ⊢;rw[a0k _ _ _ _ _ hk]at t2 ⊢;refine⟨t1,?_⟩
 have:(k<j+1/\(bxOf q.F rb rc).hi k<(bxOf q.F bb bc).hi k)↔(k<j/\(bxOf q.F rb rc).hi k<(bxOf q.F bb bc).hi k):=by
  by_cases e:k=j
  ·subst e;omega
  ·omega
 simp only[this];exact t2
end
noncomputable def a5X:List SV->RRd (RM)
 | [.pb n rb rc, .pb n1 bb bc]=>.read n λo0=>(match I5 o0 with
  | some (ts,q)=>.ret ⟨[.pb 0 rb rc, .pb 0 bb bc],[(0,rwO ts q)],some (n=n1/\(okR q rb rc/\okR q bb bc/\apart rb rc bb bc)),λi=>exI q rb rc bb bc 2 2 i,λi=>⟨[],[], .tup [],[(0,rwO ts (i))],[],none⟩⟩
  | none=>.fail)
 | _=>.fail
theorem b6L(R:Option Ob->SV->Prop)(ts:List Nat)(q:RM)(rb rc bb bc:Nat){T1}(t1:T1=λ(i:Nat×RM)=>(↑(i.1):Int)){T2}(t2:T2=λ(i:Nat×RM)=>((i.2).3 bb (bc+1+toNat (T1 i)*1))){T3}(t3:T3=(True/\rb=rb/\rc=rc)){T4}(t4:T4=(True/\bb=bb/\bc=bc)){T5}(t5:T5=λ(i:Nat×RM) (j:RM)=>(j.3 bb (bc+3 +
 toNat (T1 i)*1))){T6}(t6:T6=λ(pq:Nat×RM)=>(pq.1<=2/\exI q rb rc bb bc (pq.1) (pq.1) (pq.2))){T7}(t7:T7=λ(i:Nat×RM)=>((i.2).3 rb (rc+1+toNat (T1 i)*1))){T8}(t8:T8=λ(i:Nat×RM)=>(rc+3+toNat (T1 i) *
 1)){T9}(t9:T9=λ(i:Nat×RM)=>(0<=(T1 i)/\(T1 i)<2)):K8 X0 1 [(1,exL ts q rb rc bb bc)] [] (p9 f128) (A6 f128.ntmps [.pb 0 rb rc, .pb 0 bb bc] [(0,rwO ts q)] 1) (A8 X0.G.E.T f128.results.toList λS v=>R (Go.Sx.look S.H 0) v)=(
 (∃(pq:Nat×RM),(T6 pq)/\(T3/\T4/\0=(↑(pq.1):Int)/\True)/\True/\(0=0/\0=0/\ts=ts/\q.3=(pq.2).3/\q.2=(pq.2).2/\RM.D q=RM.D (pq.2))/\True)/\∀(i:Nat×RM),i.1<=2/\exI q rb rc bb bc (i.1) (i.1) (i.2)->(decide ((T1
 i)<2)=true->((T9 i)/\((i.2).1 bb/\bc+1+toNat (T1 i)*1<(Prod.snd i).2 bb/\z6 .f64 (T2 i))/\(T9 i)/\((i.2).1 rb/\rc+1+toNat (T1 i)*1<(i.2).2 rb/\z6 .f64 (T7 i))/\true=true/\(fLt .f64 (j6 (T2 i)) (j6 (T7
 i))=true->(T9 i)/\((i.2).1 bb/\bc+1+toNat (T1 i)*1<(i.2).2 bb/\z6 .f64 (T2 i))/\(T9 i)/\((i.2).1 rb/\rc+1+toNat (T1 i)*1+1<=(i.2).2 rb)/\true=true/\∃(pq:RM),(i.1<2/\exI q rb rc bb bc (i.1+1) (i.1) pq)
 /\(T3/\T4/\(T1 i)=(T1 i)/\True)/\True/\(0=0/\0=0/\ts=ts/\j0 (i.2).3 rb (rc+1+toNat (T1 i)*1) (Value.float .f64 (j6 (T2 i)))=pq.3/\(i.2).2=pq.2/\RM.D (i.2)=RM.D pq)/\True)/\(fLt .f64 (j6 (T2 i)) (j6 (T7 i))
 = false->∃(pq:RM),(i.1<2/\exI q rb rc bb bc (i.1+1) (i.1) pq)/\(T3/\T4/\(T1 i)=(T1 i)/\True)/\True/\(0=0/\0=0/\ts=ts/\(i.2).3=pq.3/\(i.2).2=pq.2/\RM.D (i.2)=RM.D pq)/\True))/\∀(j:RM),i.1<2/\exI q rb rc bb
 bc (i.1+1) (i.1) j->((0:Int)<=(T1 i)/\(T1 i)<2)/\(j.1 bb/\bc+3+toNat (T1 i)*1<j.2 bb/\z6 .f64 (T5 i j))/\((0:Int)<=(T1 i)/\(T1 i)<2)/\(j.1 rb/\rc+3+toNat (T1 i)*1<j.2 rb/\z6 .f64 (j.3 rb (T8 i)))/\
 true=true/\(fGt .f64 (j6 (T5 i j)) (j6 (j.3 rb (T8 i)))=true->(0<=(T1 i)/\(T1 i)<(2:Int))/\(j.1 bb/\bc+3+toNat (T1 i)*1<j.2 bb/\z6 .f64 (T5 i j))/\(0<=(T1 i)/\(T1 i)<(2:Int))/\(j.1 rb/\rc+3+toNat (T1
 i)*1+1<=j.2 rb)/\true=true/\∃(pq:Nat×RM),(T6 pq)/\2-pq.1<2-i.1/\(T3/\T4/\IntKind.wrap .i64 ((T1 i)+1)=(↑(pq.1):Int)/\True)/\True/\(0=0/\0=0/\ts=ts/\j0 j.3 rb (T8 i) (Value.float .f64 (j6 (T5 i j))) =
 (pq.2).3/\j.2=(pq.2).2/\RM.D j=RM.D (pq.2))/\True)/\(fGt .f64 (j6 (T5 i j)) (j6 (j.3 rb (T8 i)))=false->∃(pq:Nat×RM),(T6 pq)/\2-pq.1<2-i.1/\(T3/\T4/\IntKind.wrap .i64 ((T1 i)+1)=(↑(pq.1):Int)/\True)/\True/\(0 =
 0/\0=0/\ts=ts/\j.3=(pq.2).3/\j.2=(pq.2).2/\RM.D j=RM.D (pq.2))/\True))/\(decide ((T1 i)<2)=false->R (Option.some (Ob.mk true 0 (a9.raw ts (RM.D (i.2)) (i.2).2 (i.2).3) 0)) (SV.tup []))):=by subst t1 t2 t3 t4 t5 t6 t7 t8 t9;kernel_rfl
theorem b7d:z0 prog 128 (o9 (RM) ⟨default⟩ a5X):=by
 refine D7 x0 func128 rfl (by kernel_rfl) λargs=>?_
 unfold a5X;split;rotate_left;trivial;rename_i n rb rc n1 bb bc;intro o0;try dsimp only
 split;rotate_left;trivial;rename_i ts q hm0;intro(ho:n=n1/\(okR q rb rc/\okR q bb bc/\apart rb rc bb bc));obtain⟨heq0,ho⟩:=ho;subst heq0;refine⟨?_,Nat.succ_pos _,ts,λ(i:RM)=>i,λ(i:RM)=>.tup [],λ_=>rfl,?_,_,_,(b6L (I7 1 ts (λ(i:RM)=>exI q rb rc bb bc 2 2 i) (λ(i:RM)=>i) (λ(i:RM)=>.tup [])) ts q rb rc bb bc rfl rfl rfl rfl rfl rfl rfl rfl rfl).mpr ?_⟩
 ·refine j8 rfl ⟨λ_=>rfl,?_,⟨trivial,B8 hm0,trivial⟩⟩;simp[q9,z5,z8,z3,nth,g9]
 ·intro i _;rfl
 ·obtain⟨o1,o2,hap⟩:=ho;have hw:∀ i:Nat,i<2->IntKind.wrap .i64 ((i:Int)+1)=((i+1:Nat):Int):=λi hi=>by rw[j5 (by omega) (by omega)];omega
  refine⟨⟨(0,q),⟨by show 0<=2;omega,L4.refl _ _,by rw[b1G];exact o1.2.2⟩,(by and_intros <;> first|trivial|rfl|(rw[j5 (by omega) (by omega)];first|rfl|omega))⟩,?_⟩;rintro⟨i,q'⟩ ⟨hi,hq⟩;replace hi:i<=2:=hi;replace hq:exI q rb rc bb bc i i q':=hq;simp only[true_and,and_true,eq_self,tN9,Nat.mul_one,decide_eq_true_eq,decide_eq_false_iff_not];refine⟨λhlt=>⟨?_,?_⟩,λhge=>?_⟩
  ·have hi2:i<2:=by omega
   obtain⟨m1,m2,m3,m4⟩:=exI.dom o1 o2 hap hq;obtain⟨r1,r2,r3,r4⟩:=exI.rd o1 o2 hap hq hi2;refine⟨⟨by omega,by omega⟩,⟨m1,by omega,r1.flt⟩,⟨by omega,by omega⟩,⟨m2,by omega,r3.flt⟩,λhc=>⟨⟨by omega,by omega⟩,⟨m1,by omega,r1.flt⟩,⟨by omega,by omega⟩,⟨m2,by omega⟩,⟨_,_,_⟩,⟨hi2,exI.lo1 o1 o2 hap hq hi2 hc⟩,(by and_intros <;> first|trivial|rfl|(rw[j5 (by omega) (by omega)];first|rfl|omega))⟩,λhc=>⟨q',⟨hi2,exI.lo0 o1 o2 hap hq hi2 hc⟩,(by and_intros <;> first|trivial|rfl|(rw[j5 (by omega) (by omega)];first|rfl|omega))⟩⟩
  ·rintro q2 ⟨hi2,hq2⟩;obtain⟨m1,m2,m3,m4⟩:=exI.dom o1 o2 hap hq2;obtain⟨r1,r2,r3,r4⟩:=exI.rd o1 o2 hap hq2 hi2;simp only[hw i hi2]
   refine⟨⟨by omega,by omega⟩,⟨m1,by omega,r2.flt⟩,⟨by omega,by omega⟩,⟨m2,by omega,r4.flt⟩,λhc=>⟨⟨by omega,by omega⟩,⟨m1,by omega,r2.flt⟩,⟨by omega,by omega⟩,⟨m2,by omega⟩,(i+1,⟨_,_,_⟩),⟨by show i+1<=2;omega,exI.hi1 o1 o2 hap hq2 hi2 hc⟩,by show 2-(i+1)<2-i;omega,(by and_intros <;> first|trivial|rfl|(rw[j5 (by omega) (by omega)];first|rfl|omega))⟩,λhc=>⟨(i+1,q2),⟨by show i+1<=2;omega,exI.hi0 o1 o2 hap hq2 hi2 hc⟩,by show 2-(i+1)<2-i;omega,(by and_intros <;> first|trivial|rfl|(rw[j5 (by omega) (by omega)];first|rfl|omega))⟩⟩
  ·have e:i=2:=by omega
   subst e;exact⟨q',hq,rfl,trivial⟩
end Go.Proofs.Tryz.Sx

namespace Go.Sx
open Go.RowKit
def a4s(R:a8L)(i:R.ι):Con:=λargs rd nm=>match R.c i args rd nm with
 | some (e,_)=>some e
 | none=>none
theorem a9Y{P:Program}{f:Nat}{R:a8L}(h:z0 P f R)(i:R.ι)(hi:∀ j,j=i):C4 P f (a4s R i) where
 calls:=by
  intro W0 Fr U H ρ w nm args e hH hbd hn hc ho;unfold a4s at hc;split at hc
  ·rename_i e' p he;simp only[oI9]at hc;subst hc;refine(h.calls hH hbd hn λj=>by rw[hi j];exact⟨e',p,he,ho⟩).mono ?_;rintro en w' ⟨j,e2,p2,h1,h2,h3⟩;rw[hi j,he]at h1;simp only[oI9,pI9]at h1;obtain⟨rfl,rfl⟩:=h1;exact h3
  ·cases hc
 loc:=by
  intro args rd rd' nm e hc hr;unfold a4s at hc ⊢;split at hc
  ·rename_i e' p he;simp only[oI9]at hc;subst hc;rw[h.loc he hr]
  ·cases hc
end Go.Sx
