/- Parts of a proof, in order: what each says stands at its head. No conditions. -/
import Derived.ChangeKeysEq
import Derived.DeepKeys
import Derived.KernelRfl
import Derived.Test.YtfhkmkhcofodmaaGreatM2
import Derived.Test.YtfhkmkhcofodmaaGreatM1
namespace Go.Fl
open Ieee
theorem FI.order{x y:Nat}{a b:Int}(hx:FI x a)(hy:FI y b):double.order x y=some (compare a b):=by
 rw[a8j hx.1 hy.1,hx.2,hy.2,a2c]
theorem J5(s:Bool):FI (double.word s 0) 0:=by
 obtain⟨h1,h2⟩:=b8I s 0 (by decide);refine⟨h1,?_⟩;rw[h2];cases s <;> simp[Y1]
theorem a4p(neg:Bool){mag k:Nat}{place:Int}(hp : -1074<=place)(hk0:k≠0)(hk:k<2 ^ 53)(h:mag*2 ^ (place+1074).toNat=k*2 ^ U1) :
  FI (double.nearest neg mag place) (if neg then -(k:Int)else(k:Int)):=by
 have hkl:k.log2<=52:=by
  have:=(Nat.log2_lt hk0).2 hk;omega
 have hU:U1=1074:=rfl;by_cases hs:place<=0
 ·have e:mag=k*2 ^ (-place).toNat:=by
   have e1:U1=(-place).toNat+(place+1074).toNat:=by rw[hU];omega
   rw[e1,Nat.pow_add,<-Nat.mul_assoc]at h;exact Nat.eq_of_mul_eq_mul_right (Nat.two_pow_pos _) h
  subst e;obtain⟨h1,h2⟩:=K4 neg hk0 hk (sh:=(-place).toNat) (place:=place) (by omega) (by omega);refine⟨h1,?_⟩;rw[h2];have e2:(place+((-place).toNat:Int)+1074).toNat=U1:=by rw[hU];omega
  rw[e2];generalize U1=u;rw[Int.natCast_mul,Int.natCast_pow];cases neg <;> simp[Int.neg_mul]
 ·have e:k=mag*2 ^ place.toNat:=by
   have e1:(place+1074).toNat=place.toNat+U1:=by rw[hU];omega
   rw[e1,Nat.pow_add,<-Nat.mul_assoc]at h;exact(Nat.eq_of_mul_eq_mul_right (Nat.two_pow_pos _) h).symm
  have hm0:mag≠0:=λe0=>hk0 (by rw[e,e0,Nat.zero_mul])
  have hle:mag<=k:=by rw[e];exact Nat.le_mul_of_pos_right _ (Nat.two_pow_pos _)
  have hlog:k.log2=mag.log2+place.toNat:=by rw[e,a0t hm0]
  obtain⟨h1,h2⟩:=K4 neg hm0 (Nat.lt_of_le_of_lt hle hk) (sh:=0) (place:=place) (by omega) (by omega);rw[Nat.pow_zero,Nat.mul_one]at h1 h2;refine⟨h1,?_⟩;rw[h2];have e2:(place+(0:Nat)+1074).toNat=place.toNat+U1:=by rw[hU];omega
  rw[e2,Nat.pow_add,<-Nat.mul_assoc,<-e];generalize U1=u;rw[Int.natCast_mul,Int.natCast_pow];cases neg <;> simp[Int.neg_mul]
theorem A0(k:Nat):((2:Int) ^ k).natAbs=2 ^ k:=by rw[Int.natAbs_pow];rfl
theorem A5(s:Bool)(m u:Nat):(signed s m u).natAbs=m*2 ^ u:=by
 rw[F7];cases s
 ·exact Int.natAbs_natCast _
 ·exact(Int.natAbs_neg _).trans (Int.natAbs_natCast _)
theorem b9B{s t:Bool}{m n:Nat}{i j:Int}{a b:Int}(hi : -1074<=i)(hj : -1074<=j)(h1:signed s m (i+1074).toNat=a*2 ^ U1)(h2:signed t n (j+1074).toNat=b*2 ^ U1)
  (hab:(a+b).natAbs<2 ^ 53):∃ d,Datum.sum (.number s m i) (.number t n j)=some d/\FI (double.write d) (a+b):=by
 refine⟨_,rfl,?_⟩;simp only[Format.write];generalize htot:signed s m (i-min i j).toNat+signed t n (j-min i j).toNat=tot;have e1:(i+1074).toNat=(i-min i j).toNat+(min i j+1074).toNat:=by omega
 have e2:(j+1074).toNat=(j-min i j).toNat+(min i j+1074).toNat:=by omega
 have hkey:tot*2 ^ (min i j+1074).toNat=(a+b)*2 ^ U1:=by
  rw[Int.add_mul,<-h1,<-h2,e1,e2,I5,I5,<-Int.add_mul,htot]
 have hpos:∀ k:Nat,(2:Int) ^ k≠0:=λk=>Int.ne_of_gt (C6 k)
 by_cases h0:tot=0
 ·have:a+b=0:=by
   rw[h0,Int.zero_mul]at hkey;rcases Int.mul_eq_zero.1 hkey.symm with h|h
   ·exact h
   ·exact absurd h (hpos _)
  rw[this];have hz:tot.natAbs=0:=by rw[h0];rfl
  unfold Format.nearest;rw[if_pos hz];exact J5 _
 ·have hab0:a+b≠0:=by
   intro e;rw[e,Int.zero_mul]at hkey;rcases Int.mul_eq_zero.1 hkey with h|h
   ·exact h0 h
   ·exact absurd h (hpos _)
  have hk:tot.natAbs*2 ^ (min i j+1074).toNat=(a+b).natAbs*2 ^ U1:=by
   have:=congrArg Int.natAbs hkey;rw[Int.natAbs_mul,Int.natAbs_mul,A0,A0]at this;exact this
  rw[if_neg h0];have:=a4p (decide (tot<0)) (by omega) (by omega:(a+b).natAbs≠0) hab hk
  have hsign:tot<0↔a+b<0:=by
   have hp1:=C6 (min i j+1074).toNat;have hp2:=C6 U1;constructor
   ·intro h;have h3:tot*2 ^ (min i j+1074).toNat<0:=Int.mul_neg_of_neg_of_pos h hp1;rw[hkey]at h3;rcases Int.lt_or_le (a+b) 0 with h4|h4
    ·exact h4
    ·have:=Int.mul_nonneg h4 (Int.le_of_lt hp2);omega
   ·intro h;have h3:(a+b)*2 ^ U1<0:=Int.mul_neg_of_neg_of_pos h hp2;rw[<-hkey]at h3;rcases Int.lt_or_le tot 0 with h4|h4
    ·exact h4
    ·have:=Int.mul_nonneg h4 (Int.le_of_lt hp1);omega
  have hval:(if decide (tot<0)then -((a+b).natAbs:Int)else((a+b).natAbs:Int))=a+b:=by
   by_cases h:tot<0
   ·simp only[h,decide_true,if_true];have:=hsign.1 h;omega
   ·simp only[h,decide_false,Bool.false_eq_true,if_false];have:=mt hsign.2 h;omega
  rw[hval]at this;exact this
theorem c5h{x y:Nat}{a b:Int}(hx:FI x a)(hy:FI y b)(h:(a+b).natAbs<2 ^ 53):∃ r,double.add x y=some r/\FI r (a+b):=by
 obtain⟨s,m,i,h1,h2,h3,_⟩:=y5 hx.1;obtain⟨t,n,j,h4,h5,h6,_⟩:=y5 hy.1;rw[hx.2]at h3;rw[hy.2]at h6;obtain⟨d,hd,hr⟩:=b9B h2 h5 h3 h6 h;refine⟨_,?_,hr⟩;unfold Format.add;rw[h1,h4,hd];rfl
theorem a5O(s:Bool)(m u:Nat):signed (!s) m u = -signed s m u:=by
 unfold signed;cases s <;> simp
theorem b2q{x y:Nat}{a b:Int}(hx:FI x a)(hy:FI y b)(h:(a-b).natAbs<2 ^ 53):∃ r,double.sub x y=some r/\FI r (a-b):=by
 obtain⟨s,m,i,h1,h2,h3,_⟩:=y5 hx.1;obtain⟨t,n,j,h4,h5,h6,_⟩:=y5 hy.1;rw[hx.2]at h3;rw[hy.2]at h6;have h7:signed (!t) n (j+1074).toNat = -b*2 ^ U1:=by rw[a5O,h6,Int.neg_mul]
 rw[Int.sub_eq_add_neg]at h ⊢;obtain⟨d,hd,hr⟩:=b9B h2 h5 h3 h7 h;refine⟨_,?_,hr⟩;unfold Format.sub;rw[h1,h4];show Option.map double.write (Datum.sum (.number s m i) (.number (!t) n j))=_;rw[hd];rfl
theorem a1x{m:Nat}{i:Int}{k:Nat}(hi : -1074<=i)(hm:m<2 ^ 53)(hk:k≠0)(h:m*2 ^ (i+1074).toNat=k*2 ^ U1) : -53<i:=by
 have hU:U1=1074:=rfl;rcases Int.lt_or_le (-53) i with h1|h1
 ·exact h1
 ·exfalso;obtain⟨c,hc⟩:∃ c:Nat,c=1021:=⟨_,rfl⟩;have h2:(i+1074).toNat<=c:=by omega
  have h3:m*2 ^ (i+1074).toNat<2 ^ 53*2 ^ c:=by
   apply Nat.lt_of_lt_of_le (Nat.mul_lt_mul_of_pos_right hm (Nat.two_pow_pos _))
   exact Nat.mul_le_mul_left _ (Nat.pow_le_pow_right (by decide) h2)
  rw[<-Nat.pow_add,h]at h3;have h4:2 ^ U1<=k*2 ^ U1:=Nat.le_mul_of_pos_left _ (Nat.pos_of_ne_zero hk);have h5:53+c=U1:=by rw[hU,hc]
  rw[h5]at h3;exact absurd h3 (Nat.not_lt.2 h4)
theorem c5j{x y:Nat}{a b:Int}(hx:FI x a)(hy:FI y b)(h:(a*b).natAbs<2 ^ 53):∃ r,double.mul x y=some r/\FI r (a*b):=by
 obtain⟨s,m,i,h1,h2,h3,hm⟩:=y5 hx.1;obtain⟨t,n,j,h4,h5,h6,hn⟩:=y5 hy.1;rw[hx.2]at h3;rw[hy.2]at h6
 have hma:m*2 ^ (i+1074).toNat=a.natAbs*2 ^ U1:=by
  have:=congrArg Int.natAbs h3;rw[A5,Int.natAbs_mul,A0]at this;exact this
 have hnb:n*2 ^ (j+1074).toNat=b.natAbs*2 ^ U1:=by
  have:=congrArg Int.natAbs h6;rw[A5,Int.natAbs_mul,A0]at this;exact this
 refine⟨double.nearest (s ^^ t) (m*n) (i+j),?_,?_⟩
 ·unfold Format.mul;rw[h1,h4];rfl
 ·by_cases h0:m*n=0
  ·have:a*b=0:=by
    rcases Nat.mul_eq_zero.1 h0 with h7|h7
    ·rw[h7,Nat.zero_mul]at hma;rcases Nat.mul_eq_zero.1 hma.symm with h8|h8
     ·rw[Int.natAbs_eq_zero.1 h8,Int.zero_mul]
     ·exact absurd h8 (Nat.ne_of_gt (Nat.two_pow_pos _))
    ·rw[h7,Nat.zero_mul]at hnb;rcases Nat.mul_eq_zero.1 hnb.symm with h8|h8
     ·rw[Int.natAbs_eq_zero.1 h8,Int.mul_zero]
     ·exact absurd h8 (Nat.ne_of_gt (Nat.two_pow_pos _))
   rw[this];unfold Format.nearest;rw[if_pos h0];exact J5 _
  ·have ha:a.natAbs≠0:=by
    intro e;rw[e,Nat.zero_mul]at hma;rcases Nat.mul_eq_zero.1 hma with h8|h8
    ·exact h0 (by rw[h8,Nat.zero_mul])
    ·exact absurd h8 (Nat.ne_of_gt (Nat.two_pow_pos _))
   have hb:b.natAbs≠0:=by
    intro e;rw[e,Nat.zero_mul]at hnb;rcases Nat.mul_eq_zero.1 hnb with h8|h8
    ·exact h0 (by rw[h8,Nat.mul_zero])
    ·exact absurd h8 (Nat.ne_of_gt (Nat.two_pow_pos _))
   have hi:=a1x h2 hm ha hma;have hj:=a1x h5 hn hb hnb;have hU:U1=1074:=rfl
   have hkey:m*n*2 ^ (i+j+1074).toNat=(a.natAbs*b.natAbs)*2 ^ U1:=by
    have e1:(i+1074).toNat+(j+1074).toNat=(i+j+1074).toNat+U1:=by rw[hU];omega
    have e2:(m*n*2 ^ (i+j+1074).toNat)*2 ^ U1=(a.natAbs*b.natAbs*2 ^ U1)*2 ^ U1:=by
     calc (m*n*2 ^ (i+j+1074).toNat)*2 ^ U1=m*n*2 ^ ((i+j+1074).toNat+U1):=by rw[Nat.pow_add,Nat.mul_assoc]
      _=m*n*2 ^ ((i+1074).toNat+(j+1074).toNat):=by rw[e1]
      _=(m*2 ^ (i+1074).toNat)*(n*2 ^ (j+1074).toNat):=by rw[Nat.pow_add];ac_rfl
      _=(a.natAbs*2 ^ U1)*(b.natAbs*2 ^ U1):=by rw[hma,hnb]
      _=_:=by generalize (2:Nat) ^ U1=u;ac_rfl
    exact Nat.eq_of_mul_eq_mul_right (Nat.two_pow_pos _) e2
   have hk0:a.natAbs*b.natAbs≠0:=Nat.mul_ne_zero ha hb;have hk:a.natAbs*b.natAbs<2 ^ 53:=by rw[<-Int.natAbs_mul];exact h
   have:=a4p (s ^^ t) (by omega) hk0 hk hkey
   have hsa:s=decide (a<0):=by
    have hp:=C6 U1;rw[F7]at h3;cases s
    ·have:0<=a*2 ^ U1:=by rw[<-h3];exact Int.natCast_nonneg _
     have:¬a<0:=λhneg=>by have:=Int.mul_neg_of_neg_of_pos hneg hp;omega
     exact(decide_eq_false this).symm
    ·have h9:a*2 ^ U1<=0:=by rw[<-h3];exact Int.neg_nonpos_of_nonneg (Int.natCast_nonneg _)
     have:a<0:=by
      rcases Int.lt_or_le a 0 with h10|h10
      ·exact h10
      ·have:0<a:=by omega
       have:=Int.mul_pos this hp;omega
     exact(decide_eq_true this).symm
   have hsb:t=decide (b<0):=by
    have hp:=C6 U1;rw[F7]at h6;cases t
    ·have:0<=b*2 ^ U1:=by rw[<-h6];exact Int.natCast_nonneg _
     have:¬b<0:=λhneg=>by have:=Int.mul_neg_of_neg_of_pos hneg hp;omega
     exact(decide_eq_false this).symm
    ·have h9:b*2 ^ U1<=0:=by rw[<-h6];exact Int.neg_nonpos_of_nonneg (Int.natCast_nonneg _)
     have:b<0:=by
      rcases Int.lt_or_le b 0 with h10|h10
      ·exact h10
      ·have:0<b:=by omega
       have:=Int.mul_pos this hp;omega
     exact(decide_eq_true this).symm
   have hval:(if (s ^^ t)then -((a.natAbs*b.natAbs:Nat):Int)else((a.natAbs*b.natAbs:Nat):Int))=a*b:=by
    rw[hsa,hsb,Int.natCast_mul];by_cases hA:a<0 <;> by_cases hB:b<0
    ·have e1:(a.natAbs:Int) = -a:=by omega
     have e2:(b.natAbs:Int) = -b:=by omega
     simp only[hA,hB,decide_true,Bool.xor_self,Bool.false_eq_true,if_false,e1,e2,Int.neg_mul_neg]
    ·have e1:(a.natAbs:Int) = -a:=by omega
     have e2:(b.natAbs:Int)=b:=by omega
     simp only[hA,hB,decide_true,decide_false,Bool.xor_false,if_true,e1,e2,Int.neg_mul,Int.neg_neg]
    ·have e1:(a.natAbs:Int)=a:=by omega
     have e2:(b.natAbs:Int) = -b:=by omega
     simp only[hA,hB,decide_true,decide_false,Bool.false_xor,if_true,e1,e2,Int.mul_neg,Int.neg_neg]
    ·have e1:(a.natAbs:Int)=a:=by omega
     have e2:(b.natAbs:Int)=b:=by omega
     simp only[hA,hB,decide_false,Bool.xor_self,Bool.false_eq_true,if_false,e1,e2]
   rw[hval]at this;exact this
end Go.Fl

namespace Go.Fl
open Ieee
theorem b3O(neg:Bool)(n drop:Nat)(h:2*n=(2*Toward.even.cut neg n drop+1)*2 ^ drop∨2*n+2 ^ drop=2*Toward.even.cut neg n drop*2 ^ drop):Toward.even.cut neg n drop % 2=0:=by
 unfold Toward.cut at *;simp only[Nat.shiftLeft_eq,Nat.one_mul]at *;by_cases hd:drop<=n.log2+2
 ·rw[Nat.min_eq_left hd]at *;have hg:0<2 ^ drop:=Nat.two_pow_pos _;have hdm:=Nat.div_add_mod n (2 ^ drop);have hlt:=Nat.mod_lt n hg;generalize 2 ^ drop=g at *;have hm:g*(n / g)=n / g*g:=Nat.mul_comm _ _;rw[hm]at hdm;generalize n / g=q at *;generalize n % g=r at *;by_cases h1:g<2*r
  ·exfalso;simp only[h1,decide_true,Bool.true_or,Bool.toNat_true]at h;have e1:(2*(q+1)+1)*g=2*(q*g)+3*g:=by rw[Nat.add_mul,Nat.mul_assoc,Nat.add_mul];omega
   have e2:2*(q+1)*g=2*(q*g)+2*g:=by rw[Nat.mul_assoc,Nat.add_mul];omega
   omega
  ·by_cases h2:g=2*r
   ·have e2:(g==2*r)=true:=by simp[h2]
    have e1:(decide (g<2*r))=false:=by simp[h1]
    by_cases h3:q % 2=1
    ·have e3:(q % 2==1)=true:=by simp[h3]
     simp only[e1,e2,e3,Bool.false_or,Bool.true_and,Bool.toNat_true];omega
    ·have e3:(q % 2==1)=false:=by simp[h3]
     simp only[e1,e3,Bool.and_false,Bool.or_false,Bool.toNat_false];omega
   ·exfalso;have e2:(g==2*r)=false:=by simp[h2]
    have e1:(decide (g<2*r))=false:=by simp[h1]
    simp only[e1,e2,Bool.false_and,Bool.or_false,Bool.toNat_false,Nat.add_zero]at h;have e3:(2*q+1)*g=2*(q*g)+g:=by rw[Nat.add_mul,Nat.mul_assoc];omega
    have e4:2*q*g=2*(q*g):=by rw[Nat.mul_assoc]
    omega
 ·have hd':n.log2+2<drop:=by omega
  rw[Nat.min_eq_right (by omega)];have h1:n<2 ^ (n.log2+1):=Nat.lt_log2_self;have h2:2 ^ (n.log2+2)=2*2 ^ (n.log2+1):=by rw[Nat.pow_succ];omega
  have h4:n / 2 ^ (n.log2+2)=0:=Nat.div_eq_of_lt (by omega);have h5:n % 2 ^ (n.log2+2)=n:=Nat.mod_eq_of_lt (by omega);rw[h4,h5];have h6:¬2 ^ (n.log2+2)<2*n:=by omega
  have h7:(2 ^ (n.log2+2)==2*n)=false:=by simp;omega
  simp only[h6,h7,decide_false,Bool.false_and,Bool.or_false,Bool.toNat_false,Nat.add_zero]
structure P9 (kept E A B u:Nat):Prop where
 lo:2 ^ 52<=kept
 hi:kept<=2 ^ 53
 up:(2*kept)*(2 ^ E*B)<=2*(A*u)+2 ^ E*B
 dn:2*(A*u)<=(2*kept)*(2 ^ E*B)+2 ^ E*B
 bl:2 ^ 52*(2 ^ E*B)<=A*u
 bh:A*u<2 ^ 53*(2 ^ E*B)
 tie:2*(A*u)=(2*kept)*(2 ^ E*B)+2 ^ E*B∨2*(A*u)+2 ^ E*B=(2*kept)*(2 ^ E*B)->kept % 2=0
theorem b5E{m n y6 Q g kept:Nat}(hn:0<n)(hQ:Q=2*(m*2 ^ y6 / n)+(m*2 ^ y6 % n != 0).toNat){D:Nat}(hD:2<=D)(hg:g=2 ^ D)(h1:2*(kept*g)<=2*Q+g)(h2:2*Q<=2*(kept*g)+g)
  (ht:2*Q=(2*kept+1)*g∨2*Q+g=2*kept*g->kept % 2=0) (hl:2 ^ 52*g<=Q) (hh:Q<2 ^ 53*g) :
  (2*kept)*(g*n)<=2*(2*(m*2 ^ y6))+g*n/\2*(2*(m*2 ^ y6))<=(2*kept)*(g*n)+g*n/\2 ^ 52*(g*n)<=2*(m*2 ^ y6)/\2*(m*2 ^ y6)<2 ^ 53*(g*n)/\
  (2*(2*(m*2 ^ y6))=(2*kept)*(g*n)+g*n∨2*(2*(m*2 ^ y6))+g*n=(2*kept)*(g*n)->kept % 2=0):=by
 generalize hdv:m*2 ^ y6=dv at *;have hdm:=Nat.div_add_mod dv n;have hlt:=Nat.mod_lt dv hn;generalize dv / n=q at *;generalize dv % n=r at *;obtain⟨g4,hg4⟩:∃ g4,g=4*g4:=⟨2 ^ (D-2),by rw[hg];have e:2 ^ D=2 ^ (2+(D-2)):=(by congr 1;omega);rw[e,Nat.pow_add]⟩;by_cases hr:r=0
 ·
  have hQ':Q=2*q:=by rw[hQ,hr];rfl
  have hY:2*dv=Q*n:=by rw[hQ',Nat.mul_assoc,Nat.mul_comm q n];omega
  rw[hY];refine⟨?_,?_,?_,?_,?_⟩
  ·have:=Nat.mul_le_mul_right n h1
   calc 2*kept*(g*n)=2*(kept*g)*n:=by ac_rfl
    _<=(2*Q+g)*n:=this
    _=_:=by rw[Nat.add_mul,Nat.mul_assoc]
  ·have:=Nat.mul_le_mul_right n h2
   calc 2*(Q*n)=2*Q*n:=by ac_rfl
    _<=(2*(kept*g)+g)*n:=this
    _=_:=by rw[Nat.add_mul];congr 1;ac_rfl
  ·calc 2 ^ 52*(g*n)=2 ^ 52*g*n:=by ac_rfl
    _<=Q*n:=Nat.mul_le_mul_right n hl
  ·calc Q*n<2 ^ 53*g*n:=Nat.mul_lt_mul_of_pos_right hh hn
    _=_:=by ac_rfl
  ·rintro(h|h)
   ·refine ht (.inl (Nat.eq_of_mul_eq_mul_right hn ?_))
    calc 2*Q*n=2*(Q*n):=by ac_rfl
     _=_:=h
     _=_:=by rw[Nat.add_mul,Nat.one_mul,Nat.add_mul];congr 1;ac_rfl
   ·refine ht (.inr (Nat.eq_of_mul_eq_mul_right hn ?_))
    calc (2*Q+g)*n=2*(Q*n)+g*n:=by rw[Nat.add_mul];congr 1;ac_rfl
     _=_:=h
     _=_:=by ac_rfl
 ·have hQ':Q=2*q+1:=by
   rw[hQ];have:(r != 0)=true:=by simp[hr]
   rw[this];rfl
  have hY1:(Q-1)*n<2*dv:=by
   rw[hQ',Nat.add_sub_cancel,Nat.mul_assoc,Nat.mul_comm q n];omega
  have hY2:2*dv<(Q+1)*n:=by
   have:(Q+1)*n=2*(n*q)+2*n:=by rw[hQ',Nat.add_mul,Nat.add_mul,Nat.mul_assoc,Nat.mul_comm q n];omega
   omega
  have hQ1:1<=Q:=by omega
  have f1:2*(kept*g)<=2*(Q-1)+g:=by
   have e1:kept*g=4*(kept*g4):=by rw[hg4];ac_rfl
   omega
  have f2:2*(Q+1)<=2*(kept*g)+g:=by
   have e1:kept*g=4*(kept*g4):=by rw[hg4];ac_rfl
   omega
  have s1:2*kept*(g*n)<2*(2*dv)+g*n:=by
   calc 2*kept*(g*n)=2*(kept*g)*n:=by ac_rfl
    _<=(2*(Q-1)+g)*n:=Nat.mul_le_mul_right n f1
    _=2*((Q-1)*n)+g*n:=by rw[Nat.add_mul,Nat.mul_assoc]
    _<_:=by omega
  have s2:2*(2*dv)<2*kept*(g*n)+g*n:=by
   calc 2*(2*dv)<2*((Q+1)*n):=by omega
    _=2*(Q+1)*n:=by ac_rfl
    _<=(2*(kept*g)+g)*n:=Nat.mul_le_mul_right n f2
    _=_:=by rw[Nat.add_mul];congr 1;ac_rfl
  refine⟨Nat.le_of_lt s1,Nat.le_of_lt s2,?_,?_,?_⟩
  ·have f3:2 ^ 52*g<=Q-1:=by
    have e1:2 ^ 52*g=4*(2 ^ 52*g4):=by rw[hg4];ac_rfl
    generalize 2 ^ 52*g4=z at *;omega
   calc 2 ^ 52*(g*n)=2 ^ 52*g*n:=by ac_rfl
    _<=(Q-1)*n:=Nat.mul_le_mul_right n f3
    _<=_:=Nat.le_of_lt hY1
  ·have f3:Q+1<=2 ^ 53*g:=by omega
   calc 2*dv<(Q+1)*n:=hY2
    _<=2 ^ 53*g*n:=Nat.mul_le_mul_right n f3
    _=_:=by ac_rfl
  ·rintro(h|h)
   ·exact absurd h (Nat.ne_of_lt s2)
   ·exact absurd h (Nat.ne_of_gt s1)
theorem a1p{n:Nat}(h:n≠0):2 ^ n.log2<=n/\n<2 ^ (n.log2+1):=⟨Nat.log2_self_le h,Nat.lt_log2_self⟩
theorem b8J{x y:Nat}{a b:Int}(hx:FI x a)(hy:FI y b)(ha:a≠0)(hb:b≠0)(hb2:b.natAbs<2 ^ 53)(ha2:a.natAbs<2 ^ 53) :
  ∃ r,double.div x y=some r/\Fin r/\∃ kept E,P9 kept E a.natAbs b.natAbs (2 ^ U1)/\V r=if (decide (a<0) ^^ decide (b<0))then -((kept*2 ^ E:Nat):Int)else((kept*2 ^ E:Nat):Int):=by
 obtain⟨s,m,i,h1,h2,h3,hm⟩:=y5 hx.1;obtain⟨t,n,j,h4,h5,h6,hn⟩:=y5 hy.1;rw[hx.2]at h3;rw[hy.2]at h6
 have hma:m*2 ^ (i+1074).toNat=a.natAbs*2 ^ U1:=by
  have:=congrArg Int.natAbs h3;rw[A5,Int.natAbs_mul,A0]at this;exact this
 have hnb:n*2 ^ (j+1074).toNat=b.natAbs*2 ^ U1:=by
  have:=congrArg Int.natAbs h6;rw[A5,Int.natAbs_mul,A0]at this;exact this
 have ha':a.natAbs≠0:=by omega
 have hb':b.natAbs≠0:=by omega
 have hpos:∀ k:Nat,(2:Nat) ^ k≠0:=λk=>Nat.ne_of_gt (Nat.two_pow_pos _)
 have hm0:m≠0:=λe=>by
  rw[e,Nat.zero_mul]at hma;rcases Nat.mul_eq_zero.1 hma.symm with h|h
  ·exact ha' h
  ·exact hpos _ h
 have hn0:n≠0:=λe=>by
  rw[e,Nat.zero_mul]at hnb;rcases Nat.mul_eq_zero.1 hnb.symm with h|h
  ·exact hb' h
  ·exact hpos _ h
 have hi:=a1x h2 hm ha' hma;have hj:=a1x h5 hn hb' hnb;have hU:U1=1074:=rfl
 have hj2:j<53:=by
  rcases Int.lt_or_le j 53 with h|h
  ·exact h
  ·exfalso;obtain⟨c,hc⟩:∃ c:Nat,c=53:=⟨_,rfl⟩;have e1:(j+1074).toNat=U1+(j.toNat-c+c):=by rw[hU];omega
   rw[e1,Nat.pow_add,Nat.pow_add,Nat.mul_comm (2 ^ U1),<-Nat.mul_assoc]at hnb;have e2:=Nat.eq_of_mul_eq_mul_right (Nat.two_pow_pos _) hnb
   have e3:2 ^ c<=b.natAbs:=by
    rw[<-e2,<-Nat.mul_assoc];exact Nat.le_mul_of_pos_left _ (Nat.mul_pos (Nat.pos_of_ne_zero hn0) (Nat.two_pow_pos _))
   rw[hc]at e3;omega
 have hmi:i<53:=by
  rcases Int.lt_or_le i 53 with h|h
  ·exact h
  ·exfalso;obtain⟨c,hc⟩:∃ c:Nat,c=53:=⟨_,rfl⟩;have e1:(i+1074).toNat=U1+(i.toNat-c+c):=by rw[hU];omega
   rw[e1,Nat.pow_add,Nat.pow_add,Nat.mul_comm (2 ^ U1),<-Nat.mul_assoc]at hma;have e2:=Nat.eq_of_mul_eq_mul_right (Nat.two_pow_pos _) hma
   have e3:2 ^ c<=a.natAbs:=by
    rw[<-e2,<-Nat.mul_assoc];exact Nat.le_mul_of_pos_left _ (Nat.mul_pos (Nat.pos_of_ne_zero hm0) (Nat.two_pow_pos _))
   rw[hc]at e3;omega
 have hlm:m.log2<=52:=by
  have:=(Nat.log2_lt hm0).2 hm;omega
 have hln:n.log2<=52:=by
  have:=(Nat.log2_lt hn0).2 hn;omega
 have hmore:(52+2)+n.log2-m.log2=54+n.log2-m.log2:=rfl;generalize hmo:54+n.log2-m.log2=y6 at *
 let Q:=2*(m*2 ^ y6 / n)+(m*2 ^ y6 % n != 0).toNat
 have hQdef:Q=2*(m*2 ^ y6 / n)+(m*2 ^ y6 % n != 0).toNat:=rfl
 clear_value Q
 have hdiv:double.div x y=some (double.nearest (s ^^ t) Q (i-j-y6-1)):=by
  unfold Format.div;rw[h1,h4];simp only[Datum.quotient,hn0,if_false,frb,Option.map_some,Format.write];rw[show (52+2)+n.log2-m.log2=y6 from hmo,Nat.shiftLeft_eq,hQdef]
 have hq53:2 ^ 53<=m*2 ^ y6 / n:=by
  rw[Nat.le_div_iff_mul_le (Nat.pos_of_ne_zero hn0)];obtain⟨l1,_⟩:=a1p hm0;obtain⟨_,l4⟩:=a1p hn0;have e1:m.log2+y6=53+(n.log2+1):=by omega
  calc 2 ^ 53*n<=2 ^ 53*2 ^ (n.log2+1):=Nat.mul_le_mul_left _ (Nat.le_of_lt l4)
   _=2 ^ m.log2*2 ^ y6:=by rw[<-Nat.pow_add,<-Nat.pow_add,e1]
   _<=m*2 ^ y6:=Nat.mul_le_mul_right _ l1
 have hQ54:2 ^ 54<=Q:=by rw[hQdef];omega
 have hQ0:Q≠0:=by omega
 obtain⟨q1,q2⟩:=a1p hQ0;have hL54:54<=Q.log2:=by rw[Nat.le_log2 hQ0];exact hQ54
 have hLup:Q.log2<=161:=by
  have hQup:Q<2 ^ 162:=by
   have:m*2 ^ y6 / n<=m*2 ^ y6:=Nat.div_le_self _ _
   have h7:m*2 ^ y6<2 ^ 53*2 ^ 106:=by
    apply Nat.lt_of_lt_of_le (Nat.mul_lt_mul_of_pos_right hm (Nat.two_pow_pos _))
    exact Nat.mul_le_mul_left _ (Nat.pow_le_pow_right (by decide) (by omega))
   have h8:(m*2 ^ y6 % n != 0).toNat<=1:=Bool.toNat_le _;have h9:(2:Nat) ^ 53*2 ^ 106=2 ^ 159:=by decide
   have h10:(2:Nat) ^ 162=8*2 ^ 159:=by decide
   rw[h9]at h7;rw[hQdef,h10];generalize (2:Nat) ^ 159=z at *;omega
  have:=(Nat.log2_lt hQ0).2 hQup;omega
 generalize hpl:i-j-y6-1=place at *;have hplb : -300<=place/\place<=1100:=by omega
 have hlast:y4 Q place=place+Q.log2-52:=by unfold y4;omega
 obtain⟨n1,n2⟩:=Z8 (s ^^ t) hQ0 (place:=place) (by omega);obtain⟨k1,k2⟩:=V7 (s ^^ t) hQ0 place;have hk2:2 ^ 52<=A9 (s ^^ t) Q place:=k2.resolve_left (by rw[hlast];omega);have hD:(y4 Q place-place).toNat=Q.log2-52:=by rw[hlast];omega
 have hz:(place-y4 Q place).toNat=0:=by rw[hlast];omega
 have hkd:A9 (s ^^ t) Q place=Toward.even.cut (s ^^ t) Q (Q.log2-52):=by
  unfold A9;rw[hD,hz,Nat.shiftLeft_eq,Nat.pow_zero,Nat.mul_one]
 obtain⟨c1,c2⟩:=a1M (s ^^ t) Q (Q.log2-52);have c3:=b3O (s ^^ t) Q (Q.log2-52);rw[<-hkd]at c1 c2 c3;generalize A9 (s ^^ t) Q place=kept at *;have hlg:Q.log2=52+(Q.log2-52):=by omega
 have hl:2 ^ 52*2 ^ (Q.log2-52)<=Q:=by rw[<-Nat.pow_add,<-hlg];exact q1
 have hh:Q<2 ^ 53*2 ^ (Q.log2-52):=by rw[<-Nat.pow_add,show 53+(Q.log2-52)=Q.log2+1 by omega];exact q2
 obtain⟨r1,r2,r3,r4,r5⟩:=b5E (Nat.pos_of_ne_zero hn0) hQdef (D:=Q.log2-52) (by omega) rfl c1 c2 c3 hl hh;have hE:(y4 Q place+1074).toNat=(Q.log2-52)+(place+1074).toNat:=by rw[hlast];omega
 have hSc1:2 ^ (Q.log2-52)*n*2 ^ ((place+1074).toNat+(j+1074).toNat)=2 ^ (y4 Q place+1074).toNat*b.natAbs*2 ^ U1:=by
  rw[hE,Nat.pow_add,Nat.pow_add,Nat.mul_assoc (2 ^ _*2 ^ _),<-hnb];ac_rfl
 have hSc2:2*(m*2 ^ y6)*2 ^ ((place+1074).toNat+(j+1074).toNat)=a.natAbs*2 ^ U1*2 ^ U1:=by
  have e1:1+y6+((place+1074).toNat+(j+1074).toNat)=(i+1074).toNat+U1:=by rw[hU];omega
  calc 2*(m*2 ^ y6)*2 ^ ((place+1074).toNat+(j+1074).toNat)=m*(2 ^ 1*2 ^ y6*2 ^ ((place+1074).toNat+(j+1074).toNat)):=by rw[Nat.pow_one];ac_rfl
   _=m*2 ^ (1+y6+((place+1074).toNat+(j+1074).toNat)):=by rw[<-Nat.pow_add,<-Nat.pow_add]
   _=m*2 ^ (i+1074).toNat*2 ^ U1:=by rw[e1,Nat.pow_add,Nat.mul_assoc]
   _=_:=by rw[hma]
 refine⟨_,hdiv,n1,kept,(y4 Q place+1074).toNat,?_,?_⟩
 ·generalize (y4 Q place+1074).toNat=E at *;generalize 2 ^ ((place+1074).toNat+(j+1074).toNat)=Sc at *;generalize hY:2*(m*2 ^ y6)=Y at *;generalize hG:2 ^ (Q.log2-52)*n=G at *;have hu:0<2 ^ U1:=Nat.two_pow_pos _;generalize 2 ^ U1=u at *;generalize hP:2 ^ E*b.natAbs=Pw at *;have sc:∀ {p q:Nat},p*Sc=q*u->True:=λ_=>trivial
  have g1:∀ k,k*(Pw*u)=k*G*Sc:=λk=>by rw[<-hSc1];ac_rfl
  have g2:∀ k,k*(a.natAbs*u*u)=k*Y*Sc:=λk=>by rw[<-hSc2];ac_rfl
  have hle:∀ {p q:Nat},p*u<=q*u->p<=q:=λh=>Nat.le_of_mul_le_mul_right h hu
  refine⟨hk2,k1,?_,?_,?_,?_,?_⟩ <;> rw[hP]
  ·apply hle
   calc 2*kept*Pw*u=2*kept*G*Sc:=by rw[Nat.mul_assoc (2*kept),g1]
    _<=(2*Y+G)*Sc:=Nat.mul_le_mul_right _ r1
    _=2*(a.natAbs*u*u)+1*(Pw*u):=by rw[g1,g2,Nat.add_mul,Nat.one_mul]
    _=(2*(a.natAbs*u)+Pw)*u:=by rw[Nat.add_mul,Nat.one_mul];congr 1;ac_rfl
  ·apply hle
   calc 2*(a.natAbs*u)*u=2*(a.natAbs*u*u):=by ac_rfl
    _=2*Y*Sc:=by rw[g2]
    _<=(2*kept*G+G)*Sc:=Nat.mul_le_mul_right _ r2
    _=2*kept*(Pw*u)+1*(Pw*u):=by rw[g1,g1,Nat.add_mul,Nat.one_mul]
    _=_:=by rw[Nat.add_mul,Nat.one_mul];ac_rfl
  ·apply hle
   calc 2 ^ 52*Pw*u=2 ^ 52*G*Sc:=by rw[Nat.mul_assoc,g1]
    _<=Y*Sc:=Nat.mul_le_mul_right _ r3
    _=1*(a.natAbs*u*u):=by rw[g2,Nat.one_mul]
    _=_:=by rw[Nat.one_mul]
  ·have hSc0:0<Sc:=by
    rcases Nat.eq_zero_or_pos Sc with h|h
    ·exfalso;rw[h,Nat.mul_zero]at hSc2;have h9:0<a.natAbs*u*u:=Nat.mul_pos (Nat.mul_pos (by omega) hu) hu;omega
    ·exact h
   apply Nat.lt_of_mul_lt_mul_right (a:=u)
   calc a.natAbs*u*u=Y*Sc:=hSc2.symm
    _<2 ^ 53*G*Sc:=Nat.mul_lt_mul_of_pos_right r4 hSc0
    _=2 ^ 53*(Pw*u):=by rw[g1]
    _=_:=by ac_rfl
  ·have hSc0:0<Sc:=by
    rcases Nat.eq_zero_or_pos Sc with h|h
    ·exfalso;rw[h,Nat.mul_zero]at hSc2;have h9:0<a.natAbs*u*u:=Nat.mul_pos (Nat.mul_pos (by omega) hu) hu;omega
    ·exact h
   rintro(h|h)
   ·refine r5 (.inl (Nat.eq_of_mul_eq_mul_right hSc0 ?_))
    calc 2*Y*Sc=2*(a.natAbs*u*u):=(g2 2).symm
     _=2*(a.natAbs*u)*u:=by ac_rfl
     _=(2*kept*Pw+Pw)*u:=by rw[h]
     _=2*kept*(Pw*u)+1*(Pw*u):=by rw[Nat.add_mul,Nat.one_mul];ac_rfl
     _=2*kept*G*Sc+1*G*Sc:=by rw[g1,g1]
     _=_:=by rw[Nat.add_mul,Nat.one_mul]
   ·refine r5 (.inr (Nat.eq_of_mul_eq_mul_right hSc0 ?_))
    calc (2*Y+G)*Sc=2*(a.natAbs*u*u)+1*(Pw*u):=by rw[g1,g2,Nat.add_mul,Nat.one_mul]
     _=(2*(a.natAbs*u)+Pw)*u:=by rw[Nat.add_mul,Nat.one_mul];ac_rfl
     _=2*kept*Pw*u:=by rw[h]
     _=2*kept*(Pw*u):=by ac_rfl
     _=_:=g1 _
 ·rw[n2]
  have sgn:∀ {s:Bool} {m k:Nat} {a:Int},a≠0->signed s m k=a*2 ^ U1->s=decide (a<0):=by
   intro s m k a ha h;have hp:=C6 U1;rw[F7]at h;cases s
   ·have h8:0<=a*2 ^ U1:=by rw[<-h];exact Int.natCast_nonneg _
    have:¬a<0:=λhneg=>by have:=Int.mul_neg_of_neg_of_pos hneg hp;omega
    exact(decide_eq_false this).symm
   ·have h9:a*2 ^ U1<=0:=by rw[<-h];exact Int.neg_nonpos_of_nonneg (Int.natCast_nonneg _)
    have:a<0:=by
     rcases Int.lt_or_le a 0 with h10|h10
     ·exact h10
     ·have:0<a:=by omega
      have:=Int.mul_pos this hp;omega
    exact(decide_eq_true this).symm
  rw[sgn ha h3,sgn hb h6]
end Go.Fl

namespace Go.Fl
open Ieee
section
variable {k E A B u l F C D:Nat}
theorem P9.pos(h:P9 k E A B u):0<k:=by have:=h.lo;omega
theorem b4x(h1:P9 k E A B u)(h2:P9 l F C D u)(_hB:0<B)(_hD:0<D)(hu:0<u)(hlt:A*D<C*B)(hs:A*D<=2 ^ 50):k*2 ^ E<l*2 ^ F:=by
 have e1:2 ^ 53*(k*2 ^ E*B)<=(2 ^ 53+1)*(A*u):=by
  have a1:=h1.up;have a2:=h1.bl;have a3:2*k*(2 ^ E*B)=2*(k*2 ^ E*B):=by ac_rfl
  rw[a3]at a1;generalize 2 ^ E*B=P at *;generalize k*2 ^ E*B=N at *;omega
 have e2:2 ^ 53*(C*u)<=2 ^ 53*(l*2 ^ F*D)+C*u:=by
  have a1:=h2.dn;have a2:=h2.bl;have a3:2*l*(2 ^ F*D)=2*(l*2 ^ F*D):=by ac_rfl
  rw[a3]at a1;generalize 2 ^ F*D=P at *;generalize l*2 ^ F*D=N at *;omega
 have f1:2 ^ 53*(k*2 ^ E)*(B*D)<=(2 ^ 53+1)*(A*D)*u:=by
  calc 2 ^ 53*(k*2 ^ E)*(B*D)=2 ^ 53*(k*2 ^ E*B)*D:=by ac_rfl
   _<=(2 ^ 53+1)*(A*u)*D:=Nat.mul_le_mul_right _ e1
   _=_:=by ac_rfl
 have f2:2 ^ 53*(C*B)*u<=2 ^ 53*(l*2 ^ F)*(B*D)+(C*B)*u:=by
  calc 2 ^ 53*(C*B)*u=2 ^ 53*(C*u)*B:=by ac_rfl
   _<=(2 ^ 53*(l*2 ^ F*D)+C*u)*B:=Nat.mul_le_mul_right _ e2
   _=_:=by rw[Nat.add_mul];congr 1 <;> ac_rfl
 have f3:(2 ^ 53+1)*(A*D)*u+(C*B)*u<2 ^ 53*(C*B)*u:=by
  rw[<-Nat.add_mul]
  apply Nat.mul_lt_mul_of_pos_right _ hu
  generalize A*D=X at *;generalize C*B=Y at *;omega
 have f4:2 ^ 53*(k*2 ^ E)*(B*D)<2 ^ 53*(l*2 ^ F)*(B*D):=by omega
 have f5:=Nat.lt_of_mul_lt_mul_right f4;exact Nat.lt_of_mul_lt_mul_left f5
theorem c0p(h1:P9 k E A B u)(h2:P9 l F C D u)(hB:0<B)(hD:0<D)(heq:A*D=C*B):k*2 ^ E=l*2 ^ F:=by
 have hX:A*u*D=C*u*B:=by
  calc A*u*D=A*D*u:=by ac_rfl
   _=C*B*u:=by rw[heq]
   _=_:=by ac_rfl
 have b1:2 ^ 52*(2 ^ E*(B*D))<=A*u*D:=by
  calc _=2 ^ 52*(2 ^ E*B)*D:=by ac_rfl
   _<=_:=Nat.mul_le_mul_right _ h1.bl
 have b2:A*u*D<2 ^ 53*(2 ^ E*(B*D)):=by
  calc _<2 ^ 53*(2 ^ E*B)*D:=Nat.mul_lt_mul_of_pos_right h1.bh hD
   _=_:=by ac_rfl
 have b3:2 ^ 52*(2 ^ F*(B*D))<=A*u*D:=by
  rw[hX]
  calc _=2 ^ 52*(2 ^ F*D)*B:=by ac_rfl
   _<=_:=Nat.mul_le_mul_right _ h2.bl
 have b4:A*u*D<2 ^ 53*(2 ^ F*(B*D)):=by
  rw[hX]
  calc _<2 ^ 53*(2 ^ F*D)*B:=Nat.mul_lt_mul_of_pos_right h2.bh hB
   _=_:=by ac_rfl
 have hlt:∀ {E F:Nat},2 ^ 52*(2 ^ F*(B*D))<=A*u*D->A*u*D<2 ^ 53*(2 ^ E*(B*D))->¬E<F:=by
  intro E F c1 c2 hEF;have c3:2 ^ (E+1)<=2 ^ F:=Nat.pow_le_pow_right (by decide) hEF;have c4:2 ^ (E+1)*(B*D)<=2 ^ F*(B*D):=Nat.mul_le_mul_right _ c3;have c5:2 ^ (E+1)*(B*D)=2*(2 ^ E*(B*D)):=by rw[Nat.pow_succ];ac_rfl
  rw[c5]at c4;generalize 2 ^ E*(B*D)=x at *;generalize 2 ^ F*(B*D)=y at *;omega
 have hEF:E=F:=Nat.le_antisymm (Nat.not_lt.1 (hlt (E:=F) (F:=E) b1 b4)) (Nat.not_lt.1 (hlt (E:=E) (F:=F) b3 b2));subst hEF
 have u1:2*k*(2 ^ E*(B*D))<=2*(A*u*D)+2 ^ E*(B*D):=by
  calc _=2*k*(2 ^ E*B)*D:=by ac_rfl
   _<=(2*(A*u)+2 ^ E*B)*D:=Nat.mul_le_mul_right _ h1.up
   _=_:=by rw[Nat.add_mul];congr 1 <;> ac_rfl
 have u2:2*(A*u*D)<=2*k*(2 ^ E*(B*D))+2 ^ E*(B*D):=by
  calc _=2*(A*u)*D:=by ac_rfl
   _<=(2*k*(2 ^ E*B)+2 ^ E*B)*D:=Nat.mul_le_mul_right _ h1.dn
   _=_:=by rw[Nat.add_mul];congr 1 <;> ac_rfl
 have u3:2*l*(2 ^ E*(B*D))<=2*(A*u*D)+2 ^ E*(B*D):=by
  rw[hX]
  calc _=2*l*(2 ^ E*D)*B:=by ac_rfl
   _<=(2*(C*u)+2 ^ E*D)*B:=Nat.mul_le_mul_right _ h2.up
   _=_:=by rw[Nat.add_mul];congr 1 <;> ac_rfl
 have u4:2*(A*u*D)<=2*l*(2 ^ E*(B*D))+2 ^ E*(B*D):=by
  rw[hX]
  calc _=2*(C*u)*B:=by ac_rfl
   _<=(2*l*(2 ^ E*D)+2 ^ E*D)*B:=Nat.mul_le_mul_right _ h2.dn
   _=_:=by rw[Nat.add_mul];congr 1 <;> ac_rfl
 have hP:0<2 ^ E*(B*D):=Nat.mul_pos (Nat.two_pow_pos _) (Nat.mul_pos hB hD)
 have t1:(2*(A*u*D)=2*k*(2 ^ E*(B*D))+2 ^ E*(B*D)∨2*(A*u*D)+2 ^ E*(B*D)=2*k*(2 ^ E*(B*D)))->k % 2=0:=by
  rintro(h|h)
  ·refine h1.tie (.inl (Nat.eq_of_mul_eq_mul_right hD ?_))
   calc 2*(A*u)*D=2*(A*u*D):=by ac_rfl
    _=_:=h
    _=_:=by rw[Nat.add_mul];congr 1 <;> ac_rfl
  ·refine h1.tie (.inr (Nat.eq_of_mul_eq_mul_right hD ?_))
   calc (2*(A*u)+2 ^ E*B)*D=2*(A*u*D)+2 ^ E*(B*D):=by rw[Nat.add_mul];congr 1 <;> ac_rfl
    _=_:=h
    _=_:=by ac_rfl
 have t2:(2*(A*u*D)=2*l*(2 ^ E*(B*D))+2 ^ E*(B*D)∨2*(A*u*D)+2 ^ E*(B*D)=2*l*(2 ^ E*(B*D)))->l % 2=0:=by
  rw[hX];rintro(h|h)
  ·refine h2.tie (.inl (Nat.eq_of_mul_eq_mul_right hB ?_))
   calc 2*(C*u)*B=2*(C*u*B):=by ac_rfl
    _=_:=h
    _=_:=by rw[Nat.add_mul];congr 1 <;> ac_rfl
  ·refine h2.tie (.inr (Nat.eq_of_mul_eq_mul_right hB ?_))
   calc (2*(C*u)+2 ^ E*D)*B=2*(C*u*B)+2 ^ E*(B*D):=by rw[Nat.add_mul];congr 1 <;> ac_rfl
    _=_:=h
    _=_:=by ac_rfl
 clear b1 b2 b3 b4 hlt hX h1 h2;generalize 2 ^ E*(B*D)=p at *;generalize A*u*D=X at *;congr 1
 have step:∀ k l:Nat,2*k*p<=2*X+p->2*X<=2*k*p+p->2*l*p<=2*X+p->((2*X=2*k*p+p∨2*X+p=2*k*p)->k % 2=0)->((2*X=2*l*p+p∨2*X+p=2*l*p)->l % 2=0)->¬k<l:=by
  intro k l v1 v2 v3 w1 w2 hkl;obtain⟨d,rfl⟩:∃ d,l=k+1+d:=⟨l-(k+1),by omega⟩;have x1:2*(k+1+d)*p=2*k*p+2*p+2*(d*p):=by rw[Nat.mul_add,Nat.mul_add,Nat.add_mul,Nat.add_mul,Nat.mul_assoc 2 d p]
  rw[x1]at v3 w2;have hd:d*p=0:=by omega
  have hd0:d=0:=by
   rcases Nat.mul_eq_zero.1 hd with h|h
   ·exact h
   ·omega
  subst hd0;have y1:=w1 (by left;omega);have y2:=w2 (by right;omega);omega
 exact Nat.le_antisymm (Nat.not_lt.1 (step l k u3 u4 u1 t2 t1)) (Nat.not_lt.1 (step k l u1 u2 u3 t1 t2))
end
def QV(v:Int)(a b:Int):Prop :=
 (a=0/\v=0)∨(a≠0/\∃ k E,P9 k E a.natAbs b.natAbs (2 ^ U1)/\v=if (decide (a<0) ^^ decide (b<0))then -((k*2 ^ E:Nat):Int)else((k*2 ^ E:Nat):Int))
theorem c5b{x y:Nat}{a b:Int}(hx:FI x a)(hy:FI y b)(hb:b≠0)(hb2:b.natAbs<2 ^ 53)(ha2:a.natAbs<2 ^ 53):∃ r,double.div x y=some r/\Fin r/\QV (V r) a b:=by
 by_cases ha:a=0
 ·subst ha;obtain⟨s,m,i,h1,h2,h3,_⟩:=y5 hx.1;obtain⟨t,n,j,h4,h5,h6,_⟩:=y5 hy.1;rw[hx.2,Int.zero_mul]at h3;rw[hy.2]at h6
  have hm0:m=0:=by
   have:=congrArg Int.natAbs h3;rw[A5]at this;rcases Nat.mul_eq_zero.1 this with h|h
   ·exact h
   ·exact absurd h (Nat.ne_of_gt (Nat.two_pow_pos _))
  have hn0:n≠0:=λe=>by
   have:=congrArg Int.natAbs h6;rw[A5,e,Nat.zero_mul,Int.natAbs_mul,A0]at this;rcases Nat.mul_eq_zero.1 this.symm with h|h
   ·omega
   ·exact absurd h (Nat.ne_of_gt (Nat.two_pow_pos _))
  subst hm0;refine⟨double.word (s ^^ t) 0,?_,(J5 _).1, .inl ⟨rfl,?_⟩⟩
  ·unfold Format.div;rw[h1,h4];simp only[Datum.quotient,hn0,if_false,Option.map_some,Format.write,Nat.zero_shiftLeft,Nat.zero_div,Nat.zero_mod,bne_self_eq_false,Bool.toNat_false,Nat.mul_zero,Nat.add_zero];unfold Format.nearest;simp
  ·rw[(J5 _).2,Int.zero_mul]
 ·obtain⟨r,h1,h2,k,E,h3,h4⟩:=b8J hx hy ha hb hb2 ha2;exact⟨r,h1,h2, .inr ⟨ha,k,E,h3,h4⟩⟩
theorem U3(a b:Int):a*b=if (decide (a<0) ^^ decide (b<0))then -((a.natAbs*b.natAbs:Nat):Int)else((a.natAbs*b.natAbs:Nat):Int):=by
 rw[Int.natCast_mul];by_cases hA:a<0 <;> by_cases hB:b<0
 ·have e1:(a.natAbs:Int) = -a:=by omega
  have e2:(b.natAbs:Int) = -b:=by omega
  simp only[hA,hB,decide_true,Bool.xor_self,Bool.false_eq_true,if_false,e1,e2,Int.neg_mul_neg]
 ·have e1:(a.natAbs:Int) = -a:=by omega
  have e2:(b.natAbs:Int)=b:=by omega
  simp only[hA,hB,decide_true,decide_false,Bool.xor_false,if_true,e1,e2,Int.neg_mul,Int.neg_neg]
 ·have e1:(a.natAbs:Int)=a:=by omega
  have e2:(b.natAbs:Int) = -b:=by omega
  simp only[hA,hB,decide_true,decide_false,Bool.false_xor,if_true,e1,e2,Int.mul_neg,Int.neg_neg]
 ·have e1:(a.natAbs:Int)=a:=by omega
  have e2:(b.natAbs:Int)=b:=by omega
  simp only[hA,hB,decide_false,Bool.xor_self,Bool.false_eq_true,if_false,e1,e2]
theorem b3p{v w a b c d:Int}(h1:QV v a b)(h2:QV w c d)(hb:b≠0)(hd:d≠0)(hs1:a.natAbs*d.natAbs<=2 ^ 50)(hs2:c.natAbs*b.natAbs<=2 ^ 50)(h:a*b*(d*d)<c*d*(b*b)):v<w:=by
 have hu:0<2 ^ U1:=Nat.two_pow_pos _;have hB:0<b.natAbs:=by omega
 have hD:0<d.natAbs:=by omega
 have sq:∀ x:Int,x*x=((x.natAbs*x.natAbs:Nat):Int):=λx=>by rw[U3 x x];simp
 rw[sq b,sq d,U3 a b,U3 c d]at h
 have key:∀ A B C D:Nat,A*B*(D*D)<C*D*(B*B)->A*D<C*B:=by
  intro A B C D hh
  have:A*D*(B*D)<C*B*(B*D):=by
   calc A*D*(B*D)=A*B*(D*D):=by ac_rfl
    _<_:=hh
    _=_:=by ac_rfl
  exact Nat.lt_of_mul_lt_mul_right this
 rcases h1 with⟨rfl,rfl⟩|⟨ha,k,E,hk,hv⟩ <;> rcases h2 with⟨rfl,rfl⟩|⟨hc,l,F,hl,hw⟩
 ·simp at h
 ·rw[hw];have hp:0<l*2 ^ F:=Nat.mul_pos hl.pos (Nat.two_pow_pos _);split
  ·rename_i hs;exfalso;simp only[hs,if_true,Int.natAbs_zero,Nat.zero_mul]at h;generalize c.natAbs*d.natAbs=x at h;generalize b.natAbs*b.natAbs=y at h;have:(0:Int)<=(x:Int)*(y:Int):=Int.mul_nonneg (Int.natCast_nonneg _) (Int.natCast_nonneg _);simp[Int.neg_mul]at h;omega
  ·omega
 ·rw[hv];have hp:0<k*2 ^ E:=Nat.mul_pos hk.pos (Nat.two_pow_pos _);split
  ·omega
  ·rename_i hs;exfalso;simp only[hs,Bool.false_eq_true,if_false,Int.natAbs_zero,Nat.zero_mul]at h;generalize a.natAbs*b.natAbs=x at h;generalize d.natAbs*d.natAbs=y at h;have:(0:Int)<=(x:Int)*(y:Int):=Int.mul_nonneg (Int.natCast_nonneg _) (Int.natCast_nonneg _);simp at h;omega
 ·rw[hv,hw];have hp1:0<k*2 ^ E:=Nat.mul_pos hk.pos (Nat.two_pow_pos _);have hp2:0<l*2 ^ F:=Nat.mul_pos hl.pos (Nat.two_pow_pos _);by_cases s1:(decide (a<0) ^^ decide (b<0))=true <;> by_cases s2:(decide (c<0) ^^ decide (d<0))=true
  ·simp only[s1,s2,if_true]at h ⊢
   have h':c.natAbs*d.natAbs*(b.natAbs*b.natAbs)<a.natAbs*b.natAbs*(d.natAbs*d.natAbs):=by
    rw[Int.neg_mul,Int.neg_mul,<-Int.natCast_mul,<-Int.natCast_mul]at h;omega
   have:=b4x hl hk hD hB hu (key _ _ _ _ h') hs2;omega
  ·simp only[s1,s2,if_true,Bool.false_eq_true,if_false];omega
  ·exfalso;simp only[s1,s2,if_true,Bool.false_eq_true,if_false]at h;rw[Int.neg_mul,<-Int.natCast_mul,<-Int.natCast_mul]at h;omega
  ·simp only[s1,s2,Bool.false_eq_true,if_false]at h ⊢
   have h':a.natAbs*b.natAbs*(d.natAbs*d.natAbs)<c.natAbs*d.natAbs*(b.natAbs*b.natAbs):=by
    rw[<-Int.natCast_mul,<-Int.natCast_mul]at h;omega
   have:=b4x hk hl hB hD hu (key _ _ _ _ h') hs1;omega
theorem c2R{v w a b c d:Int}(h1:QV v a b)(h2:QV w c d)(hb:b≠0)(hd:d≠0)(h:a*d=c*b):v=w:=by
 have hB:0<b.natAbs:=by omega
 have hD:0<d.natAbs:=by omega
 have hA:a.natAbs*d.natAbs=c.natAbs*b.natAbs:=by rw[<-Int.natAbs_mul,<-Int.natAbs_mul,h]
 rcases h1 with⟨rfl,rfl⟩|⟨ha,k,E,hk,hv⟩ <;> rcases h2 with⟨rfl,rfl⟩|⟨hc,l,F,hl,hw⟩
 ·rfl
 ·rw[Int.zero_mul]at h;rcases Int.mul_eq_zero.1 h.symm with e|e
  ·exact absurd e hc
  ·exact absurd e hb
 ·rw[Int.zero_mul]at h;rcases Int.mul_eq_zero.1 h with e|e
  ·exact absurd e ha
  ·exact absurd e hd
 ·rw[hv,hw,c0p hk hl hB hD hA]
  have hs:(decide (a<0) ^^ decide (b<0))=(decide (c<0) ^^ decide (d<0)):=by
   have e1:=U3 a d;have e2:=U3 c b;have p1:0<a.natAbs*d.natAbs:=Nat.mul_pos (by omega) hD;have p2:0<c.natAbs*b.natAbs:=Nat.mul_pos (by omega) hB;rw[h,e2]at e1
   have hx:(decide (a<0) ^^ decide (d<0))=(decide (c<0) ^^ decide (b<0)):=by
    cases x1:(decide (a<0) ^^ decide (d<0)) <;> cases x2:(decide (c<0) ^^ decide (b<0))
    ·rfl
    ·simp only[x1,x2,if_true,Bool.false_eq_true,if_false]at e1;omega
    ·simp only[x1,x2,if_true,Bool.false_eq_true,if_false]at e1;omega
    ·rfl
   generalize decide (a<0)=p at *;generalize decide (b<0)=q at *;generalize decide (c<0)=r at *;generalize decide (d<0)=t at *;cases p <;> cases q <;> cases r <;> cases t <;> simp_all
  rw[hs]
end Go.Fl

namespace Go.Fl
open Go.Sx Ieee
def Y6:Nat:=9218868437227405312
theorem S3{x y:Nat}(hx:Fin x)(hy:Fin y):FloatKind.f64.format.order x y=some (compare (V x) (V y)):=a8j hx hy
theorem a3n:Fin 0:=⟨by decide,by decide⟩
theorem a6J:V 0=0:=by decide
theorem a9Y:Ieee.Format.read Ieee.double Y6=.infinity false:=by decide
theorem a7w{x:Nat}(hx:Fin x):FloatKind.f64.format.order x Y6=some .lt:=by
 obtain⟨s,m,i,h1,_⟩:=y5 hx;show (Ieee.Format.read Ieee.double x).order (Ieee.Format.read Ieee.double Y6)=_;rw[h1,a9Y];rfl
theorem b6a{x:Nat}(hx:Fin x):FloatKind.f64.format.order Y6 x=some .gt:=by
 obtain⟨s,m,i,h1,_⟩:=y5 hx;show (Ieee.Format.read Ieee.double Y6).order (Ieee.Format.read Ieee.double x)=_;rw[h1,a9Y];rfl
theorem b6T{x:Nat}(hx:Fin x):fNe .f64 x x=false:=by
 unfold fNe;rw[S3 hx hx,I9];simp
theorem b9X{x:Nat}(hx:Fin x):fEq .f64 x Y6=false:=by
 unfold fEq;rw[a7w hx];rfl
theorem c1r{x:Nat}(hx:Fin x):fGt .f64 Y6 x=true:=by
 unfold fGt;rw[b6a hx];rfl
theorem b8o{x y:Nat}(hx:Fin x)(hy:Fin y):fEq .f64 x y=decide (V x=V y):=by
 unfold fEq;rw[S3 hx hy,I9];split
 ·rename_i h;rw[decide_eq_false (by omega)];rfl
 ·split
  ·rename_i h;rw[decide_eq_true h];rfl
  ·rename_i h;rw[decide_eq_false h];rfl
theorem b1k{x y:Nat}(hx:Fin x)(hy:Fin y):fLt .f64 x y=decide (V x<V y):=by
 unfold fLt;rw[S3 hx hy,I9];split
 ·rename_i h;rw[decide_eq_true h];rfl
 ·rename_i h;rw[decide_eq_false h];split <;> rfl
theorem c8o{x y:Nat}(hx:Fin x)(hy:Fin y):fLe .f64 x y=decide (V x<=V y):=by
 unfold fLe;rw[S3 hx hy,I9];split
 ·rename_i h;rw[decide_eq_true (by omega)];rfl
 ·split
  ·rename_i h;rw[decide_eq_true (by omega)];rfl
  ·rename_i h;rw[decide_eq_false (by omega)];rfl
theorem c2Z{x y:Nat}(hx:Fin x)(hy:Fin y):fGt .f64 x y=decide (V y<V x):=by
 unfold fGt;rw[S3 hx hy,I9];split
 ·rename_i h;rw[decide_eq_false (by omega)];rfl
 ·split
  ·rename_i h;rw[decide_eq_false (by omega)];rfl
  ·rename_i h;rw[decide_eq_true (by omega)];rfl
theorem b6z{x y:Nat}(hx:Fin x)(hy:Fin y):fGe .f64 x y=decide (V y<=V x):=by
 unfold fGe;rw[S3 hx hy,I9];split
 ·rename_i h;rw[decide_eq_false (by omega)];rfl
 ·split
  ·rename_i h;rw[decide_eq_true (by omega)];rfl
  ·rename_i h;rw[decide_eq_true (by omega)];rfl
theorem b8i{x:Nat}(hx:Fin x):fEq .f64 x 0=decide (V x=0):=by rw[b8o hx a3n,a6J]
theorem b9r{x:Nat}(hx:Fin x):fGt .f64 x 0=decide (0<V x):=by rw[c2Z hx a3n,a6J]
theorem b0Z{x y:Nat}{a b:Int}(hx:FI x a)(hy:FI y b):FloatKind.f64.format.order x y=some (compare a b):=hx.order hy
theorem G3{x y:Nat}{a b:Int}(hx:FI x a)(hy:FI y b):fLt .f64 x y=decide (a<b):=by
 unfold fLt;rw[b0Z hx hy,I9];split
 ·rename_i h;rw[decide_eq_true h];rfl
 ·rename_i h;rw[decide_eq_false h];split <;> rfl
theorem E6{x y:Nat}{a b:Int}(hx:FI x a)(hy:FI y b):fGt .f64 x y=decide (b<a):=by
 unfold fGt;rw[b0Z hx hy,I9];split
 ·rename_i h;rw[decide_eq_false (by omega)];rfl
 ·split
  ·rename_i h;rw[decide_eq_false (by omega)];rfl
  ·rename_i h;rw[decide_eq_true (by omega)];rfl
theorem E5{x y:Nat}{a b:Int}(hx:FI x a)(hy:FI y b):fEq .f64 x y=decide (a=b):=by
 unfold fEq;rw[b0Z hx hy,I9];split
 ·rename_i h;rw[decide_eq_false (by omega)];rfl
 ·split
  ·rename_i h;rw[decide_eq_true h];rfl
  ·rename_i h;rw[decide_eq_false h];rfl
theorem a3s{x y:Nat}{a b:Int}(hx:FI x a)(hy:FI y b):fLe .f64 x y=decide (a<=b):=by
 unfold fLe;rw[b0Z hx hy,I9];split
 ·rename_i h;rw[decide_eq_true (by omega)];rfl
 ·split
  ·rename_i h;rw[decide_eq_true (by omega)];rfl
  ·rename_i h;rw[decide_eq_false (by omega)];rfl
theorem a4o{x y:Nat}{a b:Int}(hx:FI x a)(hy:FI y b):fGe .f64 x y=decide (b<=a):=by
 unfold fGe;rw[b0Z hx hy,I9];split
 ·rename_i h;rw[decide_eq_false (by omega)];rfl
 ·split
  ·rename_i h;rw[decide_eq_true (by omega)];rfl
  ·rename_i h;rw[decide_eq_true (by omega)];rfl
end Go.Fl

namespace Go.Fl
open Ieee
theorem a3S(r:Nat):Y1 (r+1)=Y1 r+2 ^ (r / 2 ^ 52-1):=by
 by_cases h:r<2 ^ 52
 ·have h0:r / 2 ^ 52=0:=Nat.div_eq_of_lt h;rw[h0,a2x h];by_cases h1:r+1<2 ^ 52
  ·rw[a2x h1]
  ·have:r+1=(0+1)*2 ^ 52+0:=by omega
   rw[this,a0s 0 0 (by decide)]
 ·obtain⟨E,f,hf,he⟩:∃ E f,f<2 ^ 52/\r=(E+1)*2 ^ 52+f:=⟨r / 2 ^ 52-1,r % 2 ^ 52,Nat.mod_lt _ (by decide),by omega⟩;have hd:r / 2 ^ 52-1=E:=by omega
  rw[hd,he,a0s E f hf];by_cases h1:f+1<2 ^ 52
  ·rw[show (E+1)*2 ^ 52+f+1=(E+1)*2 ^ 52+(f+1) by omega,a0s E (f+1) h1,<-Nat.add_assoc,Nat.add_mul,Nat.one_mul]
  ·have h2:f=2 ^ 52-1:=by omega
   rw[show (E+1)*2 ^ 52+f+1=(E+1+1)*2 ^ 52+0 by omega,a0s (E+1) 0 (by decide),h2];rw[Nat.pow_succ];omega
theorem b4P(r:Nat):2 ^ 52*2 ^ (r / 2 ^ 52-1)<=Y1 r+2 ^ 52:=by
 by_cases h:r<2 ^ 52
 ·have h0:r / 2 ^ 52=0:=Nat.div_eq_of_lt h;rw[h0];omega
 ·obtain⟨E,f,hf,he⟩:∃ E f,f<2 ^ 52/\r=(E+1)*2 ^ 52+f:=⟨r / 2 ^ 52-1,r % 2 ^ 52,Nat.mod_lt _ (by decide),by omega⟩;have hd:r / 2 ^ 52-1=E:=by omega
  rw[hd,he,a0s E f hf,Nat.add_mul];omega
theorem c2o{x:Nat}(h:x<2 ^ 63):V x=Y1 x:=by
 unfold V;rw[if_neg (by omega),Nat.mod_eq_of_lt h]
theorem c3C{r:Nat}(h:r<2 ^ 63):V (2 ^ 63+r) = -(Y1 r:Int):=by
 unfold V;rw[if_pos (by omega),show (2 ^ 63+r) % 2 ^ 63=r by omega]
theorem a5y{r:Nat}{b:Nat}(hr:Y1 r<=2 ^ (52+b)):r / 2 ^ 52-1<=b+1:=by
 have h1:=b4P r;rcases Nat.lt_or_ge (b+1) (r / 2 ^ 52-1)with h|h
 ·exfalso;have h2:2 ^ (b+2)<=2 ^ (r / 2 ^ 52-1):=Nat.pow_le_pow_right (by decide) h;have h3:2 ^ 52*2 ^ (b+2)<=Y1 r+2 ^ 52:=Nat.le_trans (Nat.mul_le_mul_left _ h2) h1;have h4:2 ^ (52+b)=2 ^ 52*2 ^ b:=Nat.pow_add 2 52 b;have h5:2 ^ 52*2 ^ (b+2)=4*(2 ^ 52*2 ^ b):=by rw[Nat.pow_add 2 b 2];omega
  have h6:2 ^ 52<=2 ^ 52*2 ^ b:=Nat.le_mul_of_pos_right _ (Nat.two_pow_pos _);omega
 ·exact h
def nxt(x:Nat):Nat:=if V x=0 then 1 else if 0<V x then x+1 else x-1
theorem a5C{x:Nat}{n:Int}(h:FI x n)(hn:n.natAbs<=2 ^ 22):x+1<18446744073709551616/\Fin (nxt x)/\∃ k,k<=1045/\V (nxt x)=n*2 ^ U1+((2 ^ k:Nat):Int):=by
 obtain⟨⟨h64,hrung⟩,hv⟩:=h;have hU:U1=1074:=rfl;obtain⟨b,hb⟩:∃ b:Nat,b=1044:=⟨_,rfl⟩;have hbU:22+U1=52+b:=by omega
 have hmag:n.natAbs*2 ^ U1<=2 ^ (52+b):=by
  rw[<-hbU,Nat.pow_add];exact Nat.mul_le_mul_right _ hn
 have hpow:(2:Int) ^ U1=((2 ^ U1:Nat):Int):=by simp
 have habs:(V x).natAbs=n.natAbs*2 ^ U1:=by rw[hv,Int.natAbs_mul,A0]
 rw[<-habs]at hmag;refine⟨by omega,?_⟩;unfold nxt;by_cases h0:V x=0
 ·rw[if_pos h0];have h1:V 1=1:=by decide
  refine⟨⟨by decide,by decide⟩,0,by omega,?_⟩;rw[h1,<-hv,h0];rfl
 ·rw[if_neg h0];rcases Nat.lt_or_ge x (2 ^ 63)with hlo|hhi
  ·have hVx:=c2o hlo;have hpos:0<V x:=by rw[hVx]at h0 ⊢;omega
   rw[if_pos hpos];rw[Nat.mod_eq_of_lt hlo]at hrung;rw[hVx,Int.natAbs_natCast]at hmag;have hs:=a5y hmag;have hx1:x+1<2 ^ 63:=by omega
   refine⟨⟨by omega,by rw[Nat.mod_eq_of_lt hx1];omega⟩,x / 2 ^ 52-1,by omega,?_⟩;rw[c2o hx1,a3S,<-hv,hVx];exact Int.natCast_add _ _
  ·obtain⟨r,rfl⟩:∃ r,x=2 ^ 63+r:=⟨x-2 ^ 63,by omega⟩;have hr63:r<2 ^ 63:=by omega
   have hVx:=c3C hr63;have hneg:¬0<V (2 ^ 63+r):=by rw[hVx];omega
   rw[if_neg hneg];have hr0:r≠0:=λe=>by subst e;exact h0 (by decide)
   obtain⟨s,rfl⟩:∃ s,r=s+1:=⟨r-1,by omega⟩;have hm:(2 ^ 63+(s+1)) % 2 ^ 63=s+1:=by omega
   rw[hm]at hrung;rw[hVx,Int.natAbs_neg,Int.natAbs_natCast]at hmag;have hms:Y1 s<=2 ^ (52+b):=by rw[a3S]at hmag;exact Nat.le_trans (Nat.le_add_right _ _) hmag
   have hs:=a5y hms;have e:2 ^ 63+(s+1)-1=2 ^ 63+s:=by omega
   rw[e];refine⟨⟨by omega,by omega⟩,s / 2 ^ 52-1,by omega,?_⟩;rw[c3C (by omega),<-hv,hVx,a3S,Int.natCast_add];omega
theorem a4l(neg:Bool){mag:Nat}(hm:mag≠0){place:Int}(hp : -1074<=place) :
  0<A9 neg mag place*2 ^ (y4 mag place+1074).toNat/\A9 neg mag place*2 ^ (y4 mag place+1074).toNat<=2*(mag*2 ^ (place+1074).toNat):=by
 obtain⟨hk1,hk2⟩:=V7 neg hm place;obtain⟨e1,e2⟩:=a1M neg (mag <<< (place-y4 mag place).toNat) (y4 mag place-place).toNat;have hl0 : -1074<=y4 mag place:=by unfold y4;omega
 have hkd:A9 neg mag place=Toward.even.cut neg (mag <<< (place-y4 mag place).toNat) (y4 mag place-place).toNat:=rfl;rw[<-hkd]at e1 e2;rw[Nat.shiftLeft_eq]at e1 e2;generalize A9 neg mag place=k at *;generalize y4 mag place=l at *;by_cases hs:l<=place
 ·have h0:(l-place).toNat=0:=by omega
  rw[h0]at e1 e2;simp only[Nat.pow_zero,Nat.mul_one]at e1 e2;have hk:k=mag*2 ^ (place-l).toNat:=by omega
  have e3:k*2 ^ (l+1074).toNat=mag*2 ^ (place+1074).toNat:=by
   rw[hk,Nat.mul_assoc,<-Nat.pow_add];congr 2;omega
  rw[e3];have:0<mag*2 ^ (place+1074).toNat:=Nat.mul_pos (by omega) (Nat.two_pow_pos _);omega
 ·have h0:(place-l).toNat=0:=by omega
  rw[h0]at e1 e2;simp only[Nat.pow_zero,Nat.mul_one]at e1 e2;have hk:2 ^ 52<=k:=by rcases hk2 with h|h <;> omega
  refine⟨Nat.mul_pos (by omega) (Nat.two_pow_pos _),?_⟩;have e3:(l+1074).toNat=(l-place).toNat+(place+1074).toNat:=by omega
  rw[e3,Nat.pow_add,<-Nat.mul_assoc,<-Nat.mul_assoc];refine Nat.mul_le_mul_right _ ?_;generalize 2 ^ (l-place).toNat=g at *;have hg:g<=k*g:=Nat.le_mul_of_pos_left _ (by omega);omega
theorem b8n{p y:Nat}{n:Int}{k:Nat}(hp:Fin p)(hv:V p=n*2 ^ U1+((2 ^ k:Nat):Int))(hk:k<=1045)(hy:FI y n) :
  ∃ r,double.sub p y=some r/\Fin r/\0<V r/\V r<=((2 ^ (k+1):Nat):Int):=by
 obtain⟨s,m,i,h1,h2,h3,_⟩:=y5 hp;obtain⟨t,l,j,h4,h5,h6,_⟩:=y5 hy.1;rw[hy.2]at h6;refine⟨double.write ((Datum.number (if signed s m (i-min i j).toNat+signed (!t) l (j-min i j).toNat=0 then s && !t else decide (signed s m (i-min i j).toNat+signed (!t) l (j-min i j).toNat<0)) (signed s m (i-min i j).toNat+signed (!t) l (j-min i j).toNat).natAbs (min i j))),?_,?_⟩
 ·unfold Format.sub;rw[h1,h4];rfl
 ·generalize htot:signed s m (i-min i j).toNat+signed (!t) l (j-min i j).toNat=tot;have e1:(i+1074).toNat=(i-min i j).toNat+(min i j+1074).toNat:=by omega
  have e2:(j+1074).toNat=(j-min i j).toNat+(min i j+1074).toNat:=by omega
  have h7:signed (!t) l (j+1074).toNat = -(n*2 ^ U1):=by rw[a5O,h6]
  have hkey:tot*2 ^ (min i j+1074).toNat=((2 ^ k:Nat):Int):=by
   have:signed s m (i+1074).toNat+signed (!t) l (j+1074).toNat=((2 ^ k:Nat):Int):=by rw[h3,h7,hv];omega
   rw[e1,e2,I5,I5,<-Int.add_mul,htot]at this;exact this
  have hpk:(0:Int)<((2 ^ k:Nat):Int):=Int.natCast_pos.2 (Nat.two_pow_pos k)
  have htpos:0<tot:=by
   rcases Int.lt_or_le 0 tot with h|h
   ·exact h
   ·have:=Int.mul_nonneg (show 0<=-tot by omega) (Int.le_of_lt (C6 (min i j+1074).toNat));rw[Int.neg_mul]at this;omega
  have hnat:tot.natAbs*2 ^ (min i j+1074).toNat=2 ^ k:=by
   have:=congrArg Int.natAbs hkey;rw[Int.natAbs_mul,A0,Int.natAbs_natCast]at this;exact this
  have hm0:tot.natAbs≠0:=by omega
  have hlog:(min i j)+tot.natAbs.log2<=1022:=by
   have h8:=Nat.log2_self_le hm0;have h9:2 ^ tot.natAbs.log2*2 ^ (min i j+1074).toNat<=2 ^ k:=by rw[<-hnat];exact Nat.mul_le_mul_right _ h8
   rw[<-Nat.pow_add]at h9;have h10:=(Nat.pow_le_pow_iff_right (by decide:1<2)).1 h9;omega
  rw[if_neg (by omega),decide_eq_false (by omega)];show Fin (double.nearest false tot.natAbs (min i j))/\0<V (double.nearest false tot.natAbs (min i j))/\V (double.nearest false tot.natAbs (min i j))<=_;obtain⟨h11,h12⟩:=Z8 false hm0 (place:=min i j) hlog;obtain⟨h13,h14⟩:=a4l false hm0 (place:=min i j) (by omega);refine⟨h11,?_,?_⟩
  ·rw[h12];simp only[Bool.false_eq_true,if_false];omega
  ·rw[h12];simp only[Bool.false_eq_true,if_false];rw[hnat]at h14;rw[Nat.pow_succ];omega
theorem b2c{x y:Nat}{d:Int}{k:Nat}(hx:Fin x)(h0:0<V x)(hk:V x<=((2 ^ k:Nat):Int))(hk2:k<=1047)(hy:FI y d)(hd:d≠0) :
  ∃ r,double.div x y=some r/\Fin r/\(0<d->0<=V r)/\(d<0->V r<=0)/\(V r).natAbs<=2 ^ (k+1):=by
 obtain⟨s,m,i,h1,h2,h3,hm⟩:=y5 hx;obtain⟨t,n,j,h4,h5,h6,hn⟩:=y5 hy.1;rw[hy.2]at h6;have hmv:m*2 ^ (i+1074).toNat=(V x).natAbs:=by rw[<-h3,A5]
 have hnb:n*2 ^ (j+1074).toNat=d.natAbs*2 ^ U1:=by
  have:=congrArg Int.natAbs h6;rw[A5,Int.natAbs_mul,A0]at this;exact this
 have hm0:m≠0:=λe=>by rw[e,Nat.zero_mul]at hmv;omega
 have hn0:n≠0:=λe=>by
  rw[e,Nat.zero_mul]at hnb;rcases Nat.mul_eq_zero.1 hnb.symm with h|h
  ·omega
  ·exact absurd h (Nat.ne_of_gt (Nat.two_pow_pos _))
 have hj:=a1x h5 hn (show d.natAbs≠0 by omega) hnb
 have hs:s=false:=by
  cases s
  ·rfl
  ·rw[F7]at h3;simp only[if_true]at h3;omega
 have ht:t=decide (d<0):=by
  have hp:=C6 U1;rw[F7]at h6;cases t
  ·simp only[Bool.false_eq_true,if_false]at h6;have h7:0<=d*2 ^ U1:=by rw[<-h6];exact Int.natCast_nonneg _
   have:¬d<0:=λhneg=>by have:=Int.mul_neg_of_neg_of_pos hneg hp;omega
   exact(decide_eq_false this).symm
  ·simp only[if_true]at h6;have h9:d*2 ^ U1<=0:=by rw[<-h6];exact Int.neg_nonpos_of_nonneg (Int.natCast_nonneg _)
   have:d<0:=by
    rcases Int.lt_or_le d 0 with h10|h10
    ·exact h10
    ·have:0<d:=by omega
     have:=Int.mul_pos this hp;omega
   exact(decide_eq_true this).symm
 have hU:U1=1074:=rfl;have hlm:m.log2<=52:=by have:=(Nat.log2_lt hm0).2 hm;omega
 have hln:n.log2<=52:=by have:=(Nat.log2_lt hn0).2 hn;omega
 have hmore:54+n.log2-m.log2+m.log2=54+n.log2:=by omega
 generalize hmo:54+n.log2-m.log2=y6 at *;refine⟨double.nearest (s ^^ t) (2*(m <<< y6 / n)+(m <<< y6 % n != 0).toNat) (i-j-y6-1),?_,?_⟩
 ·unfold Format.div;rw[h1,h4];show Option.map double.write (Datum.quotient (52+2) _ _)=_;unfold Datum.quotient;simp only[hn0,if_false];rw[show 52+2+n.log2-m.log2=y6 from hmo];rfl
 ·rw[Nat.shiftLeft_eq];generalize hdv:m*2 ^ y6=dv;have hm1:=Nat.log2_self_le hm0;have hm2:m<2 ^ (m.log2+1):=Nat.lt_log2_self;have hn1:=Nat.log2_self_le hn0;have hn2:n<2 ^ (n.log2+1):=Nat.lt_log2_self
  have hdv1:2 ^ (54+n.log2)<=dv:=by
   rw[<-hdv,<-hmore,Nat.add_comm y6,Nat.pow_add];exact Nat.mul_le_mul_right _ hm1
  have hdv2:dv<2 ^ (55+n.log2):=by
   rw[<-hdv,show 55+n.log2=(m.log2+1)+y6 by omega,Nat.pow_add];exact Nat.mul_lt_mul_of_pos_right hm2 (Nat.two_pow_pos _)
  have hq1:2 ^ 53<=dv / n:=by
   rw[Nat.le_div_iff_mul_le (by omega)];have h8:2 ^ 53*n<=2 ^ 53*2 ^ (n.log2+1):=Nat.mul_le_mul_left _ (by omega);rw[<-Nat.pow_add,show 53+(n.log2+1)=54+n.log2 by omega]at h8;omega
  have hq2:dv / n<2 ^ 55:=by
   rw[Nat.div_lt_iff_lt_mul (by omega)];have h8:2 ^ 55*2 ^ n.log2<=2 ^ 55*n:=Nat.mul_le_mul_left _ hn1;rw[<-Nat.pow_add]at h8;omega
  have hb1:(dv % n != 0).toNat<=1:=Bool.toNat_le _
  have hQn:(2*(dv / n)+(dv % n != 0).toNat)*n<=2*dv+n:=by
   have h8:dv / n*n<=dv:=Nat.div_mul_le_self _ _;have h9:(dv % n != 0).toNat*n<=1*n:=Nat.mul_le_mul_right _ hb1;rw[Nat.add_mul,Nat.mul_assoc];omega
  generalize hQ:2*(dv / n)+(dv % n != 0).toNat=Q at *;have hQ0:Q≠0:=by omega
  have hQ1:2 ^ 54<=Q:=by omega
  have hQ2:Q<2 ^ 57:=by omega
  have hQl:54<=Q.log2:=(Nat.le_log2 hQ0).2 hQ1;have hQl2:Q.log2<=56:=by have:=(Nat.log2_lt hQ0).2 hQ2;omega
  have hi:i+m.log2<=k-1074:=by
   have h8:2 ^ m.log2*2 ^ (i+1074).toNat<=2 ^ k:=by
    refine Nat.le_trans (Nat.mul_le_mul_right _ hm1) ?_;rw[hmv];omega
   rw[<-Nat.pow_add]at h8;have h10:=(Nat.pow_le_pow_iff_right (by decide:1<2)).1 h8;omega
  generalize hpl:i-j-(y6:Int)-1=pl at *;have hlog:pl+Q.log2<=1022:=by omega
  obtain⟨h11,h12⟩:=Z8 (s ^^ t) hQ0 (place:=pl) hlog;obtain⟨hk1,hk2'⟩:=V7 (s ^^ t) hQ0 pl;obtain⟨e1,e2⟩:=a1M (s ^^ t) (Q <<< (pl-y4 Q pl).toNat) (y4 Q pl-pl).toNat;have hkd:A9 (s ^^ t) Q pl=Toward.even.cut (s ^^ t) (Q <<< (pl-y4 Q pl).toNat) (y4 Q pl-pl).toNat:=rfl;rw[<-hkd,Nat.shiftLeft_eq]at e1;have hl1:pl+2<=y4 Q pl:=by unfold y4;omega
  have hl0 : -1074<=y4 Q pl:=by unfold y4;omega
  generalize A9 (s ^^ t) Q pl=kp at *;generalize y4 Q pl=l at *;have hz:(pl-l).toNat=0:=by omega
  rw[hz,Nat.pow_zero,Nat.mul_one]at e1
  have hmain:(kp-1)*(2 ^ (l-pl).toNat*n)<=2*dv:=by
   have hD:4<=2 ^ (l-pl).toNat:=by
    have:2 ^ 2<=2 ^ (l-pl).toNat:=Nat.pow_le_pow_right (by decide) (by omega);omega
   generalize 2 ^ (l-pl).toNat=g at *;have h8:2*(kp*g)*n<=(2*Q+g)*n:=Nat.mul_le_mul_right _ e1;rw[Nat.add_mul,Nat.mul_assoc 2 Q n]at h8;have h9:4*n<=g*n:=Nat.mul_le_mul_right _ hD;rcases Nat.eq_zero_or_pos kp with hkp|hkp
   ·subst hkp;simp
   ·obtain⟨c,rfl⟩:∃ c,kp=c+1:=⟨kp-1,by omega⟩;rw[Nat.add_sub_cancel]
    have h10:2*((c+1)*g)*n=2*(c*(g*n))+2*(g*n):=by
     rw[Nat.add_mul,Nat.one_mul,Nat.mul_add,Nat.add_mul,Nat.mul_assoc 2 (c*g) n,Nat.mul_assoc c g n,Nat.mul_assoc 2 g n]
    rw[h10]at h8;omega
  have hX:(kp-1)*2 ^ (l+1074).toNat*d.natAbs<=(V x).natAbs:=by
   have h8:(kp-1)*(2 ^ (l-pl).toNat*n)*2 ^ ((j+1074).toNat+y6+1+(l+1074).toNat)<=2*dv*2 ^ ((j+1074).toNat+y6+1+(l+1074).toNat):=Nat.mul_le_mul_right _ hmain;have e3:(l-pl).toNat+(i+1074).toNat=(l+1074).toNat+(j+1074).toNat+y6+1-1074+0∨True:=.inr trivial;have e4:(l-pl).toNat+(i+1074).toNat+U1=(j+1074).toNat+y6+1+(l+1074).toNat:=by rw[hU];omega
   have h9:(kp-1)*(2 ^ (l-pl).toNat*n)*2 ^ ((j+1074).toNat+y6+1+(l+1074).toNat)=((kp-1)*2 ^ (l+1074).toNat*d.natAbs)*(2 ^ U1*2 ^ ((l-pl).toNat+y6+1)):=by
    calc (kp-1)*(2 ^ (l-pl).toNat*n)*2 ^ ((j+1074).toNat+y6+1+(l+1074).toNat)
      = (kp-1)*(2 ^ (l-pl).toNat*n)*(2 ^ (j+1074).toNat*2 ^ (y6+1)*2 ^ (l+1074).toNat):=by rw[<-Nat.pow_add,<-Nat.pow_add];rfl
     _=(kp-1)*2 ^ (l+1074).toNat*(n*2 ^ (j+1074).toNat)*(2 ^ (l-pl).toNat*2 ^ (y6+1)):=by ac_rfl
     _=_:=by
      rw[hnb,<-Nat.pow_add,Nat.add_assoc];generalize 2 ^ U1=u;generalize 2 ^ ((l-pl).toNat+(y6+1))=u2
      ac_rfl
   have h10:2*dv*2 ^ ((j+1074).toNat+y6+1+(l+1074).toNat)=(V x).natAbs*(2 ^ U1*2 ^ ((l-pl).toNat+y6+1)):=by
    rw[<-hdv,<-hmv,<-e4];rw[Nat.pow_add _ _ U1,Nat.pow_add _ (l-pl).toNat,Nat.pow_add _ ((l-pl).toNat+y6) 1,Nat.pow_add _ (l-pl).toNat y6,Nat.pow_one];generalize 2 ^ U1=u;generalize (V x).natAbs=vx at *
    ac_rfl
   rw[h9,h10]at h8;exact Nat.le_of_mul_le_mul_right h8 (Nat.mul_pos (Nat.two_pow_pos _) (Nat.two_pow_pos _))
  have hb:kp*2 ^ (l+1074).toNat<=2 ^ (k+1):=by
   have h8:(kp-1)*2 ^ (l+1074).toNat<=(V x).natAbs:=Nat.le_trans (Nat.le_mul_of_pos_right _ (by omega)) hX;have h9:(V x).natAbs<=2 ^ k:=by omega
   have h10:0<(V x).natAbs:=by omega
   rcases hk2' with h|h
   ·have:(l+1074).toNat=0:=by omega
    rw[this,Nat.pow_zero,Nat.mul_one]at h8 ⊢;rw[Nat.pow_succ];omega
   ·generalize 2 ^ (l+1074).toNat=g at *;obtain⟨c,rfl⟩:∃ c,kp=c+1:=⟨kp-1,by omega⟩;rw[Nat.add_sub_cancel]at h8;have:g<=c*g:=Nat.le_mul_of_pos_left _ (by omega);rw[Nat.add_mul,Nat.one_mul,Nat.pow_succ];omega
  rw[hs]at h11 h12;rw[hs];refine⟨h11,λhd0=>?_,λhd0=>?_,?_⟩
  ·rw[h12,ht,decide_eq_false (by omega)];exact Int.natCast_nonneg _
  ·rw[h12,ht,decide_eq_true hd0];exact Int.neg_nonpos_of_nonneg (Int.natCast_nonneg _)
  ·rw[h12];split
   ·rw[Int.natAbs_neg,Int.natAbs_natCast];exact hb
   ·rw[Int.natAbs_natCast];exact hb
theorem b7b{v a b:Int}(h:QV v a b)(ha:a≠0)(hb:b.natAbs<=2 ^ 24):2 ^ (U1-25)<=v.natAbs/\(v<0↔(decide (a<0) ^^ decide (b<0))=true):=by
 rcases h with⟨h,_⟩|⟨_,k,E,hd,hv⟩
 ·exact absurd h ha
 ·have hpos:0<k*2 ^ E:=Nat.mul_pos (by have:=hd.lo;omega) (Nat.two_pow_pos _)
  have hlow:2 ^ (U1-25)<=k*2 ^ E:=by
   have h1:=hd.dn;have h2:=hd.lo;have hU:U1=(U1-25)+25:=by decide
   have h3:2*k*(2 ^ E*b.natAbs)+2 ^ E*b.natAbs<=4*(k*2 ^ E*b.natAbs):=by
    have h4:2*k*(2 ^ E*b.natAbs)=2*(k*2 ^ E*b.natAbs):=by ac_rfl
    have h5:2 ^ E*b.natAbs<=k*(2 ^ E*b.natAbs):=Nat.le_mul_of_pos_left _ (by omega);rw[<-Nat.mul_assoc]at h5;omega
   have h7:k*2 ^ E*b.natAbs<=k*2 ^ E*2 ^ 24:=Nat.mul_le_mul_left _ hb;have h8:2 ^ U1<=a.natAbs*2 ^ U1:=Nat.le_mul_of_pos_left _ (by omega);rw[hU,Nat.pow_add]at h8;rw[hU]at h1;rw[Nat.pow_add]at h1;generalize 2 ^ (U1-25)=u at *;omega
  refine⟨?_,?_⟩
  ·rw[hv];split
   ·rw[Int.natAbs_neg,Int.natAbs_natCast];exact hlow
   ·rw[Int.natAbs_natCast];exact hlow
  ·rw[hv];split
   ·rename_i h;simp only[h,iff_true];omega
   ·rename_i h;simp only[h];constructor
    ·intro h';omega
    ·intro h';cases h'
end Go.Fl

namespace Go.Proofs.Tryz.Sx
open Go Go.Sx Go.Proofs Go.Fl
set_option maxRecDepth 100000
def a1S:PF:=fun
 | [.int .u64 n]=>some (.flt .f64 n.toNat,none)
 | _=>none
theorem b1b:y7 Tryz.prog 109 a1S:=by
 refine a1h Tryz.func109 (by kernel_rfl) (by kernel_rfl) (by kernel_rfl) (e:=Extern.MathFloatBits.float64frombits) (by kernel_rfl) ?_;intro args v p h hp;unfold a1S at h;split at h
 ·injection h with h;injection h with h1 h2;subst h1;subst h2
  exact⟨rfl,λρ w=>rfl⟩
 ·cases h
def b0R:PF:=fun
 | [.flt .f64 n]=>some (.int .u64 n,none)
 | _=>none
theorem bits:y7 Tryz.prog 110 b0R:=by
 refine a1h Tryz.func110 (by kernel_rfl) (by kernel_rfl) (by kernel_rfl) (e:=Extern.MathFloatBits.float64bits) (by kernel_rfl) ?_;intro args v p h hp;unfold b0R at h;split at h
 ·injection h with h;injection h with h1 h2;subst h1;subst h2
  exact⟨rfl,λρ w=>rfl⟩
 ·cases h
def GM:Ctx:=⟨⟨tys,[]⟩,[(109,l8 a1S),(110,l8 b0R)]⟩
theorem gM:v8 Tryz.prog GM:=⟨⟨z6,FlatsOk.nil⟩,g8.cons (.pure b1b) (g8.cons (.pure bits) g8.nil),by kernel_rfl⟩
def b2I:PF:=fun
 | [.flt .f64 x]=>some (.bool (fNe .f64 x x),none)
 | _=>none
theorem isNaN:y7 Tryz.prog 106 b2I:=by
 refine F0 gM Tryz.func106 rfl (by kernel_rfl) ?_;intro args v p h hp;unfold b2I at h;split at h
 ·injection h with h;injection h with h1 h2;subst h1;subst h2
  exact⟨rfl,rfl,rfl,rfl⟩
 ·cases h
def c4k:PF:=fun
 | [.int .i64 s]=>some (.flt .f64 Y6,some (s=1))
 | _=>none
theorem inf:y7 Tryz.prog 100 c4k:=by
 refine F0 gM Tryz.func100 rfl (by kernel_rfl) ?_;intro args v p h hp;unfold c4k at h;split at h
 ·injection h with h;injection h with h1 h2;subst h1;subst h2
  have hp:_=_:=hp;subst hp;refine⟨rfl,rfl,rfl,?_⟩;refine And.intro ?_ ?_
  ·intro _;exact rfl
  ·intro h;exact absurd h (by decide)
 ·cases h
def b8H:PF:=fun
 | [.flt .f64 x, .flt .f64 y]=>some (.flt .f64 1,some (x=1/\y=Y6))
 | _=>none
theorem b7S:y7 Tryz.prog 108 b8H:=by
 refine F0 gM Tryz.func108 rfl (by kernel_rfl) ?_;intro args v p h hp;unfold b8H at h;split at h
 ·injection h with h;injection h with h1 h2;subst h1;subst h2
  have hp:_/\_:=hp;obtain⟨rfl,rfl⟩:=hp;refine⟨rfl,rfl,rfl,?_⟩;show (_:Nat)=_
  kernel_rfl
 ·cases h
def GN:Ctx:=⟨⟨tys,[]⟩,[(109,l8 a1S),(110,l8 b0R),(106,l8 b2I),(108,l8 b8H)]⟩
theorem gN:v8 Tryz.prog GN:=⟨⟨z6,FlatsOk.nil⟩,g8.cons (.pure b1b) (g8.cons (.pure bits) (g8.cons (.pure isNaN) (g8.cons (.pure b7S) g8.nil))),by kernel_rfl⟩
def b8B:PF:=fun
 | [.flt .f64 x, .flt .f64 y]=>some (.flt .f64 (nxt x),some (y=Y6/\Fl.Fin x/\x+1<18446744073709551616))
 | _=>none
theorem next:y7 Tryz.prog 99 b8B:=by
 refine F0 gN Tryz.func99 rfl (by kernel_rfl) ?_;intro args v p h hp;unfold b8B at h;split at h
 ·rename_i x y;injection h with h;injection h with h1 h2;subst h1;subst h2
  have hp:_/\_/\_:=hp;obtain⟨rfl,hx,hlt⟩:=hp;refine⟨rfl,rfl,rfl,?_⟩;have e1:fNe .f64 x x=false:=b6T hx;have e2:fNe .f64 Y6 Y6=false:=by kernel_rfl
  have e3:fEq .f64 x Y6=false:=b9X hx;have e4:fEq .f64 x 0=decide (V x=0):=b8i hx;have e5:fGt .f64 Y6 x=true:=c1r hx;have e6:fGt .f64 x 0=decide (0<V x):=b9r hx
  repeat' (first|(intro h;first|(exact absurd h (by simp only[e1,e2,e3,e5];decide))|skip)|(refine And.intro ?_ ?_))
  all_goals (show (_:Nat)=_)
  ·rfl
  ·rfl
  ·rename_i h;rw[e4]at h;simp[nxt,of_decide_eq_true h]
  ·rename_i h;have h0:fEq .f64 x 0=false:=by assumption
   rw[e4]at h0;rw[e5,e6]at h;have h0:=of_decide_eq_false h0;have h:0<V x:=by simpa using h
   rw[b4k (by omega) (by omega)];simp only[nxt,h0,h,if_true,if_false];omega
  ·rename_i h;have h0:fEq .f64 x 0=false:=by assumption
   rw[e4]at h0;rw[e5,e6]at h;have h0:=of_decide_eq_false h0;have h:¬0<V x:=by simpa using h
   have hx0:x≠0:=λe=>h0 (by rw[e];exact a6J)
   rw[b4k (by omega) (by omega)];simp only[nxt,h0,h,if_false];omega
 ·cases h
end Go.Proofs.Tryz.Sx

namespace Go.Sx
open Go.RowKit
def b2e(k:Bool):TK->Bool
 | .flt _=>k
 | .int _ => !k
 | _=>false
theorem a2T{x:SV}{xs ys:List SV}{b:Bool}(h:lEq (x :: xs) ys=some b):∃ y ys' b0 b1,ys=y :: ys'/\sEq x y=some b0/\lEq xs ys'=some b1/\b=(b0&&b1):=by
 cases ys with
 | nil=>simp[lEq]at h
 | cons y ys' =>
  simp only[lEq]at h;split at h
  ·rename_i b0 h0;split at h
   ·rename_i b1 h1;simp only[Option.some.injEq]at h;exact⟨y,ys',b0,b1,rfl,h0,h1,h.symm⟩
   ·cases h
  ·cases h
theorem b3V{ys:List SV}{b:Bool}(h:lEq [] ys=some b):ys=[]/\b=true:=by
 cases ys with
 | nil=>simp only[lEq,Option.some.injEq]at h;exact⟨rfl,h.symm⟩
 | cons y r=>simp[lEq]at h
theorem a5c{x y:SV}{b:Bool}(h:sEq x y=some b):(∃ k a c,x=.int k a/\y=.int k c/\b=(a==c))∨(∃ k a c,x=.flt k a/\y=.flt k c/\b=fEq k a c):=by
 unfold sEq at h;split at h
 ·split at h
  ·rename_i he;have:=W7 he;subst this;simp only[Option.some.injEq]at h;exact .inl ⟨_,_,_,rfl,rfl,h.symm⟩
  ·cases h
 ·split at h
  ·rename_i he;have:=M6 he;subst this;simp only[Option.some.injEq]at h;exact .inr ⟨_,_,_,rfl,rfl,h.symm⟩
  ·cases h
 ·cases h
section
variable {P:Program} (w:World) (ρ:Rho)
theorem a0B{d t:Nat}{ti:TI}(ht:TOk P t ti){k:Bool}(hk:b2e k ti.tk=true){x y:SV}{b:Bool}(hx:R0 [k] [x]=true)(h:sEq x y=some b) :
  (Op.equalIn (d+1) t (x.den ρ) (y.den ρ)).run P w=.ok b w:=by
 obtain⟨dd,hd,hd2⟩:=ht.desc;rcases a5c h with⟨k1,a,c,rfl,rfl,rfl⟩|⟨k1,a,c,rfl,rfl,rfl⟩
 ·simp only[R0,Bool.and_true,Bool.not_eq_true']at hx;subst hx;cases dd <;> simp only[E1]at hd2 <;> rw[<-hd2]at hk <;> simp[b2e]at hk
  unfold Op.equalIn;simp[run_underlying hd,SV.den]
 ·simp only[R0,Bool.and_true]at hx;subst hx;cases dd <;> simp only[E1]at hd2 <;> rw[<-hd2]at hk <;> simp[b2e]at hk
  unfold Op.equalIn;simp[run_underlying hd,SV.den];rfl
theorem b1d{ti:TI}{k:Bool}(hk:b2e k ti.tk=true):ti.isAgg=false:=by
 unfold TI.isAgg;split <;> rename_i hh <;> simp_all[b2e]
def FE(P:Program)(t:Nat)(n:List Bool)(D:Nat):Prop :=
 ∀(d:Nat)(xs ys:List SV)(b:Bool),R0 n xs=true->lEq xs ys=some b->∀(ρ:Rho)(w:World),(Op.equalIn (d+D) t (.agg (m9 ρ xs).toArray) (.agg (m9 ρ ys).toArray)).run P w=.ok b w
theorem FE.flat{t:Nat}{n:List Bool}{D:Nat}(h:FE P t n D)(hg:P.eqGuardType P.depth t=false)(hD:D<=10000):a2o P t n :=
 ⟨hg,λxs ys b hx hb ρ w=>by
  have:=h (10000-D) xs ys b hx hb ρ w;rw[Nat.sub_add_cancel hD]at this
  exact this⟩
theorem a0n {T:Tys} (hT:TysOk P T) {t e0 e1:Nat} {f0 f1:Field} {t0 t1:TI} {k0 k1:Bool} (hu:P.underlying t=some (.struct #[f0,f1])) (hp:P.stoodInHeld t=false)
  (hn0:f0.name≠ "_") (hn1:f1.name≠ "_") (h0:f0.type=e0/\f0.offset=0) (h1:f1.type=e1/\f1.offset=1) (ht0:ty T e0=some t0) (ht1:ty T e1=some t1)
  (hk0:b2e k0 t0.tk=true) (hk1:b2e k1 t1.tk=true):FE P t [k0,k1] 2:=by
 intro d xs ys b hx h ρ w;have hf:P.fieldsOf t = #[f0,f1]:=by simp[Program.fieldsOf,hu]
 match xs with
 | []=>simp[R0]at hx
 | [_]=>simp[R0]at hx;split at hx <;> simp at hx
 | _ :: _ :: _ :: _=>simp[R0]at hx;split at hx <;> (try split at hx) <;> simp at hx
 | [x0,x1] =>
  obtain⟨y0,ys',b0,c,rfl,e0',h',rfl⟩:=a2T h;obtain⟨y1,ys'',b1,c',rfl,e1',h'',rfl⟩:=a2T h';obtain⟨rfl,rfl⟩:=b3V h''
  have hx0:R0 [k0] [x0]=true:=by
   rcases a5c e0' with⟨k,a,c,rfl,rfl,rfl⟩|⟨k,a,c,rfl,rfl,rfl⟩ <;> simp_all[R0]
  have hx1:R0 [k1] [x1]=true:=by
   rcases a5c e0' with⟨k,a,c,rfl,rfl,rfl⟩|⟨k,a,c,rfl,rfl,rfl⟩ <;> rcases a5c e1' with⟨k,a,c,rfl,rfl,rfl⟩|⟨k,a,c,rfl,rfl,rfl⟩ <;> simp_all[R0]
  have p0:=λ(cs:List SV) (v:SV) (hc:cs[0]? = some v)=>(S0 (U:=λ_=>True) hT (cs:=cs) (by rw[E0];exact λv _=>SV.bd_all v) (e:=e0) (o:=0) (v:=v) (by simp[a3O,ht0,b1d hk0,B6,hc]) ρ w).1
  have p1:=λ(cs:List SV) (v:SV) (hc:cs[1]? = some v)=>(S0 (U:=λ_=>True) hT (cs:=cs) (by rw[E0];exact λv _=>SV.bd_all v) (e:=e1) (o:=1) (v:=v) (by simp[a3O,ht1,b1d hk1,B6,hc]) ρ w).1
  rw[run_equalIn_agg w (d+1) t _ _ (by rw[hf];exact hu) hp,hf];simp only[Op.eqFields,hn0,hn1,ne_eq,not_false_eq_true,if_true,h0.1,h0.2,h1.1,h1.2,Sem.run_bind];rw[p0 _ x0 rfl];simp only[Result.andThen_ok];rw[p0 _ y0 rfl];simp only[Result.andThen_ok,a0B w ρ (hT _ _ ht0) hk0 hx0 e0'];cases b0
  ·simp
  ·simp only[Bool.not_true,Bool.false_eq_true,if_false,Sem.run_bind];rw[p1 _ x1 rfl];simp only[Result.andThen_ok];rw[p1 _ y1 rfl];simp only[Result.andThen_ok,a0B w ρ (hT _ _ ht1) hk1 hx1 e1'];cases b1 <;> simp
end
end Go.Sx

namespace Go.Fl
open Ieee Go.Sx
theorem a1V{x y r:Nat}{a b:Int}(h:A2 .f64 x y r)(hx:FI x a)(hy:FI y b)(hb:b≠0)(hb2:b.natAbs<2 ^ 53)(ha2:a.natAbs<2 ^ 53):Fin r/\QV (V r) a b:=by
 obtain⟨q,h1,h2,h3⟩:=c5b hx hy hb hb2 ha2;have:floatBits .quo .f64 x y=some q:=h1;unfold A2 at h;rw[this]at h;subst h;exact⟨h2,h3⟩
theorem a1G{y:Nat}(hy:FI y 0):∃ t j,double.read y=.number t 0 j:=by
 obtain⟨t,n,j,h4,h5,h6,hn⟩:=y5 hy.1;rw[hy.2,Int.zero_mul]at h6;have:=congrArg Int.natAbs h6;rw[A5]at this;rcases Nat.mul_eq_zero.1 this with h|h
 ·subst h;exact⟨t,j,h4⟩
 ·exact absurd h (Nat.ne_of_gt (Nat.two_pow_pos _))
theorem a2b(s:Bool):double.read (double.word s double.infRung)=.infinity s:=by cases s <;> decide
theorem b3I{x y r:Nat}{a:Int}(h:A2 .f64 x y r)(hx:FI x a)(ha:a≠0)(hy:FI y 0){z:Nat}(hz:Fin z):fEq .f64 r z=false/\fEq .f64 z r=false:=by
 obtain⟨s,m,i,h1,h2,h3,hm⟩:=y5 hx.1;obtain⟨t,j,h4⟩:=a1G hy
 have hm0:m≠0:=λe=>by
  subst e;rw[hx.2]at h3;have:=congrArg Int.natAbs h3;rw[A5,Nat.zero_mul,Int.natAbs_mul,A0]at this;rcases Nat.mul_eq_zero.1 this.symm with h|h
  ·omega
  ·exact absurd h (Nat.ne_of_gt (Nat.two_pow_pos _))
 have hd:floatBits .quo .f64 x y=some (double.word (s ^^ t) double.infRung):=by
  show double.div x y=_;unfold Format.div;rw[h1,h4];unfold Datum.quotient;simp only[hm0,if_true,if_false];rfl
 unfold A2 at h;rw[hd]at h;subst h;obtain⟨u,l,k,h7,_⟩:=y5 hz;constructor
 ·unfold fEq;show (Datum.order (double.read _) (double.read z)==_)=_;rw[a2b,h7];show ((some (if (s ^^ t)then Ordering.lt else Ordering.gt):Option Ordering)==some .eq)=false;cases (s ^^ t) <;> rfl
 ·unfold fEq;show (Datum.order (double.read z) (double.read _)==_)=_;rw[a2b,h7];show ((some (if (s ^^ t)then Ordering.gt else Ordering.lt):Option Ordering)==some .eq)=false;cases (s ^^ t) <;> rfl
theorem b6b{r z:Nat}(h:(double.read r).isNaN=true):fEq .f64 r z=false/\fEq .f64 z r=false:=by
 cases hr:double.read r with
 | nan s f =>
  constructor
  ·unfold fEq;show (Datum.order (double.read r) (double.read z)==_)=_;rw[hr];rfl
  ·unfold fEq;show (Datum.order (double.read z) (double.read r)==_)=_;rw[hr]
   cases double.read z <;> rfl
 | number s m i=>rw[hr]at h;cases h
 | infinity s=>rw[hr]at h;cases h
theorem c1a{x y r:Nat}(h:A2 .f64 x y r)(hx:FI x 0)(hy:FI y 0){z:Nat}:fEq .f64 r z=false/\fEq .f64 z r=false:=by
 obtain⟨s,i,h1⟩:=a1G hx;obtain⟨t,j,h4⟩:=a1G hy
 have hd:floatBits .quo .f64 x y=none:=by
  show double.div x y=_;unfold Format.div;rw[h1,h4];rfl
 unfold A2 at h;rw[hd]at h;exact b6b h
theorem c5E{v w a b c d:Int}(h1:QV v a b)(h2:QV w c d)(hb:b≠0)(hd:d≠0)(hs1:a.natAbs*d.natAbs<=2 ^ 50)(hs2:c.natAbs*b.natAbs<=2 ^ 50):v=w↔a*d=c*b:=by
 constructor
 ·intro hvw;rcases Int.lt_trichotomy (a*b*(d*d)) (c*d*(b*b))with h|h|h
  ·have:=b3p h1 h2 hb hd hs1 hs2 h;omega
  ·have e1:a*b*(d*d)=(b*d)*(a*d):=by ac_rfl
   have e2:c*d*(b*b)=(b*d)*(c*b):=by ac_rfl
   rw[e1,e2]at h;exact Int.eq_of_mul_eq_mul_left (Int.mul_ne_zero hb hd) h
  ·have:=b3p h2 h1 hd hb hs2 hs1 h;omega
 ·exact c2R h1 h2 hb hd
theorem b5W{v w a b c d:Int}(h1:QV v a b)(h2:QV w c d)(hbd:0<b*d)(hs1:a.natAbs*d.natAbs<=2 ^ 50)(hs2:c.natAbs*b.natAbs<=2 ^ 50):v<=w↔a*d<=c*b:=by
 have hb:b≠0:=λe=>by rw[e,Int.zero_mul]at hbd;omega
 have hd:d≠0:=λe=>by rw[e,Int.mul_zero]at hbd;omega
 have e1:a*b*(d*d)=(b*d)*(a*d):=by ac_rfl
 have e2:c*d*(b*b)=(b*d)*(c*b):=by ac_rfl
 rcases Int.lt_trichotomy (a*d) (c*b)with h|h|h
 ·have h3:=Int.mul_lt_mul_of_pos_left h hbd;rw[<-e1,<-e2]at h3;have:=b3p h1 h2 hb hd hs1 hs2 h3;omega
 ·have:=c2R h1 h2 hb hd h;omega
 ·have h3:=Int.mul_lt_mul_of_pos_left h hbd;rw[<-e1,<-e2]at h3;have:=b3p h2 h1 hd hb hs2 hs1 h3;omega
theorem a3e{x y:Nat}{a b:Int}(hx:FI x a)(hy:FI y b)(ha:a.natAbs<=2 ^ 22)(hb:b.natAbs<=2 ^ 22):fok .sub .f64 x y/\FI (fop .sub .f64 x y) (a-b):=by
 obtain⟨r,h1,h2⟩:=b2q hx hy (by omega);have:floatBits .sub .f64 x y=some r:=h1;unfold fok fop;rw[this];exact⟨rfl,h2⟩
theorem a5w{n m:Int}{k:Nat}(hk:k<=1045):(n*2 ^ U1+((2 ^ k:Nat):Int)<m*2 ^ U1↔n<m)/\(m*2 ^ U1<n*2 ^ U1+((2 ^ k:Nat):Int)↔m<=n)/\n*2 ^ U1+((2 ^ k:Nat):Int)≠m*2 ^ U1:=by
 have hU:U1=1074:=rfl;have h1:2 ^ k<2 ^ U1:=(Nat.pow_lt_pow_iff_right (by decide)).2 (by omega);have h2:0<2 ^ k:=Nat.two_pow_pos k;have e:(2:Int) ^ U1=((2 ^ U1:Nat):Int):=by simp
 rw[e];generalize 2 ^ U1=u at *;generalize 2 ^ k=t at *;have hu:(0:Int)<(u:Int):=by omega
 rcases Int.lt_trichotomy n m with h|h|h
 ·have h3:(n+1)*(u:Int)<=m*u:=Int.mul_le_mul_of_nonneg_right (by omega) (by omega);rw[Int.add_mul,Int.one_mul]at h3;omega
 ·subst h;omega
 ·have h3:(m+1)*(u:Int)<=n*u:=Int.mul_le_mul_of_nonneg_right (by omega) (by omega);rw[Int.add_mul,Int.one_mul]at h3;omega
def b4W(q:Nat)(n:Int):Prop:=Fin q/\∃ k,k<=1045/\V q=n*2 ^ U1+((2 ^ k:Nat):Int)
theorem b3o{q y:Nat}{n m:Int}(hq:b4W q n)(hy:FI y m):fEq .f64 q y=false:=by
 obtain⟨h1,k,hk,h2⟩:=hq;rw[b8o h1 hy.1,h2,hy.2];exact decide_eq_false (a5w hk).2.2
theorem c1k{q y:Nat}{n m:Int}(hq:b4W q n)(hy:FI y m):fLt .f64 q y=decide (n<m):=by
 obtain⟨h1,k,hk,h2⟩:=hq;rw[b1k h1 hy.1,h2,hy.2];exact decide_eq_decide.2 (a5w hk).1
theorem c0X{q y:Nat}{n m:Int}(hq:b4W q n)(hy:FI y m):fGt .f64 q y=decide (m<=n):=by
 obtain⟨h1,k,hk,h2⟩:=hq;rw[c2Z h1 hy.1,h2,hy.2];exact decide_eq_decide.2 (a5w hk).2.1
theorem b1n{x:Nat}{n:Int}(h:FI x n)(hn:n.natAbs<=2 ^ 22):b4W (nxt x) n:=⟨(a5C h hn).2.1,(a5C h hn).2.2⟩
end Go.Fl

namespace Go.Geo
def cross(a1 a2 b1 b2 p1 p2:Int):Int:=(b1-a1)*(p2-a2)-(b2-a2)*(p1-a1)
def btw(a b p:Int):Prop:=(a<=p/\p<=b)∨(b<=p/\p<=a)
def On(a1 a2 b1 b2 p1 p2:Int):Prop:=btw a1 b1 p1/\btw a2 b2 p2/\cross a1 a2 b1 b2 p1 p2=0
def Lft(a1 a2 b1 b2 p1 p2:Int):Prop:=(b2<a2/\b2<=p2/\p2<a2/\0<cross b1 b2 a1 a2 p1 p2)∨(a2<=b2/\a2<=p2/\p2<b2/\0<cross a1 a2 b1 b2 p1 p2)
instance (a b p:Int):Decidable (btw a b p):=by unfold btw;infer_instance
instance (a1 a2 b1 b2 p1 p2:Int):Decidable (On a1 a2 b1 b2 p1 p2):=by unfold On;infer_instance
instance (a1 a2 b1 b2 p1 p2:Int):Decidable (Lft a1 a2 b1 b2 p1 p2):=by unfold Lft;infer_instance
section
variable {a1 a2 b1 b2 p1 p2:Int}
theorem P0:cross b1 b2 a1 a2 p1 p2 = -cross a1 a2 b1 b2 p1 p2:=by
 unfold cross
 have e1:(a1-b1)*(p2-b2)=(b1-a1)*b2-(b1-a1)*p2:=by
  rw[show a1-b1 = -(b1-a1) by omega,show p2-b2 = -(b2-p2) by omega,Int.neg_mul_neg,Int.mul_sub]
 have e2:(a2-b2)*(p1-b1)=(b2-a2)*b1-(b2-a2)*p1:=by
  rw[show a2-b2 = -(b2-a2) by omega,show p1-b1 = -(b1-p1) by omega,Int.neg_mul_neg,Int.mul_sub]
 have e3:(b1-a1)*(p2-a2)=(b1-a1)*p2-(b1-a1)*a2:=Int.mul_sub _ _ _;have e4:(b2-a2)*(p1-a1)=(b2-a2)*p1-(b2-a2)*a1:=Int.mul_sub _ _ _;have e5:(b1-a1)*b2=b1*b2-a1*b2:=Int.sub_mul _ _ _;have e6:(b1-a1)*a2=b1*a2-a1*a2:=Int.sub_mul _ _ _;have e7:(b2-a2)*b1=b2*b1-a2*b1:=Int.sub_mul _ _ _;have e8:(b2-a2)*a1=b2*a1-a2*a1:=Int.sub_mul _ _ _;rw[Int.mul_comm b2 b1,Int.mul_comm a2 b1]at e7;rw[Int.mul_comm b2 a1,Int.mul_comm a2 a1]at e8;rw[e1,e2,e3,e4];omega
theorem a9T{a b p:Int}:btw b a p↔btw a b p:=by unfold btw;omega
theorem a0l:On b1 b2 a1 a2 p1 p2↔On a1 a2 b1 b2 p1 p2:=by
 unfold On;rw[P0];constructor <;> rintro⟨h1,h2,h3⟩ <;> exact⟨a9T.1 h1,a9T.1 h2,by omega⟩
theorem a1t(h0:a2<b2)(h1:a2<=p2)(h2:p2<=b2)(h:cross a1 a2 b1 b2 p1 p2=0):btw a1 b1 p1:=by
 unfold cross at h;have hB:0<b2-a2:=by omega
 have ht0:0<=p2-a2:=by omega
 have ht1:p2-a2<=b2-a2:=by omega
 generalize hBe:b2-a2=B at *;generalize p2-a2=t at *;rcases Int.lt_or_le b1 a1 with hA|hA
 ·
  refine .inr ⟨?_,?_⟩
  ·rcases Int.lt_or_le p1 b1 with hp|hp
   ·have e:(b1-a1)*B<=(b1-a1)*t:=Int.mul_le_mul_of_nonpos_left (by omega) ht1;have e2:B*(p1-a1)<B*(b1-a1):=Int.mul_lt_mul_of_pos_left (by omega) hB;rw[Int.mul_comm B (b1-a1)]at e2;omega
   ·exact hp
  ·rcases Int.lt_or_le a1 p1 with hp|hp
   ·have e:(b1-a1)*t<=0:=Int.mul_nonpos_of_nonpos_of_nonneg (by omega) ht0;have e2:0<B*(p1-a1):=Int.mul_pos hB (by omega);omega
   ·exact hp
 ·refine .inl ⟨?_,?_⟩
  ·rcases Int.lt_or_le p1 a1 with hp|hp
   ·have e:0<=(b1-a1)*t:=Int.mul_nonneg (by omega) ht0;have e2:B*(p1-a1)<0:=Int.mul_neg_of_pos_of_neg hB (by omega);omega
   ·exact hp
  ·rcases Int.lt_or_le b1 p1 with hp|hp
   ·have e:(b1-a1)*t<=(b1-a1)*B:=Int.mul_le_mul_of_nonneg_left ht1 (by omega);have e2:B*(b1-a1)<B*(p1-a1):=Int.mul_lt_mul_of_pos_left (by omega) hB;rw[Int.mul_comm B (b1-a1)]at e2;omega
   ·exact hp
theorem a4x(h1:a2<=p2)(h2:p2<b2)(h3:a1<=p1)(h4:b1<=p1):cross a1 a2 b1 b2 p1 p2<=0:=by
 unfold cross;have e2:0<=(b2-a2)*(p1-a1):=Int.mul_nonneg (by omega) (by omega);rcases Int.lt_or_le b1 a1 with hA|hA
 ·have e:(b1-a1)*(p2-a2)<=0:=Int.mul_nonpos_of_nonpos_of_nonneg (by omega) (by omega);omega
 ·have e:(b1-a1)*(p2-a2)<=(b1-a1)*(b2-a2):=Int.mul_le_mul_of_nonneg_left (by omega) (by omega);have e3:(b2-a2)*(b1-a1)<=(b2-a2)*(p1-a1):=Int.mul_le_mul_of_nonneg_left (by omega) (by omega);rw[Int.mul_comm (b2-a2) (b1-a1)]at e3;omega
theorem a6O(h1:a2<=p2)(h2:p2<b2)(h3:p1<=a1)(h4:p1<=b1):0<=cross a1 a2 b1 b2 p1 p2:=by
 unfold cross;have e2:(b2-a2)*(p1-a1)<=0:=Int.mul_nonpos_of_nonneg_of_nonpos (by omega) (by omega);rcases Int.lt_or_le a1 b1 with hA|hA
 ·have e:0<=(b1-a1)*(p2-a2):=Int.mul_nonneg (by omega) (by omega);omega
 ·have e:(b1-a1)*(b2-a2)<=(b1-a1)*(p2-a2):=Int.mul_le_mul_of_nonpos_left (by omega) (by omega);have e3:(b2-a2)*(p1-a1)<=(b2-a2)*(b1-a1):=Int.mul_le_mul_of_nonneg_left (by omega) (by omega);rw[Int.mul_comm (b2-a2) (b1-a1)]at e3;omega
theorem V6(hn:¬On a1 a2 b1 b2 p1 p2)(h1:a2<=p2)(h2:p2<b2):cross a1 a2 b1 b2 p1 p2≠0:=λh =>
 hn ⟨a1t (by omega) h1 (by omega) h, .inl ⟨h1,by omega⟩,h⟩
end
end Go.Geo

namespace Go.Proofs.Tryz.Sx
open Go Go.Sx Go.Proofs Go.Fl Go.Geo
set_option maxRecDepth 100000
theorem b1O:a2o Tryz.prog 100 [true,true] :=
 (a0n z6 (t:=100) (e0:=98) (e1:=98) Tryz.underlying100 (by kernel_rfl) (by decide) (by decide) ⟨rfl,rfl⟩ ⟨rfl,rfl⟩ (by rfl) (by rfl) rfl rfl).flat (by kernel_rfl) (by decide)
def GR:Ctx:=⟨⟨tys,[(100,[true,true])]⟩,[(99,l8 b8B),(100,l8 c4k)]⟩
theorem gR:v8 Tryz.prog GR:=⟨⟨z6,FlatsOk.cons b1O FlatsOk.nil⟩,g8.cons (.pure next) (g8.cons (.pure inf) g8.nil),by kernel_rfl⟩
def SR(px py ax ay bx by':Nat):St :=
 ⟨302,[(4, .ptr 0 0),(5, .ptr 1 0),(6, .ptr 2 0),(7, .ptr 3 0)],
  [(0,⟨true,142, .cells [.ff, .ff],0⟩),(1,⟨true,100, .cells [.flt .f64 px, .flt .f64 py],0⟩),(2,⟨true,100, .cells [.flt .f64 ax, .flt .f64 ay],0⟩),(3,⟨true,100, .cells [.flt .f64 bx, .flt .f64 by'],0⟩)],4⟩
def KR(i o:Bool):Xt->St->Prop:=r6 GR.E.T Tryz.f90.results.toList λ_ v=>eqv v (.agg [.bool i, .bool o])
def p2:Code->Code
 | .seq _ y=>y
 | c=>c
noncomputable def c0:Code:=j3 Tryz.f90
noncomputable def c2:Code:=p2 (p2 c0)
noncomputable def c3:Code:=p2 c2
noncomputable def c4:Code:=p2 c3
noncomputable def c5:Code:=p2 c4
noncomputable def c6:Code:=p2 c5
noncomputable def c7:Code:=p2 c6
noncomputable def c8:Code:=p2 c7
noncomputable def c9:Code:=p2 c8
noncomputable def c10:Code:=p2 c9
theorem Wp.refines{P:Program}{N0:Nat}{S S1:St}{K:Xt->St->Prop}{c:Code}(hr:z5 N0 S S1)(h:Wp P N0 c S1 K):Wp P N0 c S K:=by
 intro W0 Fr ρ0 ρ a w Q hS hN hρ hK;obtain⟨ρ',h1,h2⟩:=hr.2 W0 Fr ρ a w hS;exact h W0 Fr ρ0 ρ' a w Q h1 hr.1 (λn hn=>(h2 n hn).trans (hρ n hn)) hK
set_option maxHeartbeats 4000000 in
theorem a5H(ax ay bx by' px py:Nat)(i o:Bool)(h:Wp Tryz.prog 0 c2 (SR px py ax ay bx by') (KR i o)) :
  Wp Tryz.prog 0 c0 (q9 302 [.agg [.flt .f64 ax, .flt .f64 ay, .flt .f64 bx, .flt .f64 by'], .agg [.flt .f64 px, .flt .f64 py]] [] 0) (KR i o):=by
 refine Wp.seq (K1:=λe S'=>match e with
  | .normal=>Wp Tryz.prog 0 (p2 c0) S' (KR i o)
  | _=>False) (Wp.run gR ?_) (λS' h'=>h') (λ_ _ h=>h.elim) (λ_ h=>h.elim)
 show Wp Tryz.prog 0 (p2 c0) _ (KR i o)
 refine Wp.seq (K1:=λe S'=>match e with
  | .normal=>z5 0 S' (SR px py ax ay bx by')
  | _=>False) (Wp.run gR ?_) (λS' h'=>Wp.refines h' h) (λ_ _ h=>h.elim) (λ_ h=>h.elim)
 refine And.intro ?_ ?_
 ·kernel_rfl
 ·show z5 0 _ (SR px py ax ay bx by');refine z5.by_names [(0,some 48),(1,some 192),(2,some 216),(3,some 240)] ⟨rfl,rfl,rfl,rfl,?_,?_⟩
  ·exact⟨⟨rfl,trivial,rfl⟩,⟨rfl,trivial,rfl⟩,⟨rfl,trivial,rfl⟩,⟨rfl,trivial,rfl⟩,trivial⟩
  ·exact⟨⟨rfl,rfl,rfl,rfl,trivial,trivial,trivial⟩,⟨rfl,rfl,rfl,rfl,rfl,rfl,trivial⟩,⟨rfl,rfl,rfl,rfl,rfl,rfl,trivial⟩,⟨rfl,rfl,rfl,rfl,rfl,rfl,trivial⟩,trivial⟩
structure Pts (ax ay bx by' px py:Nat) (a1 a2 b1 b2 p1 p2:Int):Prop where
 ax:FI ax a1
 ay:FI ay a2
 bx:FI bx b1
 by':FI by' b2
 px:FI px p1
 py:FI py p2
 ha1:a1.natAbs<=2 ^ 22
 ha2:a2.natAbs<=2 ^ 22
 hb1:b1.natAbs<=2 ^ 22
 hb2:b2.natAbs<=2 ^ 22
 hp1:p1.natAbs<=2 ^ 22
 hp2:p2.natAbs<=2 ^ 22
section
variable {ax ay bx by' px py:Nat} {a1 a2 b1 b2 p1 p2:Int} (H:Pts ax ay bx by' px py a1 a2 b1 b2 p1 p2)
include H
abbrev KK(a1 a2 b1 b2 p1 p2:Int):Xt->St->Prop:=KR (decide (¬On a1 a2 b1 b2 p1 p2/\Lft a1 a2 b1 b2 p1 p2)) (decide (On a1 a2 b1 b2 p1 p2))
set_option maxHeartbeats 4000000 in
theorem d0k(h:((a2<b2->a2<=p2/\p2<=b2)/\(b2<a2->b2<=p2/\p2<=a2))->Wp Tryz.prog 0 c3 (SR px py ax ay bx by') (KK a1 a2 b1 b2 p1 p2)) :
  Wp Tryz.prog 0 c2 (SR px py ax ay bx by') (KK a1 a2 b1 b2 p1 p2):=by
 refine Wp.keep _ (Wp.run gR ?_) h;have e1:=G3 H.ay H.by';have e2:=G3 H.py H.ay;have e3:=E6 H.py H.by';have e4:=E6 H.ay H.by';have e5:=G3 H.py H.by';have e6:=E6 H.py H.ay
 repeat' (first|(intro h)|(refine And.intro ?_ ?_))
 all_goals try simp only[e1,e2,e3,e4,e5,e6,decide_eq_true_eq,decide_eq_false_iff_not]at *
 all_goals first
  | exact trivial
  | exact⟨rfl,rfl,rfl,rfl,rfl⟩
  | omega
  | exact decide_eq_false (λhh=>by unfold On btw at hh;omega)
  | exact decide_eq_false (λhh=>by unfold Lft at hh;omega)
set_option maxHeartbeats 4000000 in
theorem d0Z(f1:(a2<b2->a2<=p2/\p2<=b2)/\(b2<a2->b2<=p2/\p2<=a2))(h:(a2=b2->a1≠b1/\(p2=b2->¬btw a1 b1 p1))->Wp Tryz.prog 0 c4 (SR px py ax ay bx by') (KK a1 a2 b1 b2 p1 p2)) :
  Wp Tryz.prog 0 c3 (SR px py ax ay bx by') (KK a1 a2 b1 b2 p1 p2):=by
 refine Wp.keep _ (Wp.run gR ?_) h;have e1:=E5 H.ay H.by';have e2:=E5 H.ax H.bx;have e3:=E5 H.px H.ax;have e3':=E5 H.py H.ay;have e4:=E5 H.py H.by';have e5:=G3 H.ax H.bx;have e6:=a4o H.px H.ax;have e7:=a3s H.px H.bx;have e8:=a4o H.px H.bx;have e9:=a3s H.px H.ax;have l1:a2=b2->p2=b2->cross a1 a2 b1 b2 p1 p2=0:=λx y=>by subst x;subst y;unfold cross;simp
 have l2:a2=b2->a1=b1->cross a1 a2 b1 b2 p1 p2=0:=λx y=>by subst x;subst y;unfold cross;simp
 clear h
 repeat' (first|(intro h)|(refine And.intro ?_ ?_))
 all_goals try simp only[e1,e2,e3,e3',e4,e5,e6,e7,e8,e9,decide_eq_true_eq,decide_eq_false_iff_not,Bool.and_eq_true,Bool.and_true,Bool.and_eq_false_imp]at *
 all_goals first
  | exact trivial
  | exact⟨rfl,rfl,rfl,rfl,rfl⟩
  | omega
  | (unfold btw at *;omega)
  | exact decide_eq_false (λhh=>by unfold On btw at hh;omega)
  | exact decide_eq_false (λhh=>by unfold Lft at hh;omega)
  | exact decide_eq_true (by unfold On btw;omega)
  | exact decide_eq_false (λhh=>hh.1 (by unfold On btw;omega))
set_option maxHeartbeats 4000000 in
theorem d0g(f1:(a2<b2->a2<=p2/\p2<=b2)/\(b2<a2->b2<=p2/\p2<=a2))(f2:a2=b2->a1≠b1/\(p2=b2->¬btw a1 b1 p1))(h:(a1=b1->p1≠b1)->Wp Tryz.prog 0 c5 (SR px py ax ay bx by') (KK a1 a2 b1 b2 p1 p2)) :
  Wp Tryz.prog 0 c4 (SR px py ax ay bx by') (KK a1 a2 b1 b2 p1 p2):=by
 refine Wp.keep _ (Wp.run gR ?_) h;have e1:=E5 H.ax H.bx;have e2:=E5 H.px H.bx;have e3:=G3 H.ay H.by';have e4:=a4o H.py H.ay;have e5:=a3s H.py H.by';have e6:=a4o H.py H.by';have e7:=a3s H.py H.ay;have l1:a1=b1->p1=b1->cross a1 a2 b1 b2 p1 p2=0:=λx y=>by subst x;subst y;unfold cross;simp
 clear h
 repeat' (first|(intro h)|(refine And.intro ?_ ?_))
 all_goals try simp only[e1,e2,e3,e4,e5,e6,e7,decide_eq_true_eq,decide_eq_false_iff_not]at *
 all_goals first
  | exact trivial
  | exact⟨rfl,rfl,rfl,rfl,rfl⟩
  | omega
  | exact decide_eq_true (by unfold On btw;omega)
  | exact decide_eq_false (λhh=>hh.1 (by unfold On btw;omega))
set_option maxHeartbeats 4000000 in
theorem d1a(f1:(a2<b2->a2<=p2/\p2<=b2)/\(b2<a2->b2<=p2/\p2<=a2))(f2:a2=b2->a1≠b1/\(p2=b2->¬btw a1 b1 p1))(f3:a1=b1->p1≠b1)
  (h:¬On a1 a2 b1 b2 p1 p2->Wp Tryz.prog 0 c6 (SR px py ax ay bx by') (KK a1 a2 b1 b2 p1 p2)) :
  Wp Tryz.prog 0 c5 (SR px py ax ay bx by') (KK a1 a2 b1 b2 p1 p2):=by
 refine Wp.keep _ (Wp.run gR ?_) h;clear h;obtain⟨s1,d1⟩:=a3e H.px H.ax H.hp1 H.ha1;obtain⟨s2,d2⟩:=a3e H.bx H.ax H.hb1 H.ha1;obtain⟨s3,d3⟩:=a3e H.py H.ay H.hp2 H.ha2;obtain⟨s4,d4⟩:=a3e H.by' H.ay H.hb2 H.ha2
 have key:∀ r q,A2 .f64 (fop .sub .f64 px ax) (fop .sub .f64 bx ax) r->A2 .f64 (fop .sub .f64 py ay) (fop .sub .f64 by' ay) q->(fEq .f64 r q=true↔On a1 a2 b1 b2 p1 p2):=by
  intro r q hr hq;have hb:=H.ha1;have hb':=H.ha2;have hb'':=H.hb1;have hb''':=H.hb2;have hc:=H.hp1;have hc':=H.hp2;by_cases hv:b1-a1=0
  ·rw[hv]at d2;have h4:b2-a2≠0:=by omega
   obtain⟨g1,_⟩:=a1V hq d3 d4 h4 (by omega) (by omega);rw[(b3I hr d1 (by omega) d2 g1).1];constructor
   ·intro h;cases h
   ·intro h;unfold On btw at h;omega
  ·obtain⟨g1,g2⟩:=a1V hr d1 d2 hv (by omega) (by omega);by_cases hw:b2-a2=0
   ·rw[hw]at d4
    have hne:fEq .f64 r q=false:=by
     by_cases hz:p2-a2=0
     ·rw[hz]at d3;exact(c1a hq d3 d4).2
     ·exact(b3I hq d3 hz d4 g1).2
    rw[hne];constructor
    ·intro h;cases h
    ·intro h;unfold On at h;unfold btw at h f2;omega
   ·obtain⟨g3,g4⟩:=a1V hq d3 d4 hw (by omega) (by omega);rw[b8o g1 g3,decide_eq_true_eq,c5E g2 g4 hv hw ?_ ?_]
    ·have hcross:cross a1 a2 b1 b2 p1 p2=(p2-a2)*(b1-a1)-(p1-a1)*(b2-a2):=by
      unfold cross;rw[Int.mul_comm (b1-a1),Int.mul_comm (b2-a2)]
     constructor
     ·intro h;have h0:cross a1 a2 b1 b2 p1 p2=0:=by omega
      rcases Int.lt_or_le a2 b2 with hlt|hge
      ·exact⟨a1t hlt (by omega) (by omega) h0,by unfold btw;omega,h0⟩
      ·have hlt:b2<a2:=by omega
       refine a0l.1 ⟨a1t (p2:=p2) hlt (by omega) (by omega) (by rw[P0];omega),by unfold btw;omega,by rw[P0];omega⟩
     ·intro h;have:=h.2.2;omega
    ·have:=Nat.mul_le_mul (show (p1-a1).natAbs<=2 ^ 23 by omega) (show (b2-a2).natAbs<=2 ^ 23 by omega);omega
    ·have:=Nat.mul_le_mul (show (p2-a2).natAbs<=2 ^ 23 by omega) (show (b1-a1).natAbs<=2 ^ 23 by omega);omega
 refine And.intro s1 (And.intro s2 ?_);intro r hr;refine And.intro s3 (And.intro s4 ?_);intro q hq;have hk:=key r q hr hq;refine And.intro ?_ ?_
 ·intro h;have ho:=hk.1 h;exact⟨decide_eq_false (λhh=>hh.1 ho),decide_eq_true ho,trivial⟩
 ·intro h;refine And.intro ?_ ?_
  ·intro ho;rw[hk.2 ho]at h;cases h
  ·exact⟨rfl,rfl,rfl,rfl,rfl⟩
end
theorem z5.rfl'{S:St}:z5 0 S S:=⟨Nat.zero_le _,λ_ _ ρ _ _ h=>⟨ρ,h,λ_ _=>rfl⟩⟩
section
variable {ax ay bx by' px py:Nat} {a1 a2 b1 b2 p1 p2:Int} (H:Pts ax ay bx by' px py a1 a2 b1 b2 p1 p2)
include H
def LI(ax ay bx by' px py:Nat):Bool->St
 | false=>SR px py ax ay bx by'
 | true=>SR px (nxt py) ax ay bx by'
def Lμ:Bool->Nat
 | false=>1
 | true=>0
set_option maxHeartbeats 4000000 in
theorem c9B(hA:p2≠a2/\p2≠b2->Wp Tryz.prog 0 c7 (SR px py ax ay bx by') (KK a1 a2 b1 b2 p1 p2))(hB:p2=a2∨p2=b2->Wp Tryz.prog 0 c7 (SR px (nxt py) ax ay bx by') (KK a1 a2 b1 b2 p1 p2)) :
  Wp Tryz.prog 0 c6 (SR px py ax ay bx by') (KK a1 a2 b1 b2 p1 p2):=by
 refine Wp.seq (K1:=λe S'=>match e with
  | .normal=>((p2≠a2/\p2≠b2)/\z5 0 S' (SR px py ax ay bx by'))∨((p2=a2∨p2=b2)/\z5 0 S' (SR px (nxt py) ax ay bx by'))
  | _=>False) ?_ (λS' h'=>by
   rcases h' with⟨h1,h2⟩|⟨h1,h2⟩
   ·exact Wp.refines h2 (hA h1)
   ·exact Wp.refines h2 (hB h1)) (λ_ _ h=>h.elim) (λ_ h=>h.elim)
 clear hA hB;have e1:=E5 H.py H.ay;have e2:=E5 H.py H.by';have hn:=b1n H.py H.hp2;have e3:=b3o hn H.ay;have e4:=b3o hn H.by';have hf:=H.py.1;have hl:=(a5C H.py H.hp2).1;refine Wp.block (Wp.loop (ι:={i:Bool // i=true->(p2=a2∨p2=b2)}) (λi=>LI ax ay bx by' px py i.1) (λi=>Lμ i.1) ⟨false,by intro h;cases h⟩ z5.rfl' ?_);rintro⟨i,hi⟩
 cases i with
 | false =>
  refine Wp.run gR ?_;refine And.intro ?_ ?_
  ·intro h;rw[e1]at h;refine And.intro rfl (And.intro ⟨rfl,hf,hl⟩ (And.intro (by kernel_rfl) ?_));refine⟨⟨true,λ_=>.inl (of_decide_eq_true h)⟩,show (0:Nat)<1 by decide,z5.by_names [] ⟨rfl,rfl,rfl,rfl,?_,?_⟩⟩
   ·exact⟨⟨rfl,trivial,rfl⟩,⟨rfl,trivial,rfl⟩,⟨rfl,trivial,rfl⟩,⟨rfl,trivial,rfl⟩,trivial⟩
   ·exact⟨⟨rfl,rfl,rfl,rfl,trivial,trivial,trivial⟩,⟨rfl,rfl,rfl,rfl,rfl,rfl,trivial⟩,⟨rfl,rfl,rfl,rfl,rfl,rfl,trivial⟩,⟨rfl,rfl,rfl,rfl,rfl,rfl,trivial⟩,trivial⟩
  ·intro h;rw[e1]at h;refine And.intro ?_ ?_
   ·intro h';rw[e2]at h';refine And.intro rfl (And.intro ⟨rfl,hf,hl⟩ (And.intro (by kernel_rfl) ?_));refine⟨⟨true,λ_=>.inr (of_decide_eq_true h')⟩,show (0:Nat)<1 by decide,z5.by_names [] ⟨rfl,rfl,rfl,rfl,?_,?_⟩⟩
    ·exact⟨⟨rfl,trivial,rfl⟩,⟨rfl,trivial,rfl⟩,⟨rfl,trivial,rfl⟩,⟨rfl,trivial,rfl⟩,trivial⟩
    ·exact⟨⟨rfl,rfl,rfl,rfl,trivial,trivial,trivial⟩,⟨rfl,rfl,rfl,rfl,rfl,rfl,trivial⟩,⟨rfl,rfl,rfl,rfl,rfl,rfl,trivial⟩,⟨rfl,rfl,rfl,rfl,rfl,rfl,trivial⟩,trivial⟩
   ·intro h';rw[e2]at h';refine Or.inl ⟨⟨of_decide_eq_false h,of_decide_eq_false h'⟩,z5.by_names [] ⟨rfl,rfl,rfl,rfl,?_,?_⟩⟩
    ·exact⟨⟨rfl,trivial,rfl⟩,⟨rfl,trivial,rfl⟩,⟨rfl,trivial,rfl⟩,⟨rfl,trivial,rfl⟩,trivial⟩
    ·exact⟨⟨rfl,rfl,rfl,rfl,trivial,trivial,trivial⟩,⟨rfl,rfl,rfl,rfl,rfl,rfl,trivial⟩,⟨rfl,rfl,rfl,rfl,rfl,rfl,trivial⟩,⟨rfl,rfl,rfl,rfl,rfl,rfl,trivial⟩,trivial⟩
 | true =>
  have hi:=hi rfl;refine Wp.run gR ?_;refine And.intro ?_ ?_
  ·intro h;rw[e3]at h;cases h
  ·intro h;refine And.intro ?_ ?_
   ·intro h';rw[e4]at h';cases h'
   ·intro h';refine Or.inr ⟨hi,z5.by_names [] ⟨rfl,rfl,rfl,rfl,?_,?_⟩⟩
    ·exact⟨⟨rfl,trivial,rfl⟩,⟨rfl,trivial,rfl⟩,⟨rfl,trivial,rfl⟩,⟨rfl,trivial,rfl⟩,trivial⟩
    ·exact⟨⟨rfl,rfl,rfl,rfl,trivial,trivial,trivial⟩,⟨rfl,rfl,rfl,rfl,rfl,rfl,trivial⟩,⟨rfl,rfl,rfl,rfl,rfl,rfl,trivial⟩,⟨rfl,rfl,rfl,rfl,rfl,rfl,trivial⟩,trivial⟩
end
end Go.Proofs.Tryz.Sx

namespace Go.Fl
open Ieee Go.Sx Go.Geo
theorem b9A{k:Nat}(hk:k<=1047):2 ^ k<2 ^ (U1-25):=(Nat.pow_lt_pow_iff_right (by decide)).2 (by have:U1=1074:=rfl;omega)
theorem c2i{lx ly ux uy px q:Nat}{l1 l2 u1 u2 p1 p2:Int}(h1:FI lx l1)(h2:FI ly l2)(h3:FI ux u1)(h4:FI uy u2)(h5:FI px p1)
  (b1:l1.natAbs<=2 ^ 22) (b2:l2.natAbs<=2 ^ 22) (b3:u1.natAbs<=2 ^ 22) (b4:u2.natAbs<=2 ^ 22) (b5:p1.natAbs<=2 ^ 22) (b6:p2.natAbs<=2 ^ 22)
  (hy:l2<=p2/\p2<u2) (hx:(l1<p1/\p1<u1)∨(u1<p1/\p1<l1)) (hq:(FI q p2/\p2≠l2)∨(b4W q p2/\p2=l2)) :
  fok .sub .f64 q ly/\fok .sub .f64 px lx/\fok .sub .f64 uy ly/\fok .sub .f64 ux lx/\
  ∀ r w,A2 .f64 (fop .sub .f64 q ly) (fop .sub .f64 px lx) r->A2 .f64 (fop .sub .f64 uy ly) (fop .sub .f64 ux lx) w->fGe .f64 r w=decide (0<=cross l1 l2 u1 u2 p1 p2):=by
 obtain⟨s2,d2⟩:=a3e h5 h1 b5 b1;obtain⟨s3,d3⟩:=a3e h4 h2 b4 b2;obtain⟨s4,d4⟩:=a3e h3 h1 b3 b1
 have hcross:cross l1 l2 u1 u2 p1 p2=(p2-l2)*(u1-l1)-(u2-l2)*(p1-l1):=by
  unfold cross;rw[Int.mul_comm (u1-l1)]
 have hnum:u2-l2≠0:=by omega
 have hd1:p1-l1≠0:=by omega
 have hd2:u1-l1≠0:=by omega
 rcases hq with⟨hq,hne⟩|⟨hq,heq⟩
 ·obtain⟨s1,d1⟩:=a3e hq h2 b6 b2;refine⟨s1,s2,s3,s4,λr w hr hw=>?_⟩;obtain⟨g1,g2⟩:=a1V hr d1 d2 hd1 (by omega) (by omega);obtain⟨g3,g4⟩:=a1V hw d3 d4 hd2 (by omega) (by omega);rw[b6z g1 g3]
  have hpos:0<(u1-l1)*(p1-l1):=by
   rcases hx with hx|hx
   ·exact Int.mul_pos (by omega) (by omega)
   ·exact Int.mul_pos_of_neg_of_neg (by omega) (by omega)
  refine decide_eq_decide.2 ?_;rw[b5W g4 g2 hpos ?_ ?_,hcross]
  ·omega
  ·have:=Nat.mul_le_mul (show (u2-l2).natAbs<=2 ^ 23 by omega) (show (p1-l1).natAbs<=2 ^ 23 by omega);omega
  ·have:=Nat.mul_le_mul (show (p2-l2).natAbs<=2 ^ 23 by omega) (show (u1-l1).natAbs<=2 ^ 23 by omega);omega
 ·obtain⟨hf,k,hk,hv⟩:=hq;subst heq;obtain⟨n,n1,n2,n3,n4⟩:=b8n hf hv hk h2;have hn:floatBits .sub .f64 q ly=some n:=n1;have s1:fok .sub .f64 q ly:=by unfold fok;rw[hn];rfl
  have e1:fop .sub .f64 q ly=n:=by unfold fop;rw[hn];rfl
  refine⟨s1,s2,s3,s4,λr w hr hw=>?_⟩;rw[e1]at hr;obtain⟨r',m1,m2,m3,m4,m5⟩:=b2c n2 n3 n4 (by omega) d2 hd1
  have hrr:r=r':=by
   have:floatBits .quo .f64 n (fop .sub .f64 px lx)=some r':=m1;unfold A2 at hr;rw[this]at hr;exact hr
  subst hrr;obtain⟨g3,g4⟩:=a1V hw d3 d4 hd2 (by omega) (by omega);obtain⟨q1,q2⟩:=b7b g4 hnum (show (u1-l1).natAbs<=2 ^ 24 by omega);have hs:2 ^ (k+1+1)<2 ^ (U1-25):=b9A (by omega);rw[b6z m2 g3];refine decide_eq_decide.2 ?_;have hn0:decide (u2-p2<0)=false:=decide_eq_false (by omega);rw[hn0,Bool.false_xor]at q2;rw[hcross,Int.sub_self,Int.zero_mul];generalize 2 ^ (k+1+1)=t at *;generalize 2 ^ (U1-25)=u at *;rcases hx with hx|hx
  ·have hneg:¬V w<0:=by rw[q2];simp;omega
   have:=m3 (by omega);have hm:0<(u2-p2)*(p1-l1):=Int.mul_pos (by omega) (by omega);omega
  ·have hneg:V w<0:=by rw[q2];simp;omega
   have:=m4 (by omega);have hm:(u2-p2)*(p1-l1)<0:=Int.mul_neg_of_pos_of_neg (by omega) (by omega);omega
end Go.Fl

namespace Go.Proofs.Tryz.Sx
open Go Go.Sx Go.Proofs Go.Fl Go.Geo
set_option maxRecDepth 100000
def Ray(q:Nat)(p2 a2 b2:Int):Prop:=(FI q p2/\p2≠a2/\p2≠b2)∨(b4W q p2/\(p2=a2∨p2=b2))
theorem Ray.lt{q y:Nat}{p2 a2 b2 m:Int}(h:Ray q p2 a2 b2)(hy:FI y m):fLt .f64 q y=decide (p2<m):=by
 rcases h with⟨h,_⟩|⟨h,_⟩
 ·exact G3 h hy
 ·exact c1k h hy
theorem Ray.gt{q y:Nat}{p2 a2 b2 m:Int}(h:Ray q p2 a2 b2)(hy:FI y m)(hm:m=a2∨m=b2):fGt .f64 q y=decide (m<=p2):=by
 rcases h with⟨h,h1,h2⟩|⟨h,_⟩
 ·rw[E6 h hy];exact decide_eq_decide.2 (by omega)
 ·exact c0X h hy
theorem b9a{a1 a2 b1 b2 p1 p2:Int}(f:(a2<b2/\a2<=p2/\p2<b2)∨(b2<a2/\b2<=p2/\p2<a2))(h1:a1<=p1)(h2:b1<=p1):¬Lft a1 a2 b1 b2 p1 p2:=by
 intro h;unfold Lft at h;rcases f with⟨f1,f2,f3⟩|⟨f1,f2,f3⟩
 ·have:=a4x f2 f3 h1 h2;omega
 ·have:=a4x f2 f3 h2 h1;omega
theorem c0T{a1 a2 b1 b2 p1 p2:Int}(hn:¬On a1 a2 b1 b2 p1 p2)(f:(a2<b2/\a2<=p2/\p2<b2)∨(b2<a2/\b2<=p2/\p2<a2))(h1:p1<=a1)(h2:p1<=b1):Lft a1 a2 b1 b2 p1 p2:=by
 unfold Lft;rcases f with⟨f1,f2,f3⟩|⟨f1,f2,f3⟩
 ·have:=a6O f2 f3 h1 h2;have:=V6 hn f2 f3;omega
 ·have:=a6O f2 f3 h2 h1;have:=V6 (λh=>hn (a0l.1 h)) f2 f3;omega
theorem d0H{ax ay bx by' px q:Nat}{a1 a2 b1 b2 p1 p2:Int}(hn:¬On a1 a2 b1 b2 p1 p2)(hl:¬Lft a1 a2 b1 b2 p1 p2):Wp Tryz.prog 0 c10 (SR px q ax ay bx by') (KK a1 a2 b1 b2 p1 p2):=by
 refine Wp.run gR ?_;exact⟨decide_eq_false (λhh=>hl hh.2),decide_eq_false hn,trivial⟩
section
variable {ax ay bx by' px py q:Nat} {a1 a2 b1 b2 p1 p2:Int} (H:Pts ax ay bx by' px py a1 a2 b1 b2 p1 p2) (R:Ray q p2 a2 b2) (hn:¬On a1 a2 b1 b2 p1 p2)
include H R hn
set_option maxHeartbeats 4000000 in
theorem d0w(h:(a2<b2/\a2<=p2/\p2<b2)∨(b2<a2/\b2<=p2/\p2<a2)->Wp Tryz.prog 0 c8 (SR px q ax ay bx by') (KK a1 a2 b1 b2 p1 p2)) :
  Wp Tryz.prog 0 c7 (SR px q ax ay bx by') (KK a1 a2 b1 b2 p1 p2):=by
 refine Wp.keep _ (Wp.run gR ?_) h;clear h;have e1:=G3 H.ay H.by';have e2:=R.lt H.ay;have e3:=R.gt H.by' (.inr rfl);have e4:=R.lt H.by';have e5:=R.gt H.ay (.inl rfl)
 repeat' (first|(intro h)|(refine And.intro ?_ ?_))
 all_goals try simp only[e1,e2,e3,e4,e5,decide_eq_true_eq,decide_eq_false_iff_not]at *
 all_goals first
  | exact trivial
  | exact⟨rfl,rfl,rfl,rfl,rfl⟩
  | omega
  | exact decide_eq_false hn
  | exact decide_eq_false (λhh=>by unfold Lft at hh;omega)
set_option maxHeartbeats 4000000 in
theorem c9S(f:(a2<b2/\a2<=p2/\p2<b2)∨(b2<a2/\b2<=p2/\p2<a2))(h:(a1<p1/\p1<b1)∨(b1<p1/\p1<a1)->Wp Tryz.prog 0 c9 (SR px q ax ay bx by') (KK a1 a2 b1 b2 p1 p2)) :
  Wp Tryz.prog 0 c8 (SR px q ax ay bx by') (KK a1 a2 b1 b2 p1 p2):=by
 refine Wp.keep _ (Wp.run gR ?_) h;clear h;have _hR:=R;have r1:=b9a (a1:=a1) (b1:=b1) (p1:=p1) f;have r2:=c0T hn f;have e1:=E6 H.ax H.bx;have e2:=a4o H.px H.ax;have e3:=a3s H.px H.bx;have e4:=a4o H.px H.bx;have e5:=a3s H.px H.ax;clear f
 repeat' (first|(intro h)|(refine And.intro ?_ ?_))
 all_goals try simp only[e1,e2,e3,e4,e5,decide_eq_true_eq,decide_eq_false_iff_not]at *
 all_goals first
  | exact trivial
  | exact⟨rfl,rfl,rfl,rfl,rfl⟩
  | omega
  | exact decide_eq_false hn
  | exact decide_eq_true ⟨hn,r2 (by omega) (by omega)⟩
  | exact decide_eq_false (λhh=>r1 (by omega) (by omega) hh.2)
set_option maxHeartbeats 4000000 in
theorem d1b(f:(a2<b2/\a2<=p2/\p2<b2)∨(b2<a2/\b2<=p2/\p2<a2))(g:(a1<p1/\p1<b1)∨(b1<p1/\p1<a1))(h:¬Lft a1 a2 b1 b2 p1 p2->Wp Tryz.prog 0 c10 (SR px q ax ay bx by') (KK a1 a2 b1 b2 p1 p2)) :
  Wp Tryz.prog 0 c9 (SR px q ax ay bx by') (KK a1 a2 b1 b2 p1 p2):=by
 refine Wp.keep _ (Wp.run gR ?_) h;clear h;have e1:=G3 H.ay H.by';refine And.intro ?_ ?_
 ·intro h;rw[e1]at h;have h:=of_decide_eq_true h;have f:a2<=p2/\p2<b2:=by omega
  obtain⟨s1,s2,s3,s4,key⟩:=c2i H.ax H.ay H.bx H.by' H.px H.ha1 H.ha2 H.hb1 H.hb2 H.hp1 H.hp2 f g (q:=q) (by
   rcases R with⟨h1,h2,h3⟩|⟨h1,h2⟩
   ·exact .inl ⟨h1,h2⟩
   ·exact .inr ⟨h1,by omega⟩)
  have hl:0<=cross a1 a2 b1 b2 p1 p2↔Lft a1 a2 b1 b2 p1 p2:=by
   have:=V6 hn f.1 f.2;unfold Lft;omega
  refine And.intro s1 (And.intro s2 ?_);intro r hr;refine And.intro s3 (And.intro s4 ?_);intro w hw;have hk:=key r w hr hw;refine And.intro ?_ ?_
  ·intro h';rw[hk]at h';exact⟨decide_eq_true ⟨hn,hl.1 (of_decide_eq_true h')⟩,decide_eq_false hn,trivial⟩
  ·intro h';rw[hk]at h';refine And.intro (λhh=>of_decide_eq_false h' (hl.2 hh)) ?_;exact⟨rfl,rfl,rfl,rfl,rfl⟩
 ·intro h;rw[e1]at h;have h:=of_decide_eq_false h;have f:b2<a2/\b2<=p2/\p2<a2:=by omega
  obtain⟨s1,s2,s3,s4,key⟩:=c2i H.bx H.by' H.ax H.ay H.px H.hb1 H.hb2 H.ha1 H.ha2 H.hp1 H.hp2 f.2 (by omega) (q:=q) (by
   rcases R with⟨h1,h2,h3⟩|⟨h1,h2⟩
   ·exact .inl ⟨h1,h3⟩
   ·exact .inr ⟨h1,by omega⟩)
  have hl:0<=cross b1 b2 a1 a2 p1 p2↔Lft a1 a2 b1 b2 p1 p2:=by
   have:=V6 (λh=>hn (a0l.1 h)) f.2.1 f.2.2;unfold Lft;omega
  refine And.intro s1 (And.intro s2 ?_);intro r hr;refine And.intro s3 (And.intro s4 ?_);intro w hw;have hk:=key r w hr hw;refine And.intro ?_ ?_
  ·intro h';rw[hk]at h';exact⟨decide_eq_true ⟨hn,hl.1 (of_decide_eq_true h')⟩,decide_eq_false hn,trivial⟩
  ·intro h';rw[hk]at h';refine And.intro (λhh=>of_decide_eq_false h' (hl.2 hh)) ?_;exact⟨rfl,rfl,rfl,rfl,rfl⟩
theorem b6h:Wp Tryz.prog 0 c7 (SR px q ax ay bx by') (KK a1 a2 b1 b2 p1 p2) :=
 d0w H R hn λf=>c9S H R hn f λg=>d1b H R hn f g λhl=>d0H hn hl
end
theorem c8p{ax ay bx by' px py:Nat}{a1 a2 b1 b2 p1 p2:Int}(H:Pts ax ay bx by' px py a1 a2 b1 b2 p1 p2):Wp Tryz.prog 0 c0 (q9 302 [.agg [.flt .f64 ax, .flt .f64 ay, .flt .f64 bx, .flt .f64 by'], .agg [.flt .f64 px, .flt .f64 py]] [] 0) (KK a1 a2 b1 b2 p1 p2) :=
 a5H _ _ _ _ _ _ _ _ (d0k H λf1=>d0Z H f1 λf2=>d0g H f1 f2 λf3=>d1a H f1 f2 f3 λhn =>
  c9B H (λh=>b6h H (.inl ⟨H.py,h⟩) hn) (λh=>b6h H (.inr ⟨b1n H.py H.hp2,h⟩) hn))
end Go.Proofs.Tryz.Sx

namespace Go.Sx
open Go.RowKit
def U9(b:Bool)(p:Prop):Prop :=
 match b with
 | true=>p
 | false=>False
theorem D9{b:Bool}{p:Prop}(h:U9 b p):b=true/\p:=by
 cases b
 ·exact h.elim
 ·exact⟨rfl,h⟩
def a9f(σ:Sig)(sl:Slots)(N:Nat):Slots->Prop
 | []=>True
 | (t,v') :: r=>match slot sl t with
  | some v=>U9 (v'.und N) (o8 σ v v'/\a9f σ sl N r)
  | none=>False
def a9.undP(N:Nat):a9->Prop
 | .cells l=>U9 (Z2 N l) True
 | .ints _ _ _=>True
 | .flts _ _ _=>True
 | .gen n f=>∀ i,i<n->(f i).und N=true
 | .upto _ l=>U9 (Z2 N l) True
 | .raw _ _ _ _=>True
def b0U(σ:Sig)(H:v5)(N:Nat):v5->Prop
 | []=>True
 | (n,o') :: r=>U9 (Nat.blt n N) (o'.c.undP N/\(match σ n with
  | some m=>match look H m with
   | some o=>obR σ o o'
   | none=>False
  | none=>o'.c.void)/\b0U σ H N r)
theorem a4B{σ:Sig}{sl:Slots}{N:Nat}:∀ {s:Slots},a9f σ sl N s->a3L σ sl N s
 | [],_=>trivial
 | (t,v') :: r,h=>by
  unfold a9f at h;unfold a3L;split at h
  ·rename_i v hv;obtain⟨h1,h2,h3⟩:=D9 h;refine⟨?_,a4B h3⟩
   first|exact⟨h1,h2⟩|(rw[hv];exact⟨h1,h2⟩)
  ·exact h.elim
theorem a9.undP_spec{N:Nat}{c:a9}(h:c.undP N):c.und N:=by
 cases c with
 | cells l=>exact(D9 h).1
 | ints k n g=>trivial
 | flts k n g=>trivial
 | gen n f=>exact h
 | upto n l=>exact(D9 h).1
 | raw ts D sz F=>trivial
theorem a2t{σ:Sig}{H:v5}{N:Nat}:∀ {s:v5},b0U σ H N s->a1e σ H N s
 | [],_=>trivial
 | (n,o') :: r,h=>by
  unfold b0U at h;unfold a1e;obtain⟨h1,h2,h3,h4⟩:=D9 h;exact⟨⟨h1,a9.undP_spec h2,h3⟩,a2t h4⟩
def a4s(N0:Nat)(S S':St):Prop :=
 U9 (Nat.ble N0 S'.N&&(b7K N0 (a2E N0 S S')&&(Nat.beq S'.nt S.nt&&U8 (M9 (a0S (a2E N0 S S')) S'.H))))
  (a9f (a0S (a2E N0 S S')) S.sl S'.N S'.sl/\b0U (a0S (a2E N0 S S')) S.H S'.N S'.H)
theorem F5{N0:Nat}{S S':St}(h:a4s N0 S S'):z5 N0 S S':=by
 obtain⟨h1,h2,h3⟩:=D9 h;simp only[Bool.and_eq_true]at h1;obtain⟨h4,h5,h6,h7⟩:=h1;exact z5.auto ⟨h4,h5,Nat.eq_of_beq_eq_true h6,h7,a4B h2,a2t h3⟩
structure Fam where
 ι:Type
 I:ι->St
 inv:ι->Prop
 μ:ι->Nat
abbrev Ann:=List (Nat×Fam)
def ann:Ann->Nat->Option Fam
 | [],_=>none
 | (m,v) :: r,n=>match Nat.beq m n with
  | true=>some v
  | false=>ann r n
def Z6:Code->Option Nat
 | .region id _ _=>some id
 | .seq x y=>match Z6 x with
  | some i=>some i
  | none=>Z6 y
 | .block _ x=>Z6 x
 | .loop x=>Z6 x
 | _=>none
def b3s(A:Ann)(c:Code):Option Fam :=
 match Z6 c with
 | some i=>ann A i
 | none=>none
structure O9 where
 f:Fam
 cuts:f.ι->Ann
instance:Coe Fam O9:=⟨λf=>⟨f,λ_=>[]⟩⟩
inductive LA where
 | fam (f:O9)
 | unr (l:List Fam)
 | alt (l:List O9)
 | unrD (f:St->List Fam)
 | iter (n:Nat)
instance:Coe O9 LA:=⟨.fam⟩
instance:Coe Fam LA:=⟨λf=>.fam f⟩
abbrev a6X:=List (Nat×LA)
def c7x:a6X->Nat->Option LA
 | [],_=>none
 | (m,v) :: r,n=>match Nat.beq m n with
  | true=>some v
  | false=>c7x r n
def b9g(A:a6X)(c:Code):Option LA :=
 match Z6 c with
 | some i=>c7x A i
 | none=>none
def a1r:Ann->Ann->Ann
 | [],B=>B
 | x :: r,B=>x :: a1r r B
def a6e(N0:Nat)(S:St):List Fam->Prop
 | []=>False
 | J :: _=>∃ i,J.inv i/\a4s N0 S (J.I i)
def a9j(N0:Nat)(run:St->(Xt->St->Prop)->Prop)(K:Xt->St->Prop):List Fam->Prop
 | []=>True
 | J :: r=>(∀ i,J.inv i->run (J.I i) (λe S'=>match e with
  | .normal=>a6e N0 S' r
  | e=>K e S'))/\a9j N0 run K r
def b0K(run:St->(Xt->St->Prop)->Prop)(K:Xt->St->Prop):Nat->St->Prop
 | 0,_=>False
 | n+1,S=>run S (λe S'=>match e with
  | .normal=>b0K run K n S'
  | e=>K e S')
def b1E(N0:Nat)(run:Ann->St->(Xt->St->Prop)->Prop)(S:St)(K:Xt->St->Prop)(J:O9):Prop :=
 (∃ i,J.f.inv i/\a4s N0 S (J.f.I i))/\∀ i,J.f.inv i->run (J.cuts i) (J.f.I i) (λe S'=>match e with
  | .normal=>∃ i',J.f.inv i'/\J.f.μ i'<J.f.μ i/\a4s N0 S' (J.f.I i')
  | e=>K e S')
def b6S(N0:Nat)(run:Ann->St->(Xt->St->Prop)->Prop)(S:St)(K:Xt->St->Prop):List O9->Prop
 | []=>False
 | J :: r=>b1E N0 run S K J∨b6S N0 run S K r
def R8(G:Ctx)(N0:Nat)(A:a6X):Code->Ann->St->(Xt->St->Prop)->Prop
 | .skip,_,S,K=>K .normal S
 | .region _ ops draw,_,S,K=>match draw with
  | false=>a8W G ops.toList ops.toList S (K .normal)
  | true=>b2C G ops.toList S (K .normal) 20 []
 | .seq x y,B,S,K=>match b3s B y with
  | none=>R8 G N0 A x B S (λe S'=>match e with
   | .normal=>R8 G N0 A y B S' K
   | e=>K e S')
  | some J=>R8 G N0 A x B S (λe S'=>match e with
   | .normal=>∃ j,J.inv j/\a4s N0 S' (J.I j)
   | e=>K e S')/\∀ j,J.inv j->R8 G N0 A y B (J.I j) K
 | .cond c x y,B,S,K=>match opr S.sl c with
  | some .tt=>R8 G N0 A x B S K
  | some .ff=>R8 G N0 A y B S K
  | some (.bool b)=>(b=true->R8 G N0 A x B S K)/\(b=false->R8 G N0 A y B S K)
  | _=>False
 | .block id x,B,S,K=>R8 G N0 A x B S (λe S'=>match e with
  | .exit j=>match Nat.beq j id with
   | true=>K .normal S'
   | false=>K (.exit j) S'
  | e=>K e S')
 | .exit id,_,S,K=>K (.exit id) S
 | .ret,_,S,K=>K .ret S
 | .loop x,B,S,K=>match b9g A x with
  | none=>match b3s B x with
   | none=>False
   | some J=>b1E N0 (λB' S' K'=>R8 G N0 A x (a1r B' B) S' K') S K ⟨J,λ_=>[]⟩
  | some (.unr l)=>a6e N0 S l/\a9j N0 (λS' K'=>R8 G N0 A x B S' K') K l
  | some (.unrD f)=>a6e N0 S (f S)/\a9j N0 (λS' K'=>R8 G N0 A x B S' K') K (f S)
  | some (.iter n)=>b0K (λS' K'=>R8 G N0 A x B S' K') K n S
  | some (.fam J)=>b1E N0 (λB' S' K'=>R8 G N0 A x (a1r B' B) S' K') S K J
  | some (.alt l)=>b6S N0 (λB' S' K'=>R8 G N0 A x (a1r B' B) S' K') S K l
 | _,_,_,_=>False
def z7(G:Ctx)(N0:Nat)(A:a6X)(B:Ann)(c:Code)(S:St)(K:Xt->St->Prop):Prop:=R8 G N0 A c B S K
section
variable {P:Program} {G:Ctx}
theorem Wp.refines'{N0:Nat}{S S1:St}{K:Xt->St->Prop}{c:Code}(hr:z5 N0 S S1)(h:Wp P N0 c S1 K):Wp P N0 c S K:=by
 intro W0 Fr ρ0 ρ a w Q hS hN hρ hK;obtain⟨ρ',h1,h2⟩:=hr.2 W0 Fr ρ a w hS;exact h W0 Fr ρ0 ρ' a w Q h1 hr.1 (λn hn=>(h2 n hn).trans (hρ n hn)) hK
theorem Wp.iter{N0:Nat}{x:Code}{K:Xt->St->Prop}{run:St->(Xt->St->Prop)->Prop}(hrun:∀ S K,run S K->Wp P N0 x S K)(n:Nat)(S:St)(h:b0K run K n S):Wp P N0 (.loop x) S K:=by
 intro W0 Fr ρ0 ρ a w Q hS hN hρ hK;refine Y3 (λi a w=>∃ S1 ρ',Sat W0 Fr S1 ρ' a w/\N0<=S1.N/\(∀ n,n<N0->ρ' n=ρ0 n)/\b0K run K i S1) (λi=>i) ?_ (i0:=n) ⟨S,ρ,hS,hN,hρ,h⟩;rintro i a1 w1 ⟨S1,ρ1,hS1,hN1,hρ1,hi⟩
 cases i with
 | zero=>exact(hi:False).elim
 | succ i =>
  refine hrun S1 _ hi W0 Fr ρ0 ρ1 a1 w1 _ hS1 hN1 hρ1 λe S' ρ' a' w' h' hS' hN' hρ'=>?_
  cases e with
  | normal=>exact⟨i,⟨S',ρ',hS',hN',hρ',h'⟩,Nat.lt_succ_self i⟩
  | exit id=>exact hK (.exit id) S' ρ' a' w' h' hS' hN' hρ'
  | ret=>exact hK .ret S' ρ' a' w' h' hS' hN' hρ'
theorem b1Y(hG:v8 P G){N0:Nat}{A:a6X}:∀(c:Code) {B:Ann} {S:St} {K:Xt->St->Prop},R8 G N0 A c B S K->Wp P N0 c S K:=by
 intro c
 induction c with
 | skip=>intro B S K h;exact Wp.run hG h
 | region id ops draw=>intro B S K h;exact Wp.run hG h
 | seq x y ihx ihy =>
  intro B S K h;unfold R8 at h;split at h
  ·exact Wp.seq (ihx h) (λS' h'=>ihy h') (λ_ _ h=>h) (λ_ h=>h)
  ·rename_i J hJ;obtain⟨h1,h2⟩:=h;refine Wp.seq (ihx h1) (λS' h'=>?_) (λ_ _ h=>h) (λ_ h=>h);obtain⟨j,hj,hf⟩:=h';exact Wp.refines' (F5 hf) (ihy (h2 j hj))
 | cond c x y ihx ihy =>
  intro B S K h W0 Fr ρ0 ρ a w Q hS hN hρ hK;unfold R8 at h;split at h
  ·rename_i hv;exact wp_cond_true (by simpa [SV.den]using (F1 hS.s hv).1) (ihx h W0 Fr ρ0 ρ a w Q hS hN hρ hK)
  ·rename_i hv;exact wp_cond_false (by simpa [SV.den]using (F1 hS.s hv).1) (ihy h W0 Fr ρ0 ρ a w Q hS hN hρ hK)
  ·rename_i b hv;have hb:=(F1 hS.s hv).1;simp only[SV.den]at hb;exact wp_cond_split hb (λe=>ihx (h.1 e) W0 Fr ρ0 ρ a w Q hS hN hρ hK) (λe=>ihy (h.2 e) W0 Fr ρ0 ρ a w Q hS hN hρ hK)
  ·exact h.elim
 | block id x ih =>
  intro B S K h;exact Wp.block (ih h)
 | exit id=>intro B S K h;exact Wp.run hG h
 | ret=>intro B S K h;exact Wp.run hG h
 | loop x ih =>
  intro B S K h
  have hfam:∀ J:O9,b1E N0 (λB' S' K'=>R8 G N0 A x (a1r B' B) S' K') S K J->Wp P N0 (.loop x) S K:=by
   intro J h;obtain⟨⟨i0,h0,hf⟩,hr⟩:=h;refine Wp.loop (ι:={i:J.f.ι // J.f.inv i}) (λi=>J.f.I i.1) (λi=>J.f.μ i.1) ⟨i0,h0⟩ (F5 hf) λi=>?_
   refine Wp.mono (ih (hr i.1 i.2)) λe S' h'=>?_
   cases e with
   | normal =>
    obtain⟨i',h1,h2,h3⟩:=h';exact⟨⟨i',h1⟩,h2,F5 h3⟩
   | exit id=>exact h'
   | ret=>exact h'
  have hunr:∀ l:List Fam,(a6e N0 S l/\a9j N0 (λS' K'=>R8 G N0 A x B S' K') K l)->Wp P N0 (.loop x) S K:=by
   intro l h;obtain⟨h0,h1⟩:=h
   have key:∀(l:List Fam),a9j N0 (λS' K'=>R8 G N0 A x B S' K') K l->∀(k:Nat)(J:Fam),l[k]? = some J->∀ i,J.inv i->Wp P N0 x (J.I i) (λe S'=>match e with
     | .normal=>∃ J':Fam,l[k+1]? = some J'/\∃ i',J'.inv i'/\a4s N0 S' (J'.I i')
     | e=>K e S'):=by
    intro l
    induction l with
    | nil=>intro _ k J hk;simp at hk
    | cons J0 r ihl =>
     intro hu k J hk i hi;obtain⟨hu1,hu2⟩:=hu
     cases k with
     | zero =>
      simp only[List.getElem?_cons_zero,Option.some.injEq]at hk;subst hk;refine Wp.mono (ih (hu1 i hi)) λe S' h'=>?_
      cases e with
      | normal =>
       cases r with
       | nil=>exact(h':False).elim
       | cons J1 r1=>exact⟨J1,rfl,h'⟩
      | exit id=>exact h'
      | ret=>exact h'
     | succ k =>
      simp only[List.getElem?_cons_succ]at hk;refine Wp.mono (ihl hu2 k J hk i hi) λe S' h'=>?_
      cases e with
      | normal =>
       obtain⟨J',h2,h3⟩:=h';exact⟨J',by simpa using h2,h3⟩
      | exit id=>exact h'
      | ret=>exact h'
   cases l with
   | nil=>exact(h0:False).elim
   | cons J0 r =>
    obtain⟨i0,hi0,hf⟩:=h0;refine Wp.loop (ι:={q:(Σ k:Fin (J0 :: r).length,((J0 :: r).get k).ι) // ((J0 :: r).get q.1).inv q.2}) (λq=>((J0 :: r).get q.1.1).I q.1.2) (λq=>(J0 :: r).length-q.1.1.val) ⟨⟨⟨0,Nat.succ_pos _⟩,i0⟩,hi0⟩ (F5 hf) λq=>?_
    obtain⟨⟨⟨k,hk⟩,i⟩,hi⟩:=q;refine Wp.mono (key _ h1 k _ (List.getElem?_eq_getElem hk) i hi) λe S' h'=>?_
    cases e with
    | normal =>
     obtain⟨J',h2,i',h3,h4⟩:=h';obtain⟨hlt,h5⟩:=List.getElem?_eq_some_iff.1 h2;subst h5;exact⟨⟨⟨⟨k+1,hlt⟩,i'⟩,h3⟩,by show (J0 :: r).length-(k+1)<(J0 :: r).length-k;omega,F5 h4⟩
    | exit id=>exact h'
    | ret=>exact h'
  unfold R8 at h;split at h
  ·split at h
   ·exact h.elim
   ·rename_i J hJ;exact hfam ⟨J,λ_=>[]⟩ h
  ·rename_i l hl;exact hunr l h
  ·rename_i f hf;exact hunr (f S) h
  ·rename_i n hn;exact Wp.iter (λS K=>ih) n S h
  ·rename_i J hJ;exact hfam J h
  ·rename_i l hl
   have:∀ l:List O9,b6S N0 (λB' S' K'=>R8 G N0 A x (a1r B' B) S' K') S K l->Wp P N0 (.loop x) S K:=by
    intro l
    induction l with
    | nil=>intro h;exact(h:False).elim
    | cons J r ihl =>
     intro h;rcases h with h|h
     ·exact hfam J h
     ·exact ihl h
   exact this l h
 | _=>intro B S K h;exact(h:False).elim
theorem a6q(hG:v8 P G){N0:Nat}{A:a6X}{B:Ann}(c:Code){S:St}{K:Xt->St->Prop}(h:z7 G N0 A B c S K):Wp P N0 c S K:=b1Y hG c h
end
def w0(k:Nat)(hc:HC)(S:St)(v:SV):Prop :=
 U9 (hc.val.und (k+24)&&U8 (M9 (J9 k (a8m k hc S v)) (hc.wr++hc.news)))
  (o8 (J9 k (a8m k hc S v)) v hc.val/\b0U (J9 k (a8m k hc S v)) S.H (k+24) (hc.wr++hc.news))
theorem a2m{k:Nat}{hc:HC}{S:St}{v:SV}(h:w0 k hc S v):∃ tau,a0g k hc S v tau:=by
 obtain⟨h1,h2,h3⟩:=D9 h;simp only[Bool.and_eq_true]at h1;exact⟨_,h2,h1.1,a2t h3,h1.2⟩
theorem Q9{fn:Func}(hb:fn.body.isNone=false):fn.body=some (j3 fn):=by
 unfold j3
 cases h:fn.body with
 | none=>rw[h]at hb;cases hb
 | some c=>rfl
theorem v7 {P:Program} {G:Ctx} (hG:v8 P G) {f:Nat} {fn:Func} (hf:P.funcs[f]? = some fn) (hb:fn.body.isNone=false) (hnm:(fn.name == "runtime.NumGoroutine")=false) {F:PF}
  (h:∀ args v p,F args=some (v,p)->okP p->(v.closed&&(C4 args&&Nat.ble args.length fn.ntmps))=true/\
   ∃ A B,z7 G 0 A B (j3 fn) (q9 fn.ntmps args [] 0) (r6 G.E.T fn.results.toList λ_ v'=>eqv v' v)):y7 P f F :=
 a5R hG hf (Q9 hb) hnm λargs v p hF hp=>by
  obtain⟨h1,A,B,h2⟩:=h args v p hF hp;simp only[Bool.and_eq_true]at h1;exact⟨h1.1,h1.2.1,h1.2.2,a6q hG _ h2⟩
def c0x(σ:Sig)(N:Nat):Nat->List (Nm×Ob)->v5->Prop
 | _,[],[]=>True
 | i,(_,o) :: r,(j,o') :: r'=>U9 (Nat.beq i j) (o'.c.undP N/\obR σ o o'/\c0x σ N (i+1) r r')
 | _,_,_=>False
theorem a0a{σ:Sig}{N:Nat}:∀ {i:Nat} {r:List (Nm×Ob)} {h:v5},c0x σ N i r h->a5o σ N i r h
 | _,[],[],_=>trivial
 | i,(_,o) :: r,(j,o') :: r',h=>by
  obtain⟨h1,h2,h3,h4⟩:=D9 h;exact⟨h1,a9.undP_spec h2,h3,a0a h4⟩
 | _,[],_ :: _,h=>h.elim
 | _,_ :: _,[],h=>h.elim
def c6f(fn:Func)(args:List SV)(acc:List (Nm×Ob))(hc:HC):Prop :=
 U9 (Z2 acc.length hc.args&&(Nat.ble hc.args.length fn.ntmps&&(a1v acc.length hc.heap hc.wr&&(a1n acc.length hc.news&&b0W hc.wr hc.heap))))
  (j9 (o9 (p7 acc)) args hc.args/\c0x (o9 (p7 acc)) acc.length 0 acc hc.heap)
theorem j8 {P:Program} {G:Ctx} (hG:v8 P G) {f:Nat} {fn:Func} (hf:P.funcs[f]? = some fn) (hb:fn.body.isNone=false) (hnm:(fn.name == "runtime.NumGoroutine")=false) {C:List SV->RdM}
  (h:∀ args,(C args).All (λacc hc=>okP hc.obl->c6f fn args acc hc/\
   ∃ A B,z7 G acc.length A B (j3 fn) (q9 fn.ntmps hc.args hc.heap acc.length) (r6 G.E.T fn.results.toList λS v=>w0 acc.length hc S v)) []):q7 P f (p9 C) :=
 b0q hG hf (Q9 hb) hnm λargs=>(h args).imp λacc hc hk ho=>by
  obtain⟨h1,A,B,h2⟩:=hk ho;obtain⟨h3,h4,h5⟩:=D9 h1;simp only[Bool.and_eq_true]at h3;exact⟨h4,h3.1,h3.2.1,a0a h5,h3.2.2.1,h3.2.2.2.1,h3.2.2.2.2,Wp.mono (a6q hG _ h2) λe S' hk'=>Z5 (λ_ _=>a2m) hk'⟩
theorem g9{b:Bool}{p:Prop}(h:b=true)(hp:p):U9 b p:=by subst h;exact hp
theorem C7{σ:Sig}{v:SV}{b:Bool}(h:v.toB=some b):o8 σ v (.bool b):=by
 cases v <;> simp_all[SV.toB,o8]
end Go.Sx

namespace Go.Sx
open Go.RowKit
section
variable {P:Program}
theorem a3d:∀ {n:List Bool} {xs:List SV},R0 n xs=true->xs.length=n.length
 | [],[],_=>rfl
 | [],_ :: _,h=>by simp[R0]at h
 | _ :: _,[],h=>by simp[R0]at h
 | k :: ks,v :: r,h=>by
  unfold R0 at h;split at h
  ·simp only[Bool.and_eq_true]at h;simp[a3d h.2]
  ·simp only[Bool.and_eq_true]at h;simp[a3d h.2]
  ·cases h
theorem a1s:∀ {n m:List Bool} {xs:List SV},R0 (n++m) xs=true->∃ a b,xs=a++b/\R0 n a=true/\R0 m b=true
 | [],m,xs,h=>⟨[],xs,rfl,rfl,h⟩
 | k :: n,m,[],h=>by simp[R0]at h
 | k :: n,m,v :: r,h=>by
  unfold R0 at h;simp only[List.cons_append]at h;split at h
  ·simp only[Bool.and_eq_true]at h;obtain⟨a,b,rfl,h1,h2⟩:=a1s h.2;exact⟨_ :: a,b,rfl,by simp[R0,h.1,h1],h2⟩
  ·simp only[Bool.and_eq_true]at h;obtain⟨a,b,rfl,h1,h2⟩:=a1s h.2;refine⟨_ :: a,b,rfl,?_,h2⟩;have:=h.1;simp at this;simp[R0,this,h1]
  ·cases h
theorem a5J:∀ {a b ys:List SV} {r:Bool},lEq (a++b) ys=some r->∃ c d r0 r1,ys=c++d/\lEq a c=some r0/\lEq b d=some r1/\r=(r0&&r1)
 | [],b,ys,r,h=>⟨[],ys,true,r,rfl,by simp[lEq],h,by simp⟩
 | x :: a,b,ys,r,h=>by
  obtain⟨y,ys',b0,b1,rfl,h1,h2,rfl⟩:=a2T h;obtain⟨c,d,r0,r1,rfl,h3,h4,rfl⟩:=a5J h2;exact⟨y :: c,d,b0&&r0,r1,rfl,by simp[lEq,h1,h3],h4,by simp[Bool.and_assoc]⟩
theorem a9A:∀ {a c:List SV} {r:Bool},lEq a c=some r->c.length=a.length
 | [],c,r,h=>by obtain⟨rfl,_⟩:=b3V h;rfl
 | x :: a,c,r,h=>by
  obtain⟨y,ys',b0,b1,rfl,h1,h2,rfl⟩:=a2T h;simp[a9A h2]
theorem b1l:∀(x pre post:List SV),a9.getN (.cells (pre++x++post)) pre.length x.length=some x
 | [],_,_=>by simp[a9.getN]
 | v :: x,pre,post=>by
  simp only[List.length_cons,a9.getN,a9.get,B6];have h1:(pre++v :: x++post)[pre.length]? = some v:=by simp
  rw[h1];have h2:=b1l x (pre++[v]) post;simp only[List.length_append,List.length_cons,List.length_nil,Nat.zero_add,List.append_assoc,List.cons_append,List.nil_append]at h2;simp only[List.append_assoc,List.cons_append];rw[h2]
theorem a2M{T:Tys}(hT:TysOk P T){e:Nat}{te:TI}(ht:ty T e=some te)(ha:te.isAgg=true){pre x post:List SV}(hs:te.size=x.length)(ρ:Rho)(w:World) :
  (part e (m9 ρ (pre++x++post)).toArray pre.length).run P w=.ok (.agg (m9 ρ x).toArray) w:=by
 have:=(S0 (U:=λ_=>True) hT (cs:=pre++x++post) (by rw[E0];exact λv _=>SV.bd_all v) (e:=e) (o:=pre.length) (v:=.agg x)
  (by simp only[a3O,ht,ha,cut,hs];rw[b1l]) ρ w).1
 simpa [SV.den]using this
theorem b4K{T:Tys}(hT:TysOk P T){t e:Nat}{te:TI}{n:List Bool}{D:Nat}(hu:P.underlying t=some (.array 2 e))(ht:ty T e=some te)(ha:te.isAgg=true)(hs:te.size=n.length)
  (he:FE P e n D):FE P t (n++n) (D+1):=by
 intro d xs ys b hx h ρ w;obtain⟨a,c,rfl,h1,h2⟩:=a1s hx;obtain⟨a',c',r0,r1,rfl,h3,h4,rfl⟩:=a5J h;obtain⟨i,hi,hsz,_⟩:=(hT e te ht).run_info;have hc:P.cellsOf e=te.size:=by simp[Program.cellsOf,hi,hsz]
 have la:=a3d h1;have lc:=a3d h2;have la':=a9A h3;have lc':=a9A h4;rw[show d+(D+1)=(d+D)+1 from rfl,run_equalIn_array w (d+D) _ _ hu hi,hc];have p0:=a2M hT ht ha (pre:=[]) (x:=a) (post:=c) (by omega) ρ w;have p1:=a2M hT ht ha (pre:=[]) (x:=a') (post:=c') (by omega) ρ w;have p2:=a2M hT ht ha (pre:=a) (x:=c) (post:=[]) (by omega) ρ w;have p3:=a2M hT ht ha (pre:=a') (x:=c') (post:=[]) (by omega) ρ w;simp only[List.nil_append,List.append_nil,List.length_nil]at p0 p1 p2 p3;rw[show a.length=te.size by omega]at p2;rw[show a'.length=te.size by omega]at p3
 have hr:List.range 2=[0,1]:=rfl;simp only[hr,Op.eqItems,Sem.run_bind,Nat.zero_mul,p0,p1,Result.andThen_ok,he d a a' r0 h1 h3 ρ w];cases r0
 ·simp
 ·simp only[Bool.not_true,Bool.false_eq_true,if_false,Sem.run_bind,Nat.one_mul,p2,p3,Result.andThen_ok,he d c c' r1 h2 h4 ρ w];cases r1 <;> simp
end
end Go.Sx

namespace Go.Proofs.Tryz.Sx
open Go Go.Sx Go.Proofs
set_option maxRecDepth 100000
def G0:Ctx:=⟨⟨tys,[]⟩,[]⟩
theorem g0:v8 Tryz.prog G0:=⟨⟨z6,FlatsOk.nil⟩,g8.nil,by kernel_rfl⟩
def c3Q(len:Nat)(g:Nat->Int):Fam:=⟨Nat,λi =>
 ⟨18,[(3, .slcc 1 i),(6, .slcc 0 len),(7, .int .i64 len),(8, .int .i64 i)],[(0,⟨false,23, .ints .i64 (2*len) g,0⟩),(1,⟨true,28, .ints .i64 (2*i) g,2⟩)],2⟩,λi=>i<=len,λi=>len-i⟩
theorem b0r{i:Nat}{g:Nat->Int}{x y:Int}(hx:x=g (2*i))(hy:y=g (2*i+1)):∀ j,j<2*(i+1)->y6 (2*i) g [x,y] 0 j=g j:=by
 intro j hj;subst hx hy;unfold y6;split
 ·rfl
 ·have:j=2*i∨j=2*i+1:=by omega
  rcases this with rfl|rfl <;> simp
noncomputable def b1u:List SV->RdM
 | [.slcc n len]=>.read n λo0=>(match o7 .i64 o0.c with
  | some (m0,g)=>.ret ⟨[.slcc 0 len],[(0,⟨false,23, .ints .i64 m0 g,0⟩)], .slcc 1 len,[],[(1,⟨true,28, .ints .i64 (2*len) g,2⟩)],some (m0=2*len/\len<=2147483647)⟩
  | none=>.fail)
 | _=>.fail
theorem b6Q(len:Nat)(g:Nat->Int){w9:HC}(e9:w9=⟨[.slcc 0 len],[(0,⟨false,23, .ints .i64 (2*len) g,0⟩)], .slcc 1 len,[],[(1,⟨true,28, .ints .i64 (2*len) g,2⟩)],some (2*len=2*len/\len<=2147483647)⟩){T1}(t1:T1=(↑len:Int)){T2}(t2:T2=λ(i:Nat)=>(↑i:Int))
 {T3}(t3:T3=λ(i:Nat)=>(2*len<=2*len/\∀(i:Nat),i<2*len->g i=g i)):z7 G0 1 [(3,c3Q len g)] [] (j3 Tryz.f16) (q9 Tryz.f16.ntmps w9.args w9.heap 1) (r6 G0.E.T Tryz.f16.results.toList λS v=>w0 1 w9 S v)=(
 (∃(i:Nat),i<=len/\(i=0/\(True/\len=len)/\T1=T1/\0=(T2 i)/\True)/\True/\(T3 i)/\True/\2*i=0/\True)/\∀(i:Nat),i<=len->(decide ((T2 i)<T1)=true->((0<=(T2 i)/\(T2 i)<T1)/\1<=2*len)/\0+Int.toNat (T2 i) *
 2+2<=2*len/\(2*i=i*2/\(i+1)*16<=140737488355328/\i+1<=9223372036854775807)/\∃(i':Nat),i'<=len/\len-i'<len-i/\((True/\i+1=i')/\(True/\len=len)/\T1=T1/\IntKind.wrap .i64 ((T2 i)+1)=(↑i':Int)/\
 True)/\True/\(T3 i)/\True/\(28=28/\2=2/\2*i'<=2*i+List.length [g (0+Int.toNat (T2 i)*2),g (0+Int.toNat (T2 i)*2+1)]/\∀(i_1:Nat),i_1<2*i'->y6 (2*i) g [g (0+Int.toNat (T2 i)*2),g (0+Int.toNat (T2 i)*2
 + 1)] (0:Int) i_1=g i_1)/\True)/\(decide ((T2 i)<T1)=false->(True/\i=len)/\True/\(28=28/\2=2/\2*len<=2*i/\∀(i:Nat),i<2*len->g i=g i)/\True)):=by subst e9 t1 t2 t3;kernel_rfl
theorem c6K:q7 Tryz.prog 16 (p9 b1u):=by
 refine j8 g0 Tryz.func16 rfl (by kernel_rfl) λargs=>?_
 unfold b1u;split
 ·rename_i n len;intro o0;try dsimp only
  split
  ·rename_i m0 g hm0;intro ho;replace ho:m0=2*len/\len<=2147483647:=ho;obtain⟨hsz0,ho⟩:=ho;subst hsz0;refine⟨?_,_,_,(b6Q len g rfl rfl rfl rfl).mpr ?_⟩
   ·refine g9 rfl ⟨?_,⟨trivial,(o5 hm0).1,trivial⟩⟩;simp[j9,o8,o9,p7,nth,a8]
   ·refine⟨⟨0,by simp⟩,λi hi=>⟨λh=>?_,λh=>?_⟩⟩
    ·have h:=of_decide_eq_true h;have e:0+(i:Int).toNat*2=2*i:=by omega
     refine⟨by omega,by omega,by omega,i+1,by omega,by omega,⟨⟨trivial,rfl⟩,⟨trivial,rfl⟩,rfl,?_,trivial⟩,trivial,⟨Nat.le_refl _,λ_ _=>rfl⟩,trivial,⟨rfl,rfl,?_,?_⟩,trivial⟩
     ·rw[j5 (by omega) (by omega)];omega
     ·show 2*(i+1)<=2*i+2;omega
     ·exact b0r (by rw[e]) (by rw[e])
    ·have h:=of_decide_eq_false h;have:i=len:=by omega
     subst this;exact⟨⟨trivial,rfl⟩,trivial,⟨rfl,rfl,Nat.le_refl _,λ_ _=>rfl⟩,trivial⟩
  ·trivial
 ·trivial
end Go.Proofs.Tryz.Sx

namespace Go.Proofs.Tryz.Sx
open Go Go.Sx Go.Proofs Go.Fl Go.Geo
set_option maxRecDepth 100000
def j7(n:Int):Prop := -1048576<=n/\n<=1048576
instance (n:Int):Decidable (j7 n):=by unfold j7;infer_instance
def F6(m:Nat)(g:Nat->Int):Bool:=decide (∀ i,i<m->j7 (g i))
def c5D(len:Nat)(g:Nat->Int)(i:Nat):St :=
 ⟨30,[(5, .slcc 0 len),(6, .int .i64 len),(7, .int .i64 i)],[(0,⟨false,28, .ints .i64 (2*len) g,0⟩)],1⟩
theorem b5d(len:Nat)(g:Nat->Int)(hlen:len<=1000000)(K:St->SV->Prop)(hK:∀ S,K S (.bool (F6 (2*len) g)))(hK1:F6 (2*len) g=true->∀ S,K S .tt)(hK0:F6 (2*len) g=false->∀ S,K S .ff) :
 a0k G0 1 (j3 Tryz.f19) (q9 30 [.slcc 0 len] [(0,⟨false,28, .ints .i64 (2*len) g,0⟩)] 1) (r6 G0.E.T Tryz.f19.results.toList K):=by
 apply b8K.mk
 refine⟨{i:Nat // i<=len/\∀ j,j<2*i->j7 (g j)},λi=>c5D len g i.1,λi=>len-i.1,⟨0,Nat.zero_le _,λj hj=>by omega⟩,?_,?_⟩
 ·refine z5.by_names [] ⟨rfl,rfl,rfl,rfl,?_,?_⟩
  ·exact⟨⟨rfl,trivial,rfl⟩,⟨rfl,rfl⟩,⟨rfl,rfl⟩,trivial⟩
  ·exact⟨⟨rfl,trivial,Nat.le_refl _,λ_ _=>rfl⟩,trivial⟩
 ·rintro⟨i,hi,hs⟩;have bad:∀ j,j<2*len->¬j7 (g j)->F6 (2*len) g=false:=λj hj hb=>decide_eq_false (λh=>hb (h j hj))
  refine And.intro ?_ ?_
  ·intro h;have h:(i:Int)<len:=of_decide_eq_true h;have h0:0+((i:Int)).toNat*2=2*i:=by omega
   refine And.intro (And.intro (And.intro (Int.natCast_nonneg _) h) (show 0<2*len by omega)) ?_;refine And.intro (show 0+((i:Int)).toNat*2+2<=2*len by omega) ?_;have b0:=bad (2*i) (by omega);have b1:=bad (2*i+1) (by omega);refine And.intro ?_ ?_
   ·intro h1;have h1:g (0+((i:Int)).toNat*2) < -1048576:=of_decide_eq_true h1;rw[h0]at h1;exact hK0 (b0 (λhh=>by unfold j7 at hh;omega)) _
   ·intro h1;have h1:¬g (0+((i:Int)).toNat*2) < -1048576:=of_decide_eq_false h1;refine And.intro ?_ ?_
    ·intro h2;have h2:1048576<g (0+((i:Int)).toNat*2):=of_decide_eq_true h2;rw[h0]at h2;exact hK0 (b0 (λhh=>by unfold j7 at hh;omega)) _
    ·intro h2;have h2:¬1048576<g (0+((i:Int)).toNat*2):=of_decide_eq_false h2;refine And.intro ?_ ?_
     ·intro h3;have h3:g (0+((i:Int)).toNat*2+1) < -1048576:=of_decide_eq_true h3;rw[h0]at h3;exact hK0 (b1 (λhh=>by unfold j7 at hh;omega)) _
     ·intro h3;have h3:¬g (0+((i:Int)).toNat*2+1) < -1048576:=of_decide_eq_false h3;refine And.intro ?_ ?_
      ·intro h4;have h4:1048576<g (0+((i:Int)).toNat*2+1):=of_decide_eq_true h4;rw[h0]at h4;exact hK0 (b1 (λhh=>by unfold j7 at hh;omega)) _
      ·intro h4;have h4:¬1048576<g (0+((i:Int)).toNat*2+1):=of_decide_eq_false h4;rw[h0]at h1 h2 h3 h4;refine⟨⟨i+1,by omega,λj hj=>?_⟩,by show len-(i+1)<len-i;omega,z5.by_names [] ⟨rfl,rfl,rfl,rfl,?_,?_⟩⟩
       ·have:j<2*i∨j=2*i∨j=2*i+1:=by omega
        rcases this with h|rfl|rfl
        ·exact hs j h
        ·unfold j7;omega
        ·unfold j7;omega
       ·refine⟨⟨rfl,trivial,rfl⟩,⟨rfl,rfl⟩,⟨rfl,?_⟩,trivial⟩;show IntKind.i64.wrap ((i:Int)+1)=((i+1:Nat):Int);rw[j5 (by omega) (by omega)];omega
       ·exact⟨⟨rfl,trivial,Nat.le_refl _,λ_ _=>rfl⟩,trivial⟩
  ·intro h;have h:¬((i:Int)<len):=of_decide_eq_false h;have:i=len:=by omega
   subst this;exact hK1 (decide_eq_true hs) _
def a8p:List SV->RdM
 | [.slcc n len]=>.read n λo=>match o7 .i64 o.c with
  | some (m,g)=>.ret ⟨[.slcc 0 len],[(0,⟨false,28, .ints .i64 m g,0⟩)], .bool (F6 m g),[],[],some (m=2*len/\len<=1000000)⟩
  | none=>.fail
 | _=>.fail
theorem c1T:q7 Tryz.prog 19 (p9 a8p):=by
 refine c1c g0 Tryz.func19 rfl (by kernel_rfl) λargs=>?_
 unfold a8p;split
 ·rename_i n len;intro o;try dsimp only
  split
  ·rename_i m g hm;rintro⟨h1,h2⟩;subst h1;refine⟨?_,rfl,rfl,?_,rfl,rfl,rfl,?_⟩
   ·exact⟨⟨a8,rfl⟩,trivial⟩
   ·exact⟨rfl,trivial,(o5 hm).1,trivial⟩
   ·exact b5d len g h2 _ (λS=>⟨[],rfl,rfl,trivial,rfl⟩) (λh S=>⟨[],h,rfl,trivial,rfl⟩) (λh S=>⟨[],h,rfl,trivial,rfl⟩)
  ·trivial
 ·trivial
def B9(a b c d e f:Int):Prop:=(j7 a/\j7 b)/\(j7 c/\j7 d)/\(j7 e/\j7 f)
theorem a1N{x y:Int}{m n:Nat}(hx:x.natAbs<=m)(hy:y.natAbs<=n) : -((m*n:Nat):Int)<=x*y/\x*y<=((m*n:Nat):Int):=by
 have:=Nat.mul_le_mul hx hy;rw[<-Int.natAbs_mul]at this;omega
theorem b2Q{ax ay bx by' px py:Int}(h:B9 ax ay bx by' px py) :
  IntKind.i64.wrap (IntKind.i64.wrap (IntKind.i64.wrap (bx-ax)*IntKind.i64.wrap (py-ay))-IntKind.i64.wrap (IntKind.i64.wrap (by'-ay)*IntKind.i64.wrap (px-ax)))=cross ax ay bx by' px py:=by
 unfold B9 j7 at h;have m1:=a1N (show (bx-ax).natAbs<=2097152 by omega) (show (py-ay).natAbs<=2097152 by omega);have m2:=a1N (show (by'-ay).natAbs<=2097152 by omega) (show (px-ax).natAbs<=2097152 by omega);have w1:IntKind.i64.wrap (bx-ax)=bx-ax:=j5 (by omega) (by omega);have w2:IntKind.i64.wrap (py-ay)=py-ay:=j5 (by omega) (by omega);have w3:IntKind.i64.wrap (by'-ay)=by'-ay:=j5 (by omega) (by omega);have w4:IntKind.i64.wrap (px-ax)=px-ax:=j5 (by omega) (by omega);rw[w1,w2,w3,w4]
 rw[j5 (n:=(bx-ax)*(py-ay)) (by omega) (by omega),j5 (n:=(by'-ay)*(px-ax)) (by omega) (by omega),j5 (by omega) (by omega)];rfl
def b3L:PF:=fun
 | [.agg [.int .i64 ax, .int .i64 ay], .agg [.int .i64 bx, .int .i64 by'], .agg [.int .i64 px, .int .i64 py]] =>
  some (.int .i64 (cross ax ay bx by' px py),some (B9 ax ay bx by' px py))
 | _=>none
theorem c7w:y7 Tryz.prog 87 b3L:=by
 refine F0 g0 Tryz.func87 rfl (by kernel_rfl) ?_;intro args v p h hp;unfold b3L at h;split at h
 ·injection h with h;injection h with h1 h2;subst h1;subst h2
  exact⟨rfl,rfl,rfl,b2Q hp⟩
 ·cases h
theorem b9P{x y z:Int}:a7f x y<=z↔x<=z∨y<=z:=by unfold a7f;split <;> omega
theorem c1f{x y z:Int}:z<=a7h x y↔z<=x∨z<=y:=by unfold a7h;split <;> omega
def a8C:PF:=fun
 | [.agg [.int .i64 ax, .int .i64 ay], .agg [.int .i64 bx, .int .i64 by'], .agg [.int .i64 px, .int .i64 py]] =>
  some (.bool (decide (btw ax bx px/\btw ay by' py)),none)
 | _=>none
theorem c4T:y7 Tryz.prog 70 a8C:=by
 refine F0 g0 Tryz.func70 rfl (by kernel_rfl) ?_;intro args v p h hp;unfold a8C at h;split at h
 ·injection h with h;injection h with h1 h2;subst h1;subst h2
  refine⟨rfl,rfl,rfl,?_⟩
  repeat' (first|(intro h)|(refine And.intro ?_ ?_))
  all_goals (show (_:Bool)=_)
  all_goals simp only[b9P,c1f,decide_eq_true_eq,decide_eq_false_iff_not]at *
  all_goals first
   | (intro hh;unfold btw at hh;omega)
   | exact decide_eq_decide.2 (by unfold btw;omega)
 ·cases h
def GQ:Ctx:=⟨⟨tys,[]⟩,[(70,l8 a8C),(87,l8 b3L)]⟩
theorem gQ:v8 Tryz.prog GQ:=⟨⟨z6,FlatsOk.nil⟩,g8.cons (.pure c4T) (g8.cons (.pure c7w) g8.nil),by kernel_rfl⟩
def onF:PF:=fun
 | [.agg [.int .i64 ax, .int .i64 ay], .agg [.int .i64 bx, .int .i64 by'], .agg [.int .i64 px, .int .i64 py]] =>
  some (.bool (decide (On ax ay bx by' px py)),some (B9 ax ay bx by' px py))
 | _=>none
theorem on:y7 Tryz.prog 71 onF:=by
 refine F0 gQ Tryz.func71 rfl (by kernel_rfl) ?_;intro args v p h hp;unfold onF at h;split at h
 ·rename_i ax ay bx by' px py;injection h with h;injection h with h1 h2;subst h1;subst h2
  have hp:B9 _ _ _ _ _ _:=hp;refine⟨rfl,rfl,rfl,?_⟩;refine And.intro ?_ ?_
  ·intro h;have h:=of_decide_eq_true h;refine And.intro hp ?_;show (cross ax ay bx by' px py==0)=decide (On ax ay bx by' px py);by_cases hc:cross ax ay bx by' px py=0
   ·rw[decide_eq_true (show On ax ay bx by' px py from⟨h.1,h.2,hc⟩),hc];rfl
   ·rw[decide_eq_false (show ¬On ax ay bx by' px py from λhh=>hc hh.2.2)];simpa using hc
  ·intro h;have h:=of_decide_eq_false h;exact decide_eq_false (λhh=>h ⟨hh.1,hh.2.1⟩)
 ·cases h
def ptF:PF:=fun
 | [.agg [.int .i64 x, .int .i64 y]]=>some (.agg [.flt .f64 (ofI .f64 x), .flt .f64 (ofI .f64 y)],none)
 | _=>none
theorem pt:y7 Tryz.prog 75 ptF:=by
 refine F0 g0 Tryz.func75 rfl (by kernel_rfl) ?_;intro args v p h hp;unfold ptF at h;split at h
 ·injection h with h;injection h with h1 h2;subst h1;subst h2
  refine⟨rfl,rfl,rfl,?_⟩;exact⟨rfl,rfl,trivial⟩
 ·cases h
noncomputable def wh(x:Nat):Int:=V x / 2 ^ U1
theorem a2B{x:Nat}{n:Int}(h:FI x n):wh x=n:=by
 unfold wh;rw[h.2];exact Int.mul_ediv_cancel _ (Int.ne_of_gt (C6 U1))
noncomputable def b4O:PF:=fun
 | [.agg [.flt .f64 ax, .flt .f64 ay, .flt .f64 bx, .flt .f64 by'], .agg [.flt .f64 px, .flt .f64 py]] =>
  some (.agg [.bool (decide (¬On (wh ax) (wh ay) (wh bx) (wh by') (wh px) (wh py)/\Lft (wh ax) (wh ay) (wh bx) (wh by') (wh px) (wh py))), .bool (decide (On (wh ax) (wh ay) (wh bx) (wh by') (wh px) (wh py)))],
   some (Pts ax ay bx by' px py (wh ax) (wh ay) (wh bx) (wh by') (wh px) (wh py)))
 | _=>none
theorem ray:y7 Tryz.prog 90 b4O:=by
 refine a5R gR Tryz.func90 (c:=c0) rfl (by kernel_rfl) ?_;intro args v p h hp;unfold b4O at h;split at h
 ·injection h with h;injection h with h1 h2;subst h1;subst h2
  exact⟨rfl,rfl,rfl,c8p hp⟩
 ·cases h
theorem c4B{ax ay bx by' px py:Int}(h:B9 ax ay bx by' px py):Pts (ofI .f64 ax) (ofI .f64 ay) (ofI .f64 bx) (ofI .f64 by') (ofI .f64 px) (ofI .f64 py) ax ay bx by' px py:=by
 unfold B9 j7 at h;exact⟨N4 (by omega),N4 (by omega),N4 (by omega),N4 (by omega),N4 (by omega),N4 (by omega),by omega,by omega,by omega,by omega,by omega,by omega⟩
theorem a6s{n:Int}(h:j7 n):wh (ofI .f64 n)=n:=a2B (N4 (by unfold j7 at h;omega))
noncomputable def GJ:Ctx:=⟨⟨tys,[]⟩,[(75,l8 ptF),(90,l8 b4O)]⟩
theorem gJ:v8 Tryz.prog GJ:=⟨⟨z6,FlatsOk.nil⟩,g8.cons (.pure pt) (g8.cons (.pure ray) g8.nil),by kernel_rfl⟩
def b7x:PF:=fun
 | [.agg [.int .i64 ax, .int .i64 ay], .agg [.int .i64 bx, .int .i64 by'], .agg [.int .i64 px, .int .i64 py]] =>
  some (.tup [.bool (decide (¬On ax ay bx by' px py/\Lft ax ay bx by' px py)), .bool (decide (On ax ay bx by' px py))],some (B9 ax ay bx by' px py))
 | _=>none
set_option maxHeartbeats 2000000 in
theorem d0a:y7 Tryz.prog 62 b7x:=by
 refine F0 gJ Tryz.func62 rfl (by kernel_rfl) ?_;intro args v p h hp;unfold b7x at h;split at h
 ·rename_i ax ay bx by' px py;injection h with h;injection h with h1 h2;subst h1;subst h2
  have hp:B9 ax ay bx by' px py:=hp;refine⟨rfl,rfl,rfl,?_⟩;have w1:=a6s hp.1.1;have w2:=a6s hp.1.2;have w3:=a6s hp.2.1.1;have w4:=a6s hp.2.1.2;have w5:=a6s hp.2.2.1;have w6:=a6s hp.2.2.2;refine And.intro ?_ ?_
  ·rw[w1,w2,w3,w4,w5,w6];exact c4B hp
  ·refine And.intro (by kernel_rfl) ?_;refine And.intro (by kernel_rfl) ?_;refine And.intro ?_ (And.intro ?_ trivial)
   ·show decide _=decide (¬On ax ay bx by' px py/\Lft ax ay bx by' px py);rw[w1,w2,w3,w4,w5,w6]
   ·show decide _=decide (On ax ay bx by' px py);rw[w1,w2,w3,w4,w5,w6]
 ·cases h
end Go.Proofs.Tryz.Sx

namespace Go.Fl
open Go.Sx Ieee
def U0:Nat:=1000
theorem c7B:U0+1<=U1:=by decide
theorem a8h{m:Nat}{i:Int}(hi : -1074<=i)(hm:m<2 ^ 53)(h:2 ^ U0<=m*2 ^ (i+1074).toNat) : -128<i:=by
 rcases Int.lt_or_le (-128) i with h1|h1
 ·exact h1
 ·exfalso;obtain⟨c,hc⟩:∃ c:Nat,c=946:=⟨_,rfl⟩;have hd:U0=1000:=rfl;have h2:(i+1074).toNat<=c:=by omega
  have h3:m*2 ^ (i+1074).toNat<2 ^ 53*2 ^ c:=by
   apply Nat.lt_of_lt_of_le (Nat.mul_lt_mul_of_pos_right hm (Nat.two_pow_pos _))
   exact Nat.mul_le_mul_left _ (Nat.pow_le_pow_right (by decide) h2)
  rw[<-Nat.pow_add]at h3;have h4:2 ^ (53+c)<=2 ^ U0:=Nat.pow_le_pow_right (by decide) (by omega);exact absurd (Nat.lt_of_lt_of_le h3 h4) (Nat.not_lt.2 h)
theorem a9a{s:Bool}{m u:Nat}{v:Int}(h:signed s m u=v)(hv:v≠0):s=decide (v<0):=by
 rw[F7]at h;cases s
 ·simp only[Bool.false_eq_true,if_false]at h;exact(decide_eq_false (by omega)).symm
 ·simp only[if_true]at h;exact(decide_eq_true (by omega)).symm
theorem a8D{s:Bool}{m u:Nat}{v:Int}(h:signed s m u=v):m*2 ^ u=v.natAbs:=by
 rw[<-h,F7];cases s
 ·exact(Int.natAbs_natCast _).symm
 ·exact((Int.natAbs_neg _).trans (Int.natAbs_natCast _)).symm
def Big(v:Int):Prop:=v=0∨2 ^ U0<=v.natAbs
theorem c4N{x:Nat}{n:Int}(h:FI x n):Big (V x):=by
 unfold Big;by_cases hn:n=0
 ·left;rw[h.2,hn,Int.zero_mul]
 ·right
  rw[h.2,Int.natAbs_mul,A0];have h1:1*2 ^ U1<=n.natAbs*2 ^ U1:=Nat.mul_le_mul_right _ (by omega);rw[Nat.one_mul]at h1;exact Nat.le_trans (Nat.pow_le_pow_right (by decide) (Nat.le_of_succ_le c7B)) h1
theorem b6X{x y:Nat}(hx:Fin x)(hy:Fin y)(bx:Big (V x))(by':Big (V y))(h0:V x≠0)(h1:V y≠0) :
  ∃ mag place,double.mul x y=some (double.nearest (decide (V x<0) ^^ decide (V y<0)) mag place)/\mag≠0/\-1074<=place/\mag*2 ^ (place+1074).toNat*2 ^ U1=(V x).natAbs*(V y).natAbs:=by
 obtain⟨s,m,i,r1,r2,r3,r4⟩:=y5 hx;obtain⟨t,n,j,q1,q2,q3,q4⟩:=y5 hy;have hm:=a8D r3;have hn:=a8D q3;have hi:=a8h r2 r4 (by rw[hm];rcases bx with h|h;exact absurd h h0;exact h);have hj:=a8h q2 q4 (by rw[hn];rcases by' with h|h;exact absurd h h1;exact h);have hm0:m≠0:=λe=>by rw[e,Nat.zero_mul]at hm;omega
 have hn0:n≠0:=λe=>by rw[e,Nat.zero_mul]at hn;omega
 refine⟨m*n,i+j,?_,Nat.mul_ne_zero hm0 hn0,by omega,?_⟩
 ·unfold Format.mul;rw[r1,q1,<-a9a r3 h0,<-a9a q3 h1];rfl
 ·have hU:U1=1074:=rfl;have e1:(i+1074).toNat+(j+1074).toNat=(i+j+1074).toNat+U1:=by rw[hU];omega
  calc (m*n*2 ^ (i+j+1074).toNat)*2 ^ U1=m*n*2 ^ ((i+j+1074).toNat+U1):=by rw[Nat.pow_add,Nat.mul_assoc]
   _=m*n*2 ^ ((i+1074).toNat+(j+1074).toNat):=by rw[e1]
   _=(m*2 ^ (i+1074).toNat)*(n*2 ^ (j+1074).toNat):=by rw[Nat.pow_add];ac_rfl
   _=_:=by rw[hm,hn]
theorem b5A{x y:Nat}(hx:Fin x)(hy:Fin y)(h:V x=0∨V y=0):∃ r,double.mul x y=some r/\FI r 0:=by
 obtain⟨s,m,i,r1,r2,r3,r4⟩:=y5 hx;obtain⟨t,n,j,q1,q2,q3,q4⟩:=y5 hy;have hm:=a8D r3;have hn:=a8D q3;refine⟨double.nearest (s ^^ t) (m*n) (i+j),by unfold Format.mul;rw[r1,q1];rfl,?_⟩
 have:m*n=0:=by
  rcases h with h|h
  ·rw[h]at hm;rcases Nat.mul_eq_zero.1 hm with h8|h8
   ·rw[h8,Nat.zero_mul]
   ·exact absurd h8 (Nat.ne_of_gt (Nat.two_pow_pos _))
  ·rw[h]at hn;rcases Nat.mul_eq_zero.1 hn with h8|h8
   ·rw[h8,Nat.mul_zero]
   ·exact absurd h8 (Nat.ne_of_gt (Nat.two_pow_pos _))
 unfold Format.nearest;rw[if_pos this];exact J5 _
theorem a6w:FI 4607182418800017408 1:=by
 have h:=N4 (n:=1) (by decide);have e:FloatKind.f64.nearest 1=4607182418800017408:=by decide
 rw[e]at h;exact h
end Go.Fl

namespace Go.Proofs.Tryz.Sx
open Go Go.Sx Go.Proofs Go.Fl Go.Geo
set_option maxRecDepth 100000
def a3j:PF:=fun
 | [.agg [.int .i64 a, .int .i64 b, .int .i64 c, .int .i64 d]]=>some (.agg [.int .i64 a, .int .i64 b, .int .i64 c, .int .i64 d],none)
 | _=>none
theorem b2H(R:SV->Prop)(a b c d:Int):z7 G0 0 [] [] (j3 Tryz.f17) (q9 Tryz.f17.ntmps [.agg [.int .i64 a, .int .i64 b, .int .i64 c, .int .i64 d]] [] 0) (r6 G0.E.T Tryz.f17.results.toList λ_ v=>R v)=(
(((0:Int)<=0/\(0:Int)<2)/\True)/\(((0:Int)<=1/\(1:Int)<2)/\True)/\R (SV.agg [SV.int .i64 a,SV.int .i64 b,SV.int .i64 c,SV.int .i64 d])):=by kernel_rfl
theorem b3y:y7 Tryz.prog 17 a3j:=by
 refine v7 g0 Tryz.func17 rfl (by kernel_rfl) ?_;intro args v p h hp;unfold a3j at h;split at h
 ·rename_i a b c d;injection h with h;injection h with h1 h2;subst h1;subst h2
  clear hp;refine⟨rfl,_,_,(b2H _ a b c d).mpr ?_⟩;simp[eqv,a0I,p8]
 ·cases h
def a9r:PF:=fun
 | [.agg [.int .i64 a, .int .i64 b, .int .i64 c, .int .i64 d]]=>some (.bool (decide (a<=c/\b<=d)),none)
 | _=>none
theorem b5b(R:SV->Prop)(a b c d:Int):z7 G0 0 [] [] (j3 Tryz.f20) (q9 Tryz.f20.ntmps [.agg [.int .i64 a, .int .i64 b, .int .i64 c, .int .i64 d]] [] 0) (r6 G0.E.T Tryz.f20.results.toList λ_ v=>R v)=(
(((0:Int)<=0/\(0:Int)<2)/\True)/\(((0:Int)<=1/\(1:Int)<2)/\True)/\(decide (a<=c)=true->(((0:Int)<=0/\(0:Int)<2)/\True)/\(((0:Int)<=1/\(1:Int)<2)
/\True)/\R (SV.bool (decide (b<=d))))/\(decide (a<=c)=false->R SV.ff)):=by kernel_rfl
theorem c3X:y7 Tryz.prog 20 a9r:=by
 refine v7 g0 Tryz.func20 rfl (by kernel_rfl) ?_;intro args v p h hp;unfold a9r at h;split at h
 ·rename_i a b c d;injection h with h;injection h with h1 h2;subst h1;subst h2
  clear hp;refine⟨rfl,_,_,(b5b _ a b c d).mpr ?_⟩;simp only[eqv];grind
 ·cases h
def a8w:PF:=fun
 | [.agg [.int .i64 a, .int .i64 b, .int .i64 c, .int .i64 d], .agg [.int .i64 x, .int .i64 y]]=>some (.bool (decide (btw a c x/\btw b d y)),none)
 | _=>none
theorem b5c(R:SV->Prop)(a b c d x y:Int):z7 GQ 0 [] [] (j3 Tryz.f36) (q9 Tryz.f36.ntmps [.agg [.int .i64 a, .int .i64 b, .int .i64 c, .int .i64 d], .agg [.int .i64 x, .int .i64 y]] [] 0) (r6 GQ.E.T Tryz.f36.results.toList λ_ v=>R v)=(
(((0:Int)<=0/\(0:Int)<2)/\True)/\(((0:Int)<=1/\(1:Int)<2)/\True)/\R (SV.bool (decide (Go.Geo.btw a c x/\Go.Geo.btw b d y)))):=by kernel_rfl
theorem c4i:y7 Tryz.prog 36 a8w:=by
 refine v7 gQ Tryz.func36 rfl (by kernel_rfl) ?_;intro args v p h hp;unfold a8w at h;split at h
 ·rename_i a b c d x y;injection h with h;injection h with h1 h2;subst h1;subst h2
  clear hp;refine⟨rfl,_,_,(b5c _ a b c d x y).mpr ?_⟩;simp[eqv]
 ·cases h
def a9k:PF:=fun
 | [.agg [.int .i64 a, .int .i64 b, .int .i64 c, .int .i64 d], .agg [.int .i64 p, .int .i64 q, .int .i64 r, .int .i64 s]]=>some (.bool (decide ((btw a c p/\btw b d q)/\(btw a c r/\btw b d s))),none)
 | _=>none
theorem b5N(R:SV->Prop)(a b c d p q r s:Int){T1}(t1:T1=(((0:Int)<=1/\(1:Int)<2)/\True)){T2}(t2:T2=(((0:Int)<=0/\(0:Int)<2)/\True)):z7 GQ 0 [] [] (j3 Tryz.f41) (q9 Tryz.f41.ntmps [.agg [.int .i64 a, .int .i64 b, .int .i64 c, .int .i64 d], .agg [.int .i64 p, .int .i64 q, .int .i64 r, .int .i64 s]] [] 0) (r6 GQ.E.T Tryz.f41.results.toList λ_ v=>R v)=(
 T2/\T1/\T2/\(decide (Go.Geo.btw a c p/\Go.Geo.btw b d q)=true->(((0:Int)<=(0:Int)/\(0:Int)<2)/\True)/\T1/\T1/\R (SV.bool (decide (Go.Geo.btw a c r/\Go.Geo.btw b d s))))/\(decide (Go.Geo.btw a c p/\Go.Geo.btw b d q)=false->R
 SV.ff)):=by subst t1 t2;kernel_rfl
theorem c3Z:y7 Tryz.prog 41 a9k:=by
 refine v7 gQ Tryz.func41 rfl (by kernel_rfl) ?_;intro args v p h hp;unfold a9k at h;split at h
 ·rename_i a b c d p q r s;injection h with h;injection h with h1 h2;subst h1;subst h2
  clear hp;refine⟨rfl,_,_,(b5N _ a b c d p q r s rfl rfl).mpr ?_⟩;simp only[eqv];grind
 ·cases h
def GP:Ctx:=⟨⟨tys,[]⟩,[(75,l8 ptF)]⟩
theorem gP:v8 Tryz.prog GP:=⟨⟨z6,FlatsOk.nil⟩,g8.cons (.pure pt) g8.nil,by kernel_rfl⟩
def a4S:PF:=fun
 | [.agg [.int .i64 a, .int .i64 b, .int .i64 c, .int .i64 d]]=>some (.agg [.flt .f64 (ofI .f64 a), .flt .f64 (ofI .f64 b), .flt .f64 (ofI .f64 c), .flt .f64 (ofI .f64 d)],none)
 | _=>none
theorem b5U(R:SV->Prop)(a b c d:Int):z7 GP 0 [] [] (j3 Tryz.f68) (q9 Tryz.f68.ntmps [.agg [.int .i64 a, .int .i64 b, .int .i64 c, .int .i64 d]] [] 0) (r6 GP.E.T Tryz.f68.results.toList λ_ v=>R v)=(
(((0:Int)<=0/\(0:Int)<2)/\True)/\(((0:Int)<=1/\(1:Int)<2)/\True)/\true=true/\R (SV.agg [SV.flt .f64 (ofI .f64 a),SV.flt .f64 (ofI .f64 b),SV.flt .f64 (ofI .f64 c),SV.flt .f64
(ofI .f64 d)])):=by kernel_rfl
theorem b8k:y7 Tryz.prog 68 a4S:=by
 refine v7 gP Tryz.func68 rfl (by kernel_rfl) ?_;intro args v p h hp;unfold a4S at h;split at h
 ·rename_i a b c d;injection h with h;injection h with h1 h2;subst h1;subst h2
  clear hp;refine⟨rfl,_,_,(b5U _ a b c d).mpr ?_⟩;simp[eqv,a0I,r8]
 ·cases h
def b9n:PF:=fun
 | [.agg [.flt .f64 a, .flt .f64 b, .flt .f64 c, .flt .f64 d], .agg [.flt .f64 x, .flt .f64 y]]=>some (.bool (fGe .f64 x a&&fLe .f64 x c&&fGe .f64 y b&&fLe .f64 y d),none)
 | _=>none
theorem c0Y(R:SV->Prop)(a b c d x y:Nat):z7 G0 0 [] [] (j3 Tryz.f169) (q9 Tryz.f169.ntmps [.agg [.flt .f64 a, .flt .f64 b, .flt .f64 c, .flt .f64 d], .agg [.flt .f64 x, .flt .f64 y]] [] 0) (r6 G0.E.T Tryz.f169.results.toList λ_ v=>R v)=(
(fGe .f64 x a=true->(fLe .f64 x c=true->(fGe .f64 y b=true->R (SV.bool (fLe .f64 y d)))/\(fGe .f64 y b=false->R SV.ff))/\(fLe .f64 x c=false->R SV.ff))/\(fGe .f64 x a=false->R SV.ff)):=by kernel_rfl
theorem d0i:y7 Tryz.prog 169 b9n:=by
 refine v7 g0 Tryz.func169 rfl (by kernel_rfl) ?_;intro args v p h hp;unfold b9n at h;split at h
 ·rename_i a b c d x y;injection h with h;injection h with h1 h2;subst h1;subst h2
  clear hp;refine⟨rfl,_,_,(c0Y _ a b c d x y).mpr ?_⟩;simp only[eqv];grind
 ·cases h
def c3W:PF:=fun
 | [.agg [.flt .f64 a, .flt .f64 b, .flt .f64 c, .flt .f64 d], .agg [.flt .f64 p, .flt .f64 q, .flt .f64 r, .flt .f64 s]]=>some (.bool (!(fLt .f64 p a) && !(fGt .f64 r c) && !(fLt .f64 q b) && !(fGt .f64 s d)),none)
 | _=>none
theorem c5B(R:SV->Prop)(a b c d p q r s:Nat):z7 G0 0 [] [] (j3 Tryz.f191) (q9 Tryz.f191.ntmps [.agg [.flt .f64 a, .flt .f64 b, .flt .f64 c, .flt .f64 d], .agg [.flt .f64 p, .flt .f64 q, .flt .f64 r, .flt .f64 s]] [] 0) (r6 G0.E.T Tryz.f191.results.toList λ_ v=>R v)=(
(fLt .f64 p a=true->R SV.ff)/\(fLt .f64 p a=false->(fGt .f64 r c=true->R SV.ff)/\(fGt .f64 r c=false->(fLt .f64 q b=true->R SV.ff)/\(fLt .f64 q b=false->(fGt .f64 s d=true->R SV.ff)/\
(fGt .f64 s d=false->R SV.tt))))):=by kernel_rfl
theorem rIn:y7 Tryz.prog 191 c3W:=by
 refine v7 g0 Tryz.func191 rfl (by kernel_rfl) ?_;intro args v p h hp;unfold c3W at h;split at h
 ·rename_i a b c d p q r s;injection h with h;injection h with h1 h2;subst h1;subst h2
  clear hp;refine⟨rfl,_,_,(c5B _ a b c d p q r s).mpr ?_⟩;simp only[eqv];grind
 ·cases h
def a3W:PF:=fun
 | [.agg [.flt .f64 a, .flt .f64 b, .flt .f64 c, .flt .f64 d], .agg [.flt .f64 p, .flt .f64 q, .flt .f64 r, .flt .f64 s]]=>some (.bool (!(fGt .f64 b s) && !(fLt .f64 d q) && !(fGt .f64 a r) && !(fLt .f64 c p)),none)
 | _=>none
theorem b6r(R:SV->Prop)(a b c d p q r s:Nat):z7 G0 0 [] [] (j3 Tryz.f175) (q9 Tryz.f175.ntmps [.agg [.flt .f64 a, .flt .f64 b, .flt .f64 c, .flt .f64 d], .agg [.flt .f64 p, .flt .f64 q, .flt .f64 r, .flt .f64 s]] [] 0) (r6 G0.E.T Tryz.f175.results.toList λ_ v=>R v)=(
(fGt .f64 b s=true->R SV.ff)/\(fGt .f64 b s=false->(fLt .f64 d q=true->R SV.ff)/\(fLt .f64 d q=false->(fGt .f64 a r=true->R SV.ff)/\(fGt .f64 a r=false->(fLt .f64 c p=true->R SV.ff)/\
(fLt .f64 c p=false->R SV.tt))))):=by kernel_rfl
theorem b4i:y7 Tryz.prog 175 a3W:=by
 refine v7 g0 Tryz.func175 rfl (by kernel_rfl) ?_;intro args v p h hp;unfold a3W at h;split at h
 ·rename_i a b c d p q r s;injection h with h;injection h with h1 h2;subst h1;subst h2
  clear hp;refine⟨rfl,_,_,(b6r _ a b c d p q r s).mpr ?_⟩;simp only[eqv];grind
 ·cases h
def a4U:PF:=fun
 | [.agg [.flt .f64 _, .flt .f64 _, .flt .f64 _, .flt .f64 _]]=>some (.ff,none)
 | _=>none
theorem b5B(R:SV->Prop)(a b c d:Nat):z7 G0 0 [] [] (j3 Tryz.f192) (q9 Tryz.f192.ntmps [.agg [.flt .f64 a, .flt .f64 b, .flt .f64 c, .flt .f64 d]] [] 0) (r6 G0.E.T Tryz.f192.results.toList λ_ v=>R v)=(
 R SV.ff):=by kernel_rfl
theorem b7Y:y7 Tryz.prog 192 a4U:=by
 refine v7 g0 Tryz.func192 rfl (by kernel_rfl) ?_;intro args v p h hp;unfold a4U at h;split at h
 ·rename_i a b c d;injection h with h;injection h with h1 h2;subst h1;subst h2
  clear hp;refine⟨rfl,_,_,(b5B _ a b c d).mpr ?_⟩;simp[eqv]
 ·cases h
def a9s:PF:=fun
 | [.agg [.flt .f64 _, .flt .f64 _, .flt .f64 _, .flt .f64 _]]=>some (.int .i64 4,none)
 | _=>none
theorem b9E(R:SV->Prop)(a b c d:Nat):z7 G0 0 [] [] (j3 Tryz.f203) (q9 Tryz.f203.ntmps [.agg [.flt .f64 a, .flt .f64 b, .flt .f64 c, .flt .f64 d]] [] 0) (r6 G0.E.T Tryz.f203.results.toList λ_ v=>R v)=(
 R (SV.int .i64 (4:Int))):=by kernel_rfl
theorem c2X:y7 Tryz.prog 203 a9s:=by
 refine v7 g0 Tryz.func203 rfl (by kernel_rfl) ?_;intro args v p h hp;unfold a9s at h;split at h
 ·rename_i a b c d;injection h with h;injection h with h1 h2;subst h1;subst h2
  clear hp;refine⟨rfl,_,_,(b9E _ a b c d).mpr ?_⟩;simp[eqv,p8]
 ·cases h
def c9A(x y:Nat):Bool:=fGe .f64 x 13863909240395005952&&fLe .f64 x 4640537203540230144&&fGe .f64 y 13859405640767635456&&fLe .f64 y 4636033603912859648
def fdiv(x y:Nat):Nat:=(floatBits .quo .f64 x y).getD 0
def b1Q(x y:Nat):Prop:=(floatBits .quo .f64 x y).isSome=true
theorem Q6{x y r:Nat}(h:A2 .f64 x y r)(hk:b1Q x y):r=fdiv x y:=by
 unfold A2 at h;unfold b1Q at hk;unfold fdiv
 cases hq:floatBits .quo .f64 x y with
 | none=>rw[hq]at hk;cases hk
 | some v=>rw[hq]at h;simpa using h
def b3i:PF:=fun
 | [.agg [.flt .f64 x, .flt .f64 y]]=>some (.agg [.int .i64 (toI .f64 x .i64), .int .i64 (toI .f64 y .i64)],some (a5p .f64 x .i64/\a5p .f64 y .i64))
 | _=>none
theorem b7r(R:SV->Prop)(x y:Nat):z7 G0 0 [] [] (j3 Tryz.f80) (q9 Tryz.f80.ntmps [.agg [.flt .f64 x, .flt .f64 y]] [] 0) (r6 G0.E.T Tryz.f80.results.toList λ_ v=>R v)=(
 a5p .f64 x .i64/\a5p .f64 y .i64/\R (SV.agg [SV.int .i64 (toI .f64 x .i64),SV.int .i64 (toI .f64 y .i64)])):=by kernel_rfl
theorem c8W:y7 Tryz.prog 80 b3i:=by
 refine v7 g0 Tryz.func80 rfl (by kernel_rfl) ?_;intro args v p h hp;unfold b3i at h;split at h
 ·rename_i x y;injection h with h;injection h with h1 h2;subst h1;subst h2
  have hp:a5p .f64 x .i64/\a5p .f64 y .i64:=hp;refine⟨rfl,_,_,(b7r _ x y).mpr ?_⟩;exact⟨hp.1,hp.2,rfl,rfl,trivial⟩
 ·cases h
def a1Y(a b c d:Nat)(i:Int):Nat×Nat:=if i=0 then(a,b)else if i=1 then(c,b)else if i=2 then(c,d)else if i=3 then(a,d)else(a,b)
def a5h:PF:=fun
 | [.agg [.flt .f64 a, .flt .f64 b, .flt .f64 c, .flt .f64 d], .int .i64 i]=>some (.agg [.flt .f64 (a1Y a b c d i).1, .flt .f64 (a1Y a b c d i).2, .flt .f64 (a1Y a b c d (i+1)).1, .flt .f64 (a1Y a b c d (i+1)).2],some (0<=i/\i<=3))
 | _=>none
theorem b5t(R:SV->Prop)(a b c d:Nat)(i:Int):z7 G0 0 [] [] (j3 Tryz.f204) (q9 Tryz.f204.ntmps [.agg [.flt .f64 a, .flt .f64 b, .flt .f64 c, .flt .f64 d], .int .i64 i] [] 0) (r6 G0.E.T Tryz.f204.results.toList λ_ v=>R v)=(
((i==(0:Int))=true->R (SV.agg [SV.flt .f64 a,SV.flt .f64 b,SV.flt .f64 c,SV.flt .f64 b]))/\((i==(0:Int))=false->((i==(1:Int))=true->R (SV.agg [SV.flt .f64 c,SV.flt .f64 b,SV.flt .f64 c,SV.flt .f64 d]))/\((i==(1:Int))
= false->((i==(2:Int))=true->R (SV.agg [SV.flt .f64 c,SV.flt .f64 d,SV.flt .f64 a,SV.flt .f64 d]))/\((i==(2:Int))=false->((i==(3:Int))=true->R (SV.agg [SV.flt .f64 a,SV.flt .f64 d,SV.flt .f64 a,SV.flt .f64 b]))/\((i ==
(3:Int))=false->False))))):=by kernel_rfl
theorem b7i:y7 Tryz.prog 204 a5h:=by
 refine v7 g0 Tryz.func204 rfl (by kernel_rfl) ?_;intro args v p h hp;unfold a5h at h;split at h
 ·rename_i a b c d i;injection h with h;injection h with h1 h2;subst h1;subst h2
  have hp:0<=i/\i<=3:=hp;refine⟨rfl,_,_,(b5t _ a b c d i).mpr ?_⟩;simp only[eqv,a0I,a1Y,r8];grind
 ·cases h
def GA:Ctx:=⟨⟨tys,[]⟩,[(62,l8 b7x)]⟩
theorem gA:v8 Tryz.prog GA:=⟨⟨z6,FlatsOk.nil⟩,g8.cons (.pure d0a) g8.nil,by kernel_rfl⟩
def b2a:PF:=fun
 | []=>some (.tt,none)
 | _=>none
theorem b8g(R:SV->Prop):z7 GA 0 [] [] (j3 Tryz.f21) (q9 Tryz.f21.ntmps [] [] 0) (r6 GA.E.T Tryz.f21.results.toList λ_ v=>R v)=(
 B9 (0:Int) (0:Int) (2:Int) (2:Int) (1:Int) (1:Int)/\R (SV.bool true)):=by kernel_rfl
theorem c6b:y7 Tryz.prog 21 b2a:=by
 refine v7 gA Tryz.func21 rfl (by kernel_rfl) ?_;intro args v p h hp;unfold b2a at h;split at h
 ·injection h with h;injection h with h1 h2;subst h1;subst h2
  clear hp;refine⟨rfl,_,_,(b8g _).mpr ?_⟩;exact⟨by unfold B9 j7;omega,by simp[eqv]⟩
 ·cases h
noncomputable def a4e:List SV->RdM
 | [.agg [.int .i64 a, .int .i64 b, .int .i64 c, .int .i64 d]]=>.ret ⟨[.agg [.int .i64 a, .int .i64 b, .int .i64 c, .int .i64 d]],[], .slcc 0 5,[],[(0,⟨true,28, .cells [.int .i64 a, .int .i64 b, .int .i64 c, .int .i64 b, .int .i64 c, .int .i64 d, .int .i64 a, .int .i64 d, .int .i64 a, .int .i64 b],2⟩)],some (True)⟩
 | _=>.fail
theorem b0T(a b c d:Int){w9:HC}(e9:w9=⟨[.agg [.int .i64 a, .int .i64 b, .int .i64 c, .int .i64 d]],[], .slcc 0 5,[],[(0,⟨true,28, .cells [.int .i64 a, .int .i64 b, .int .i64 c, .int .i64 b, .int .i64 c, .int .i64 d, .int .i64 a, .int .i64 d, .int .i64 a, .int .i64 b],
 2⟩)],some (True)⟩){T1}(t1:T1=(((0:Int)<=0/\(0:Int)<2)/\True)){T2}(t2:T2=(((0:Int)<=1/\(1:Int)<2)/\True)):z7 G0 0 [] [] (j3 Tryz.f56) (q9 Tryz.f56.ntmps w9.args w9.heap 0) (r6 G0.E.T Tryz.f56.results.toList λS v=>w0 0 w9 S v)=(
 T1/\T2/\T1/\T2/\(((0:Int)<=(0:Int)/\(0:Int)<2)/\True)/\T2/\T1/\(True/\5=5)/\True/\(28=28/\2=2/\a=a/\b=b/\c=c/\b=b/\c=c/\d=d/\a=a/\d=d/\a=a/\b=b/\True)/\True):=by subst e9 t1 t2;kernel_rfl
theorem b7N:q7 Tryz.prog 56 (p9 a4e):=by
 refine j8 g0 Tryz.func56 rfl (by kernel_rfl) λargs=>?_
 unfold a4e;split
 ·rename_i a b c d;intro ho;replace ho:True:=ho;refine⟨?_,_,_,(b0T a b c d rfl rfl rfl).mpr ?_⟩
  ·refine g9 rfl ⟨?_,trivial⟩;simp[j9,o8,p8]
  ·simp
 ·trivial
theorem c4u:a2o Tryz.prog 28 [false,false] :=
 (a0n z6 (t:=28) (e0:=2) (e1:=2) Tryz.underlying28 (by kernel_rfl) (by decide) (by decide) ⟨rfl,rfl⟩ ⟨rfl,rfl⟩ (by rfl) (by rfl) rfl rfl).flat (by kernel_rfl) (by decide)
theorem c9C:FE Tryz.prog 28 [false,false] 2 :=
 a0n z6 (t:=28) (e0:=2) (e1:=2) Tryz.underlying28 (by kernel_rfl) (by decide) (by decide) ⟨rfl,rfl⟩ ⟨rfl,rfl⟩ (by rfl) (by rfl) rfl rfl
theorem c4n:a2o Tryz.prog 23 [false,false] :=
 (a0n z6 (t:=23) (e0:=2) (e1:=2) Tryz.underlying23 (by kernel_rfl) (by decide) (by decide) ⟨rfl,rfl⟩ ⟨rfl,rfl⟩ (by rfl) (by rfl) rfl rfl).flat (by kernel_rfl) (by decide)
theorem c4v:a2o Tryz.prog 29 [false,false,false,false] :=
 (b4K z6 (t:=29) (e:=28) Tryz.underlying29 (by rfl) rfl rfl c9C).flat (by kernel_rfl) (by decide)
def FL:Flats:=[(28,[false,false]),(23,[false,false]),(29,[false,false,false,false])]
theorem c7O:FlatsOk Tryz.prog FL:=FlatsOk.cons c4u (FlatsOk.cons c4n (FlatsOk.cons c4v FlatsOk.nil))
def GS:Ctx:=⟨⟨tys,FL⟩,[(17,l8 a3j)]⟩
theorem gS:v8 Tryz.prog GS:=⟨⟨z6,c7O⟩,g8.cons (.pure b3y) g8.nil,by kernel_rfl⟩
def c3y(m:Nat)(g h:Nat->Int):Prop:=∀ j,j<m->g j=h j
instance (m:Nat) (g h:Nat->Int):Decidable (c3y m g h):=by unfold c3y;infer_instance
def F4(g:Nat->Int)(len:Nat)(j:Nat):Int:=if j / 4+1<len then g (2*(j / 4)+j % 4)else if j % 4<2 then g (2*(j / 4)+j % 4)else g (j % 4-2)
def c6v(len:Nat)(b:Bool)(g:Nat->Int):Fam:=⟨Nat,λi =>
 ⟨62,[(0, .slcc 0 len),(1, .bool b),(5, .slcc 1 i),(21, .int .i64 ((len:Int)-1)),(22, .int .i64 i)],[(0,⟨false,28, .ints .i64 (2*len) g,0⟩),(1,⟨true,29, .ints .i64 (4*i) (F4 g len),4⟩)],2⟩,λi=>i+1<=len,λi=>len-i⟩
def c6u(len:Nat)(b:Bool)(g:Nat->Int):Fam:=⟨Nat,λ_ =>
 ⟨62,[(0, .slcc 0 len),(1, .bool b),(5, .nils)],[(0,⟨false,28, .ints .i64 (2*len) g,0⟩)],1⟩,λ_=>2<=len/\(b=true->3<=len),λ_=>0⟩
def o6(len:Nat)(b:Bool)(g:Nat->Int):Nat :=
 if len<2∨(b=true/\len<3)then 0 else if b=true/\¬(g (2*len-2)=g 0/\g (2*len-1)=g 1)then len else len-1
theorem a7X{i:Nat}{f:Nat->Int}{x y z w:Int}(hx:x=f (4*i))(hy:y=f (4*i+1))(hz:z=f (4*i+2))(hw:w=f (4*i+3)):∀ j,j<4*(i+1)->y6 (4*i) f [x,y,z,w] 0 j=f j:=by
 intro j hj;subst hx hy hz hw;unfold y6;split
 ·rfl
 ·have:j=4*i∨j=4*i+1∨j=4*i+2∨j=4*i+3:=by omega
  rcases this with rfl|rfl|rfl|rfl <;> simp
theorem b3P{g:Nat->Int}{len i:Nat}(h:i+1<len):F4 g len (4*i)=g (2*i)/\F4 g len (4*i+1)=g (2*i+1)/\F4 g len (4*i+2)=g (2*i+2)/\F4 g len (4*i+3)=g (2*i+3):=by
 have key:∀ k,k<4->F4 g len (4*i+k)=g (2*i+k):=by
  intro k hk;have h1:(4*i+k) / 4=i:=by omega
  have h2:(4*i+k) % 4=k:=by omega
  unfold F4;rw[h1,h2,if_pos h]
 exact⟨key 0 (by decide),key 1 (by decide),key 2 (by decide),key 3 (by decide)⟩
theorem b3w{g:Nat->Int}{len i:Nat}(h:¬i+1<len):F4 g len (4*i)=g (2*i)/\F4 g len (4*i+1)=g (2*i+1)/\F4 g len (4*i+2)=g 0/\F4 g len (4*i+3)=g 1:=by
 have key:∀ k,k<4->F4 g len (4*i+k)=if k<2 then g (2*i+k)else g (k-2):=by
  intro k hk;have h1:(4*i+k) / 4=i:=by omega
  have h2:(4*i+k) % 4=k:=by omega
  unfold F4;rw[h1,h2,if_neg h]
 exact⟨key 0 (by decide),key 1 (by decide),key 2 (by decide),key 3 (by decide)⟩
noncomputable def a2X:List SV->RdM
 | [.slcc n len,bb]=>.read n λo0=>(match o7 .i64 o0.c with
  | some (m0,g)=>(match bb.toB with
  | some b=>.ret ⟨[.slcc 0 len, .bool b],[(0,⟨false,28, .ints .i64 m0 g,0⟩)], .slcc 1 (o6 len b g),[],[(1,⟨true,29, .ints .i64 (4*o6 len b g) (F4 g len),4⟩)],some (m0=2*len/\len<=1000000)⟩
  | none=>.fail)
  | none=>.fail)
 | _=>.fail
theorem b1W(len:Nat)(b:Bool)(g:Nat->Int){w9:HC}(e9:w9=⟨[.slcc 0 len, .bool b],[(0,⟨false,28, .ints .i64 (2*len) g,0⟩)], .slcc 1 (o6 len b g),[],[(1,⟨true,29, .ints .i64 (4*o6 len b g) (F4 g len),4⟩)],some (2*len=2*len/\len<=1000000)⟩){T1}(t1:T1=(↑len:Int))
 {T2}(t2:T2=(IntKind.wrap .i64 (T1-1))) {T3}(t3:T3=λ(i:Nat)=>(IntKind.wrap .i64 ((↑i:Int)+1))) {T4}(t4:T4=λ(i:Nat)=>(29=29/\4=4/\4*o6 len b g<=4*i/\∀(i:Nat),i<4*o6 len b g->F4 g len i=F4 g len i))
 {T5}(t5:T5=(!(g (0+Int.toNat T2*2)==g 0&&(g (0+Int.toNat T2*2+1)==g 1&&true)))) {T6}(t6:T6=λ(i:Nat)=>(4*i=i*4/\(i+1)*32<=140737488355328/\i+1<=9223372036854775807)) {T7}(t7:T7=(2*len<=2*len/\∀(i:Nat),i
 < 2*len->g i=g i)) {T8}(t8:T8=λ(i:Nat)=>(↑i:Int)) {T9}(t9:T9=(True/\len=len)) {T10}(t10:T10=λ(i:Nat)=>(2*len<=2*len/\∀(i:Nat),i<2*len->g i=g i)):z7 GS 1 [(5,c6v len b g)] [(4,c6u len b g)] (j3 Tryz.f31) (q9 Tryz.f31.ntmps w9.args w9.heap 1) (r6 GS.E.T Tryz.f31.results.toList λS v=>w0 1 w9 S v)=(
 ((decide (T1<2)=true->o6 len b g=0/\True/\4*o6 len b g=0/\True)/\(decide (T1<2)=false->(b=true->(decide (T1<(3:Int))=true->o6 len b g=0/\True/\4*o6 len b g=0/\True)/\(decide (T1<3)=false->∃ (_
 : Nat),(2<=len/\(b=true->3<=len))/\(T9/\b=b/\True/\True)/\True/\T7/\True))/\(b=false->∃(_:Nat),(2<=len/\(b=true->3<=len))/\(T9/\b=b/\True/\True)/\True/\T7/\True)))/\∀(_:Nat),2<=len/\(b=true->3<=len)->
 (∃(i:Nat),i+1<=len/\(T9/\b=b/\i=0/\IntKind.wrap .i64 (T1-1)=T1-1/\0=(T8 i)/\True)/\True/\(T10 i)/\True/\4*i=0/\True)/\∀(i:Nat),i+1<=len->(decide ((T8 i)<T1-1)=true->((0<=(T8 i)/\(T8 i)<T1)/\1<=2
 * len)/\0+Int.toNat (T8 i)*2+2<=2*len/\(((0:Int)<=IntKind.wrap .i64 ((T8 i)+1)/\IntKind.wrap .i64 ((T8 i)+1)<T1)/\1<=2*len)/\0+Int.toNat (T3 i)*2+2<=2*len/\(T6 i)/\true=true/\∃(i':Nat),i'+1<=len/\len -
 i'<len-i/\(T9/\b=b/\(True/\i+1=i')/\T1-1=T1-1/\IntKind.wrap .i64 ((T8 i)+1)=(↑i':Int)/\True)/\True/\(T10 i)/\True/\(29=29/\4=4/\4*i'<=4*i+List.length [g (0+Int.toNat (T8 i)*2),g (0+Int.toNat (T8 i)
 * 2+1),g (0+Int.toNat (T3 i)*2),g (0+Int.toNat (T3 i)*2+1)]/\∀(i_1:Nat),i_1<4*i'->y6 (4*i) (F4 g len) [g (0+Int.toNat (T8 i)*2),g (0+Int.toNat (T8 i)*2+1),g (0+Int.toNat (T3 i)*2),g (0+Int.toNat (T3 i)
 * 2+1)] (0:Int) i_1=F4 g len i_1)/\True)/\(decide ((T8 i)<T1-1)=false->(((0:Int)<=IntKind.wrap .i64 (T1-(1:Int))/\IntKind.wrap .i64 (T1-1)<T1)/\1<=2*len)/\0+Int.toNat T2*2+2<=2*len/\(b=true->b=true/\
 (((0:Int)<=0/\0<T1)/\1<=2*len)/\2<=2*len/\true=true/\(T5=true->(((0:Int)<=0/\0<T1)/\1<=2*len)/\2<=2*len/\(T6 i)/\true=true/\(True/\i+1=o6 len b g)/\True/\(29=29/\4=4/\4*o6 len b g<=4*i +
 List.length [g (0+Int.toNat T2*2),g (0+Int.toNat T2*2+1),g 0,g 1]/\∀(i_1:Nat),i_1<4*o6 len b g->y6 (4*i) (F4 g len) [g (0+Int.toNat (IntKind.wrap .i64 (T1-(1:Int)))*2),g (0+Int.toNat T2*2+1),g 0,g 1]
 (0:Int) i_1=F4 g len i_1)/\True)/\(T5=false->(True/\i=o6 len b g)/\True/\(T4 i)/\True))/\(b=false->b=false/\true=true/\(True/\i=o6 len b g)/\True/\(T4 i)/\True))):=by subst e9 t1 t2 t3 t4 t5 t6 t7 t8 t9 t10;kernel_rfl
theorem b4v:q7 Tryz.prog 31 (p9 a2X):=by
 refine j8 gS Tryz.func31 rfl (by kernel_rfl) λargs=>?_
 unfold a2X;split
 ·rename_i n len bb;intro o0;try dsimp only
  split
  ·rename_i m0 g hm0;try dsimp only
   split
   ·rename_i b hb;intro ho;replace ho:m0=2*len/\len<=1000000:=ho;obtain⟨hsz0,ho⟩:=ho;subst hsz0;refine⟨?_,_,_,(b1W len b g rfl rfl rfl rfl rfl rfl rfl rfl rfl rfl rfl).mpr ?_⟩
    ·refine g9 rfl ⟨?_,⟨trivial,(o5 hm0).1,trivial⟩⟩;simp[j9,o8,o9,p7,nth,a8,C7 hb]
    ·have hwl:IntKind.i64.wrap ((len:Int)-1)=(len:Int)-1:=j5 (by omega) (by omega);refine⟨⟨λh=>?_,λh=>⟨λhb=>⟨λh3=>?_,λh3=>?_⟩,λhb=>?_⟩⟩,λ_ hl=>⟨⟨0,by omega,by simp[hwl]⟩,λi hi=>⟨λh=>?_,λh=>?_⟩⟩⟩
     ·have h:=of_decide_eq_true h;have:o6 len b g=0:=if_pos (.inl (by omega));simp[this]
     ·have h3:=of_decide_eq_true h3;have:o6 len b g=0:=if_pos (.inr ⟨hb,by omega⟩);simp[this]
     ·have h3:=of_decide_eq_false h3;exact⟨0,⟨by omega,λ_=>by omega⟩,by simp⟩
     ·have h:=of_decide_eq_false h;exact⟨0,⟨by omega,λhh=>by simp[hb]at hh⟩,by simp⟩
     ·have h:=of_decide_eq_true h;have e:0+(i:Int).toNat*2=2*i:=by omega
      have hw:IntKind.i64.wrap ((i:Int)+1)=((i+1:Nat):Int):=by rw[j5 (by omega) (by omega)];omega
      have e1:0+((i+1:Nat):Int).toNat*2=2*i+2:=by omega
      obtain⟨s0,s1,s2,s3⟩:=b3P (g:=g) (len:=len) (i:=i) (by omega);rw[hw,e,e1];refine⟨by omega,by omega,by omega,by omega,by omega,rfl,i+1,by omega,by omega,by simp,trivial,by simp,trivial,⟨rfl,rfl,?_,a7X s0.symm s1.symm s2.symm s3.symm⟩,trivial⟩;show 4*(i+1)<=4*i+4;omega
     ·have h:=of_decide_eq_false h;have hil:i=len-1:=by omega
      subst hil;have e:0+((len:Int)-1).toNat*2=2*len-2:=by omega
      rw[hwl,e]
      have hn2:¬(len<2∨b=true/\len<3):=by
       intro hh;rcases hh with hh|⟨hh,hh'⟩
       ·omega
       ·have:=hl.2 hh;omega
      have e1:2*len-2+1=2*len-1:=by omega
      rw[e1];refine⟨by omega,by omega,λhb=>⟨hb,by omega,by omega,rfl,λhne=>?_,λheq=>?_⟩,λhb=>?_⟩
      ·have hns:o6 len b g=len:=by
        unfold o6;rw[if_neg hn2,if_pos ⟨hb,λhh=>by simp[hh.1,hh.2]at hne⟩]
       obtain⟨s0,s1,s2,s3⟩:=b3w (g:=g) (len:=len) (i:=len-1) (by omega);have e2:2*(len-1)=2*len-2:=by omega
       rw[e2]at s0 s1;rw[e1]at s1;rw[hns];refine⟨by omega,by omega,by omega,rfl,⟨trivial,by omega⟩,trivial,⟨rfl,rfl,?_,?_⟩,trivial⟩
       ·show 4*len<=4*(len-1)+4;omega
       ·have:=a7X s0.symm s1.symm s2.symm s3.symm;rw[show len-1+1=len by omega]at this;exact this
      ·have hns:o6 len b g=len-1:=by
        unfold o6;rw[if_neg hn2,if_neg];simp at heq;exact λhh=>hh.2 ⟨heq.1,heq.2⟩
       simp[hns]
      ·have hns:o6 len b g=len-1:=by
        unfold o6;rw[if_neg hn2,if_neg];exact λhh=>by simp[hb]at hh
       simp[hns];exact hb
   ·trivial
  ·trivial
 ·trivial
theorem fi{n:Int}(h:j7 n):FI (ofI .f64 n) n:=N4 (by unfold j7 at h;omega)
theorem c3g{a b:Int}(ha:j7 a)(hb:j7 b):fGe .f64 (ofI .f64 a) (ofI .f64 b)=decide (b<=a):=a4o (fi ha) (fi hb)
theorem c2T{a b:Int}(ha:j7 a)(hb:j7 b):fLe .f64 (ofI .f64 a) (ofI .f64 b)=decide (a<=b):=a3s (fi ha) (fi hb)
theorem a9P{op:BinOp}{x y r:Nat}(h:floatBits op .f64 x y=some r):fok op .f64 x y/\fop op .f64 x y=r:=by
 unfold fok fop;rw[h];exact⟨rfl,rfl⟩
theorem a3H{x y:Nat}{a b:Int}(hx:FI x a)(hy:FI y b)(h:(a*b).natAbs<2 ^ 53):fok .mul .f64 x y/\FI (fop .mul .f64 x y) (a*b):=by
 obtain⟨r,h1,h2⟩:=c5j hx hy h;obtain⟨h3,h4⟩:=a9P (op:=.mul) h1;exact⟨h3,by rw[h4];exact h2⟩
def sm4(a b c d:Int):Prop:=j7 a/\j7 b/\j7 c/\j7 d
end Go.Proofs.Tryz.Sx

namespace Go.Fl
open Go.Sx Ieee
structure Rnd (P K E:Nat):Prop where
 up:2*(K*2 ^ E)<=2*P+2 ^ E
 dn:2*P<=2*(K*2 ^ E)+2 ^ E
 lo:E=0∨2 ^ 52*2 ^ E<=P
 hi:P<2 ^ 53*2 ^ E
 tie:2*(K*2 ^ E)=2*P+2 ^ E->K % 2=0
theorem b2G(neg:Bool){mag:Nat}(hm:mag≠0){place:Int}(hp : -1074<=place) :
  Rnd (mag*2 ^ (place+1074).toNat) (A9 neg mag place) (y4 mag place+1074).toNat:=by
 have hl1:=Nat.log2_self_le hm;have hl2:mag<2 ^ (mag.log2+1):=Nat.lt_log2_self;have hLdef:y4 mag place=max (place+mag.log2-52) (-1074):=rfl
 have hhi:mag*2 ^ (place+1074).toNat<2 ^ 53*2 ^ (y4 mag place+1074).toNat:=by
  apply Nat.lt_of_lt_of_le (Nat.mul_lt_mul_of_pos_right hl2 (Nat.two_pow_pos _))
  rw[<-Nat.pow_add,<-Nat.pow_add];exact Nat.pow_le_pow_right (by decide) (by omega)
 have hlo:(y4 mag place+1074).toNat=0∨2 ^ 52*2 ^ (y4 mag place+1074).toNat<=mag*2 ^ (place+1074).toNat:=by
  by_cases h:place+mag.log2-52<=-1074
  ·left;omega
  ·right
   apply Nat.le_trans _ (Nat.mul_le_mul_right _ hl1)
   rw[<-Nat.pow_add,<-Nat.pow_add];exact Nat.pow_le_pow_right (by decide) (by omega)
 by_cases h:y4 mag place<=place
 ·have e1:(y4 mag place-place).toNat=0:=by omega
  have hk:A9 neg mag place=mag*2 ^ (place-y4 mag place).toNat:=by
   unfold A9;rw[e1,Nat.shiftLeft_eq];have:=a3Z neg (mag*2 ^ (place-y4 mag place).toNat) 0
   rwa [Nat.pow_zero,Nat.mul_one]at this
  have he:A9 neg mag place*2 ^ (y4 mag place+1074).toNat=mag*2 ^ (place+1074).toNat:=by
   rw[hk,Nat.mul_assoc,<-Nat.pow_add];congr 2;omega
  have hpos:0<2 ^ (y4 mag place+1074).toNat:=Nat.two_pow_pos _;refine⟨?_,?_,hlo,hhi,?_⟩ <;> rw[he] <;> generalize 2 ^ (y4 mag place+1074).toNat=g at * <;> generalize mag*2 ^ (place+1074).toNat=p at * <;> omega
 ·have e1:(place-y4 mag place).toNat=0:=by omega
  have hk:A9 neg mag place=Toward.even.cut neg mag (y4 mag place-place).toNat:=by
   unfold A9;rw[e1,Nat.shiftLeft_eq,Nat.pow_zero,Nat.mul_one]
  have eE:(y4 mag place+1074).toNat=(y4 mag place-place).toNat+(place+1074).toNat:=by omega
  obtain⟨h1,h2⟩:=a1M neg mag (y4 mag place-place).toNat;have h3:=b3O neg mag (y4 mag place-place).toNat;rw[<-hk]at h1 h2 h3;have hq:0<2 ^ (place+1074).toNat:=Nat.two_pow_pos _;refine⟨?_,?_,hlo,hhi,?_⟩
  ·rw[eE,Nat.pow_add];have:=Nat.mul_le_mul_right (2 ^ (place+1074).toNat) h1;rw[Nat.add_mul]at this
   calc 2*(A9 neg mag place*(2 ^ (y4 mag place-place).toNat*2 ^ (place+1074).toNat))=2*(A9 neg mag place*2 ^ (y4 mag place-place).toNat)*2 ^ (place+1074).toNat:=by ac_rfl
    _<=_:=this
    _=_:=by rw[Nat.mul_assoc]
  ·rw[eE,Nat.pow_add];have:=Nat.mul_le_mul_right (2 ^ (place+1074).toNat) h2;rw[Nat.add_mul]at this
   calc 2*(mag*2 ^ (place+1074).toNat)=2*mag*2 ^ (place+1074).toNat:=by rw[Nat.mul_assoc]
    _<=_:=this
    _=_:=by ac_rfl
  ·intro ht
   apply h3
   right
   rw[eE,Nat.pow_add]at ht
   apply Nat.eq_of_mul_eq_mul_right hq
   rw[Nat.add_mul]
   calc 2*mag*2 ^ (place+1074).toNat+2 ^ (y4 mag place-place).toNat*2 ^ (place+1074).toNat=2*(mag*2 ^ (place+1074).toNat)+2 ^ (y4 mag place-place).toNat*2 ^ (place+1074).toNat:=by rw[Nat.mul_assoc]
    _=_:=ht.symm
    _=_:=by ac_rfl
def E2:Nat:=1022
theorem c9x:U1=52+E2:=rfl
theorem c8j{z u x:Nat}(h1:2 ^ 53*z<=2 ^ 53*u+u)(hu:u=2 ^ 52*x):2*z<=2*u+x:=by omega
theorem c9I{v p z u x:Nat}(hup:2*v<=2*p+x)(h7:u+x<=v)(h3:p<=z)(h:2*z<=2*u+x):2*v=2*p+x/\v=u+x:=by omega
theorem d0U{v p z u x e:Nat}(hup:2*v<=2*p+e)(h7:u+e<=v)(_:p<=z)(_:2*z<=2*u+x)(_:2 ^ 52*e<=p)(hhi:p<2 ^ 53*e)(h8:2*e<=x)(hu:u=2 ^ 52*x):False:=by omega
theorem c5K{a b Y k F K E:Nat}(hY:Y=k*2 ^ F)(hd:P9 k F 1 b (2 ^ U1))(_:0<b)(hb:b<=2 ^ 44)(hr:Rnd (a*Y) K E):K*2 ^ E<=2 ^ U1↔a<=b:=by
 have hU:U1=1074:=rfl
 have h1:2 ^ 53*(Y*b)<=2 ^ 53*2 ^ U1+2 ^ U1:=by
  have hup:=hd.up;have hbl:=hd.bl;rw[Nat.one_mul]at hup hbl;have e:2*k*(2 ^ F*b)=2*(Y*b):=by rw[hY];ac_rfl
  rw[e]at hup;generalize 2 ^ F*b=g at *;generalize Y*b=z at *;generalize 2 ^ U1=u at *;omega
 have h2:2 ^ 53*2 ^ U1<=2 ^ 53*(Y*b)+2 ^ U1:=by
  have hdn:=hd.dn;have hbl:=hd.bl;rw[Nat.one_mul]at hdn hbl;have e:2*k*(2 ^ F*b)=2*(Y*b):=by rw[hY];ac_rfl
  rw[e]at hdn;generalize 2 ^ F*b=g at *;generalize Y*b=z at *;generalize 2 ^ U1=u at *;omega
 have hu22:2 ^ U1=2 ^ 52*2 ^ E2:=by rw[<-Nat.pow_add,<-c9x]
 have hx2:0<2 ^ E2:=Nat.two_pow_pos _;have hE2d:E2=1022:=rfl;constructor
 ·intro hle;rcases Nat.lt_or_ge b a with hgt|hge
  ·exfalso
   have h3:Y*b+Y<=a*Y:=by
    calc Y*b+Y=(b+1)*Y:=by rw[Nat.add_mul,Nat.one_mul,Nat.mul_comm]
     _<=a*Y:=Nat.mul_le_mul_right _ hgt
   have h4:2 ^ U1<=2 ^ 45*Y:=by
    have:Y*b<=Y*2 ^ 44:=Nat.mul_le_mul_left _ hb;generalize 2 ^ U1=u at *;generalize Y*b=z at *;omega
   have hE:E<=E2:=by
    rcases Nat.lt_or_ge E2 E with hc|hc
    ·exfalso;have hdn:=hr.dn;rcases hr.lo with h0|h0
     ·omega
     ·have h5:2 ^ (E2+1)<=2 ^ E:=Nat.pow_le_pow_right (by decide) hc;have h6:2 ^ (E2+1)=2*2 ^ E2:=by rw[<-Nat.pow_succ']
      generalize 2 ^ (E2+1)=x3 at *;generalize 2 ^ E2=x2 at *;generalize 2 ^ E=e at *;generalize K*e=v at *;generalize a*Y=p at *;rw[hu22]at hle;omega
    ·exact hc
   have hdn:=hr.dn;have h5:2 ^ E<=2 ^ E2:=Nat.pow_le_pow_right (by decide) hE;generalize 2 ^ E2=x2 at *;generalize 2 ^ U1=u at *;generalize 2 ^ E=e at *;generalize K*e=v at *;generalize a*Y=p at *;generalize Y*b=z at *;omega
  ·exact hge
 ·intro hab;have h3:a*Y<=Y*b:=by rw[Nat.mul_comm];exact Nat.mul_le_mul_left _ hab
  have hup:=hr.up;by_cases hE0:E=0
  ·subst hE0;rw[Nat.pow_zero,Nat.mul_one]at hup ⊢;have hhi:=hr.hi;rw[Nat.pow_zero,Nat.mul_one]at hhi;have:2 ^ 54<=2 ^ U1:=Nat.pow_le_pow_right (by decide) (by omega);generalize 2 ^ U1=u at *;generalize a*Y=p at *;omega
  ·have hlo:2 ^ 52*2 ^ E<=a*Y:=by rcases hr.lo with h|h;exact absurd h hE0;exact h
   have hE:E<=E2:=by
    rcases Nat.lt_or_ge E2 E with hc|hc
    ·exfalso;have h5:2 ^ (E2+1)<=2 ^ E:=Nat.pow_le_pow_right (by decide) hc;have h6:2 ^ (E2+1)=2*2 ^ E2:=by rw[<-Nat.pow_succ']
     rw[hu22]at h1;generalize 2 ^ (E2+1)=x3 at *;generalize 2 ^ E2=x2 at *;generalize 2 ^ E=e at *;generalize a*Y=p at *;generalize Y*b=z at *;omega
    ·exact hc
   have hm:2 ^ U1=2 ^ (U1-E)*2 ^ E:=by rw[<-Nat.pow_add,Nat.sub_add_cancel (by omega)]
   have hK:K<=2 ^ (U1-E):=by
    rcases Nat.lt_or_ge (2 ^ (U1-E)) K with hc|hc
    ·exfalso;have h7:(2 ^ (U1-E)+1)*2 ^ E<=K*2 ^ E:=Nat.mul_le_mul_right _ hc;rw[Nat.add_mul,Nat.one_mul,<-hm]at h7;by_cases hE2:E=E2
     ·subst hE2;have htie:=hr.tie;have h77:2*(K*2 ^ E2)=2*(a*Y)+2 ^ E2/\K*2 ^ E2=2 ^ U1+2 ^ E2:=c9I hup h7 h3 (c8j h1 hu22);obtain⟨hKo,hKeq⟩:=h77;have hev:=htie hKo
      have hK1:K=2 ^ (U1-E2)+1:=by
       apply Nat.eq_of_mul_eq_mul_right (Nat.two_pow_pos E2)
       rw[hKeq,Nat.add_mul,Nat.one_mul,<-hm]
      have h52:U1-E2=52:=by omega
      rw[h52]at hK1;omega
     ·have h8:2*2 ^ E<=2 ^ E2:=by
       rw[<-Nat.pow_succ'];exact Nat.pow_le_pow_right (by decide) (by omega)
      exact d0U hup h7 h3 (c8j h1 hu22) hlo hr.hi h8 hu22
    ·exact hc
   rw[hm];exact Nat.mul_le_mul_right _ hK
theorem V9:FI 0 0:=⟨a3n,by rw[a6J,Int.zero_mul]⟩
theorem c1y{b Y k F:Nat}(hY:Y=k*2 ^ F)(hd:P9 k F 1 b (2 ^ U1))(hb0:0<b)(hb:b<=2 ^ 44):2 ^ U1<=2 ^ 45*Y/\Y<=2*2 ^ U1:=by
 have hup:=hd.up;have hdn:=hd.dn;have hbl:=hd.bl;rw[Nat.one_mul]at hup hdn hbl;have e:2*k*(2 ^ F*b)=2*(Y*b):=by rw[hY];ac_rfl
 rw[e]at hup hdn;have h1:Y*b<=Y*2 ^ 44:=Nat.mul_le_mul_left _ hb;have h2:Y<=Y*b:=Nat.le_mul_of_pos_right _ hb0;clear hd hY e;generalize 2 ^ F*b=g at *;generalize 2 ^ U1=u at *;generalize Y*b=z at *;have hgu:g<=u:=by omega
 clear hbl;have h3:u<=2*z:=by omega
 have h4:z<=2*u:=by omega
 clear hup hdn hgu hb;exact⟨by omega,by omega⟩
theorem tu{A B r:Nat}{n w:Int}(hA:FI A n)(hB:FI B w)(hw:w≠0)(hn:n.natAbs<=2 ^ 44)(hw2:w.natAbs<=2 ^ 44)(h:A2 .f64 4607182418800017408 B r) :
  fok .mul .f64 A r/\fGe .f64 (fop .mul .f64 A r) 0=decide (0<=n*w)/\(0<=n*w->fLe .f64 (fop .mul .f64 A r) 4607182418800017408=decide (n.natAbs<=w.natAbs)):=by
 obtain⟨q,d1,d2,k,F,d3,d4⟩:=b8J a6w hB (by decide) hw (by omega) (by decide);have hq:floatBits .quo .f64 4607182418800017408 B=some q:=d1;unfold A2 at h;rw[hq]at h;have h:q=r:=h.symm;subst h;have hd0:decide ((1:Int)<0)=false:=rfl;rw[hd0,Bool.false_xor]at d4;rw[show (1:Int).natAbs=1 from rfl]at d3;obtain⟨Y,hY⟩:∃ Y,Y=k*2 ^ F:=⟨_,rfl⟩;rw[<-hY]at d4;obtain⟨b1,b2⟩:=c1y hY d3 (by omega) hw2;have hp:0<2 ^ U1:=Nat.two_pow_pos _
 have hY0:0<Y:=by
  generalize 2 ^ U1=u at *;omega
 have hYb:2 ^ U0<=Y:=by
  have h1:2 ^ U0*2 ^ 45<=2 ^ U1:=by
   rw[<-Nat.pow_add];exact Nat.pow_le_pow_right (by decide) (by decide)
  generalize 2 ^ U1=u at *;generalize 2 ^ U0=u0 at *;omega
 have hVabs:(V q).natAbs=Y:=by rw[d4];split <;> omega
 have hVs:decide (V q<0)=decide (w<0):=by
  rw[d4];by_cases hneg:w<0
  ·rw[decide_eq_true hneg];simp only[if_true];exact decide_eq_true (by omega)
  ·rw[decide_eq_false hneg];simp only[Bool.false_eq_true,if_false];exact decide_eq_false (by omega)
 by_cases h0:n=0
 ·subst h0;have hv0:V A=0:=by rw[hA.2,Int.zero_mul]
  obtain⟨t,m1,m2⟩:=b5A hA.1 d2 (.inl hv0);have m3:floatBits .mul .f64 A q=some t:=m1;have hf:fop .mul .f64 A q=t:=by unfold fop;rw[m3];rfl
  refine⟨by unfold fok;rw[m3];rfl,?_,λ_=>?_⟩
  ·rw[hf,a4o m2 V9,Int.zero_mul]
  ·rw[hf,a3s m2 a6w];exact decide_eq_decide.2 (by omega)
 ·have hpi:=C6 U1
  have hv0:V A≠0:=by
   rw[hA.2];intro e;rcases Int.mul_eq_zero.1 e with e|e
   ·exact h0 e
   ·omega
  have hq0:V q≠0:=by omega
  obtain⟨mag,place,m1,m2,m3,m4⟩:=b6X hA.1 d2 (c4N hA) (.inr (by rw[hVabs];exact hYb)) hv0 hq0
  have hP:mag*2 ^ (place+1074).toNat=n.natAbs*Y:=by
   apply Nat.eq_of_mul_eq_mul_right hp
   rw[m4,hVabs,hA.2,Int.natAbs_mul,A0,Nat.mul_right_comm]
  have hlog:place+mag.log2<=1022:=by
   have h1:2 ^ mag.log2*2 ^ (place+1074).toNat<=2 ^ 45*2 ^ U1:=by
    apply Nat.le_trans (Nat.mul_le_mul_right _ (Nat.log2_self_le m2))
    rw[hP]
    apply Nat.le_trans (Nat.mul_le_mul hn b2)
    generalize 2 ^ U1=u;omega
   rw[<-Nat.pow_add,<-Nat.pow_add]at h1;have h2:=(Nat.pow_le_pow_iff_right (by decide:1<2)).1 h1;have:U1=1074:=rfl;omega
  obtain⟨f1,f2⟩:=Z8 (decide (V A<0) ^^ decide (V q<0)) m2 hlog;have hR:=b2G (decide (V A<0) ^^ decide (V q<0)) m2 m3;have hpos:=(a4l (decide (V A<0) ^^ decide (V q<0)) m2 m3).1;rw[hP]at hR
  have hsA:decide (V A<0)=decide (n<0):=by
   refine decide_eq_decide.2 ?_;rw[hA.2];constructor
   ·intro hh;rcases Int.lt_or_le n 0 with h1|h1
    ·exact h1
    ·have:=Int.mul_nonneg h1 (Int.le_of_lt hpi);omega
   ·intro hh;exact Int.mul_neg_of_neg_of_pos hh hpi
  rw[hsA,hVs]at f1 f2 hR hpos m1;have m5:floatBits .mul .f64 A q=some (double.nearest (decide (n<0) ^^ decide (w<0)) mag place):=m1;have hf:fop .mul .f64 A q=double.nearest (decide (n<0) ^^ decide (w<0)) mag place:=by unfold fop;rw[m5];rfl
  have hle:=c5K hY d3 (by omega) hw2 hR;have hpc:∀ k:Nat,((2 ^ k:Nat):Int)=2 ^ k:=λk=>by rw[Int.natCast_pow];rfl
  have hone:V 4607182418800017408=((2 ^ U1:Nat):Int):=by rw[a6w.2,Int.one_mul,hpc]
  generalize hv:A9 (decide (n<0) ^^ decide (w<0)) mag place*2 ^ (y4 mag place+1074).toNat=v at *;refine⟨by unfold fok;rw[m5];rfl,?_,λhnn=>?_⟩
  ·rw[hf,b6z f1 a3n,a6J,f2];refine decide_eq_decide.2 ?_;have hms:=U3 n w;have hab:0<n.natAbs*w.natAbs:=Nat.mul_pos (by omega) (by omega);generalize n.natAbs*w.natAbs=m at *;rw[hms];cases (decide (n<0) ^^ decide (w<0))
   ·simp only[Bool.false_eq_true,if_false];omega
   ·simp only[if_true];omega
  ·rw[hf,c8o f1 a6w.1,hone,f2];refine decide_eq_decide.2 ?_;have hms:=U3 n w;have hab:0<n.natAbs*w.natAbs:=Nat.mul_pos (by omega) (by omega);generalize n.natAbs*w.natAbs=m at *;rw[hms]at hnn
   revert hnn
   cases (decide (n<0) ^^ decide (w<0))
   ·simp only[Bool.false_eq_true,if_false];intro _;rw[<-hle];exact Int.ofNat_le
   ·simp only[if_true];intro hnn;omega
end Go.Fl
