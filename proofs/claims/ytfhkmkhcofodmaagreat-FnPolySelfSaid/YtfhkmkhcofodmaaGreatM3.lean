/- Parts of a proof, in order: what each says stands at its head. No conditions. -/
import Derived.ChangeKeysEq
import Derived.DeepKeys
import Derived.KernelRfl
import Derived.Test.YtfhkmkhcofodmaaGreatM2
import Derived.Test.YtfhkmkhcofodmaaGreatM1
namespace Go.Fl
open Ieee
theorem FI.order{x y:Nat}{a b:Int}(hx:FI x a)(hy:FI y b):double.order x y=some (compare a b):=by
 rw[a8a hx.1 hy.1,hx.2,hy.2,a2B]
theorem L4(s:Bool):FI (double.word s 0) 0:=by
 obtain⟨h1,h2⟩:=b8o s 0 (by decide);refine⟨h1,?_⟩;rw[h2];cases s <;> simp[a0h]
theorem a4P(neg:Bool){mag k:Nat}{place:Int}(hp : -1074<=place)(hk0:k≠0)(hk:k<2 ^ 53)(h:mag*2 ^ (place+1074).toNat=k*2 ^ U1) :
  FI (double.nearest neg mag place) (if neg then -(k:Int)else(k:Int)):=by
 have hkl:k.log2<=52:=by
  have:=(Nat.log2_lt hk0).2 hk;omega
 have hU:U1=1074:=rfl;by_cases hs:place<=0
 ·have e:mag=k*2 ^ (-place).toNat:=by
   have e1:U1=(-place).toNat+(place+1074).toNat:=by rw[hU];omega
   rw[e1,Nat.pow_add,<-Nat.mul_assoc]at h;exact Nat.eq_of_mul_eq_mul_right (Nat.two_pow_pos _) h
  subst e;obtain⟨h1,h2⟩:=N9 neg hk0 hk (sh:=(-place).toNat) (place:=place) (by omega) (by omega);refine⟨h1,?_⟩;rw[h2];have e2:(place+((-place).toNat:Int)+1074).toNat=U1:=by rw[hU];omega
  rw[e2];generalize U1=u;rw[Int.natCast_mul,Int.natCast_pow];cases neg <;> simp[Int.neg_mul]
 ·have e:k=mag*2 ^ place.toNat:=by
   have e1:(place+1074).toNat=place.toNat+U1:=by rw[hU];omega
   rw[e1,Nat.pow_add,<-Nat.mul_assoc]at h;exact(Nat.eq_of_mul_eq_mul_right (Nat.two_pow_pos _) h).symm
  have hm0:mag≠0:=λe0=>hk0 (by rw[e,e0,Nat.zero_mul])
  have hle:mag<=k:=by rw[e];exact Nat.le_mul_of_pos_right _ (Nat.two_pow_pos _)
  have hlog:k.log2=mag.log2+place.toNat:=by rw[e,a0L hm0]
  obtain⟨h1,h2⟩:=N9 neg hm0 (Nat.lt_of_le_of_lt hle hk) (sh:=0) (place:=place) (by omega) (by omega);rw[Nat.pow_zero,Nat.mul_one]at h1 h2;refine⟨h1,?_⟩;rw[h2];have e2:(place+(0:Nat)+1074).toNat=place.toNat+U1:=by rw[hU];omega
  rw[e2,Nat.pow_add,<-Nat.mul_assoc,<-e];generalize U1=u;rw[Int.natCast_mul,Int.natCast_pow];cases neg <;> simp[Int.neg_mul]
theorem B7(k:Nat):((2:Int) ^ k).natAbs=2 ^ k:=by rw[Int.natAbs_pow];rfl
theorem C9(s:Bool)(m u:Nat):(signed s m u).natAbs=m*2 ^ u:=by
 rw[D5];cases s
 ·exact Int.natAbs_natCast _
 ·exact(Int.natAbs_neg _).trans (Int.natAbs_natCast _)
theorem b6F{s t:Bool}{m n:Nat}{i j:Int}{a b:Int}(hi : -1074<=i)(hj : -1074<=j)(h1:signed s m (i+1074).toNat=a*2 ^ U1)(h2:signed t n (j+1074).toNat=b*2 ^ U1)
  (hab:(a+b).natAbs<2 ^ 53):∃ d,Datum.sum (.number s m i) (.number t n j)=some d/\FI (double.write d) (a+b):=by
 refine⟨_,rfl,?_⟩;simp only[Format.write];generalize htot:signed s m (i-min i j).toNat+signed t n (j-min i j).toNat=tot;have e1:(i+1074).toNat=(i-min i j).toNat+(min i j+1074).toNat:=by omega
 have e2:(j+1074).toNat=(j-min i j).toNat+(min i j+1074).toNat:=by omega
 have hkey:tot*2 ^ (min i j+1074).toNat=(a+b)*2 ^ U1:=by
  rw[Int.add_mul,<-h1,<-h2,e1,e2,J7,J7,<-Int.add_mul,htot]
 have hpos:∀ k:Nat,(2:Int) ^ k≠0:=λk=>Int.ne_of_gt (E8 k)
 by_cases h0:tot=0
 ·have:a+b=0:=by
   rw[h0,Int.zero_mul]at hkey;rcases Int.mul_eq_zero.1 hkey.symm with h|h
   ·exact h
   ·exact absurd h (hpos _)
  rw[this];have hz:tot.natAbs=0:=by rw[h0];rfl
  unfold Format.nearest;rw[if_pos hz];exact L4 _
 ·have hab0:a+b≠0:=by
   intro e;rw[e,Int.zero_mul]at hkey;rcases Int.mul_eq_zero.1 hkey with h|h
   ·exact h0 h
   ·exact absurd h (hpos _)
  have hk:tot.natAbs*2 ^ (min i j+1074).toNat=(a+b).natAbs*2 ^ U1:=by
   have:=congrArg Int.natAbs hkey;rw[Int.natAbs_mul,Int.natAbs_mul,B7,B7]at this;exact this
  rw[if_neg h0];have:=a4P (decide (tot<0)) (by omega) (by omega:(a+b).natAbs≠0) hab hk
  have hsign:tot<0↔a+b<0:=by
   have hp1:=E8 (min i j+1074).toNat;have hp2:=E8 U1;constructor
   ·intro h;have h3:tot*2 ^ (min i j+1074).toNat<0:=Int.mul_neg_of_neg_of_pos h hp1;rw[hkey]at h3;rcases Int.lt_or_le (a+b) 0 with h4|h4
    ·exact h4
    ·have:=Int.mul_nonneg h4 (Int.le_of_lt hp2);omega
   ·intro h;have h3:(a+b)*2 ^ U1<0:=Int.mul_neg_of_neg_of_pos h hp2;rw[<-hkey]at h3;rcases Int.lt_or_le tot 0 with h4|h4
    ·exact h4
    ·have:=Int.mul_nonneg h4 (Int.le_of_lt hp1);omega
  have hval:(if decide (tot<0)then -((a+b).natAbs:Int)else((a+b).natAbs:Int))=a+b:=by
   by_cases h:tot<0
   ·simp only[h,decide_true,if_true];have:=hsign.1 h;omega
   ·simp only[h,decide_false,Bool.false_eq_true,if_false];have:=mt hsign.2 h;omega
  rw[hval]at this;exact this
theorem c3J{x y:Nat}{a b:Int}(hx:FI x a)(hy:FI y b)(h:(a+b).natAbs<2 ^ 53):∃ r,double.add x y=some r/\FI r (a+b):=by
 obtain⟨s,m,i,h1,h2,h3,_⟩:=A8 hx.1;obtain⟨t,n,j,h4,h5,h6,_⟩:=A8 hy.1;rw[hx.2]at h3;rw[hy.2]at h6;obtain⟨d,hd,hr⟩:=b6F h2 h5 h3 h6 h;refine⟨_,?_,hr⟩;unfold Format.add;rw[h1,h4,hd];rfl
theorem a6D(s:Bool)(m u:Nat):signed (!s) m u = -signed s m u:=by
 unfold signed;cases s <;> simp
theorem b2U{x y:Nat}{a b:Int}(hx:FI x a)(hy:FI y b)(h:(a-b).natAbs<2 ^ 53):∃ r,double.sub x y=some r/\FI r (a-b):=by
 obtain⟨s,m,i,h1,h2,h3,_⟩:=A8 hx.1;obtain⟨t,n,j,h4,h5,h6,_⟩:=A8 hy.1;rw[hx.2]at h3;rw[hy.2]at h6;have h7:signed (!t) n (j+1074).toNat = -b*2 ^ U1:=by rw[a6D,h6,Int.neg_mul]
 rw[Int.sub_eq_add_neg]at h ⊢;obtain⟨d,hd,hr⟩:=b6F h2 h5 h3 h7 h;refine⟨_,?_,hr⟩;unfold Format.sub;rw[h1,h4];show Option.map double.write (Datum.sum (.number s m i) (.number (!t) n j))=_;rw[hd];rfl
theorem a1h{m:Nat}{i:Int}{k:Nat}(hi : -1074<=i)(hm:m<2 ^ 53)(hk:k≠0)(h:m*2 ^ (i+1074).toNat=k*2 ^ U1) : -53<i:=by
 have hU:U1=1074:=rfl;rcases Int.lt_or_le (-53) i with h1|h1
 ·exact h1
 ·exfalso;obtain⟨c,hc⟩:∃ c:Nat,c=1021:=⟨_,rfl⟩;have h2:(i+1074).toNat<=c:=by omega
  have h3:m*2 ^ (i+1074).toNat<2 ^ 53*2 ^ c:=by
   apply Nat.lt_of_lt_of_le (Nat.mul_lt_mul_of_pos_right hm (Nat.two_pow_pos _))
   exact Nat.mul_le_mul_left _ (Nat.pow_le_pow_right (by decide) h2)
  rw[<-Nat.pow_add,h]at h3;have h4:2 ^ U1<=k*2 ^ U1:=Nat.le_mul_of_pos_left _ (Nat.pos_of_ne_zero hk);have h5:53+c=U1:=by rw[hU,hc]
  rw[h5]at h3;exact absurd h3 (Nat.not_lt.2 h4)
theorem c3Y{x y:Nat}{a b:Int}(hx:FI x a)(hy:FI y b)(h:(a*b).natAbs<2 ^ 53):∃ r,double.mul x y=some r/\FI r (a*b):=by
 obtain⟨s,m,i,h1,h2,h3,hm⟩:=A8 hx.1;obtain⟨t,n,j,h4,h5,h6,hn⟩:=A8 hy.1;rw[hx.2]at h3;rw[hy.2]at h6
 have hma:m*2 ^ (i+1074).toNat=a.natAbs*2 ^ U1:=by
  have:=congrArg Int.natAbs h3;rw[C9,Int.natAbs_mul,B7]at this;exact this
 have hnb:n*2 ^ (j+1074).toNat=b.natAbs*2 ^ U1:=by
  have:=congrArg Int.natAbs h6;rw[C9,Int.natAbs_mul,B7]at this;exact this
 refine⟨double.nearest (s ^^ t) (m*n) (i+j),?_,?_⟩
 ·unfold Format.mul;rw[h1,h4];rfl
 ·by_cases h0:m*n=0
  ·have:a*b=0:=by
    rcases Nat.mul_eq_zero.1 h0 with h7|h7
    ·rw[h7,Nat.zero_mul]at hma;rcases Nat.mul_eq_zero.1 hma.symm with h8|h8
     ·rw[Int.natAbs_eq_zero.1 h8,Int.zero_mul]
     ·exact absurd h8 (Nat.ne_of_gt (Nat.two_pow_pos _))
    ·rw[h7,Nat.zero_mul]at hnb;rcases Nat.mul_eq_zero.1 hnb.symm with h8|h8
     ·rw[Int.natAbs_eq_zero.1 h8,Int.mul_zero]
     ·exact absurd h8 (Nat.ne_of_gt (Nat.two_pow_pos _))
   rw[this];unfold Format.nearest;rw[if_pos h0];exact L4 _
  ·have ha:a.natAbs≠0:=by
    intro e;rw[e,Nat.zero_mul]at hma;rcases Nat.mul_eq_zero.1 hma with h8|h8
    ·exact h0 (by rw[h8,Nat.zero_mul])
    ·exact absurd h8 (Nat.ne_of_gt (Nat.two_pow_pos _))
   have hb:b.natAbs≠0:=by
    intro e;rw[e,Nat.zero_mul]at hnb;rcases Nat.mul_eq_zero.1 hnb with h8|h8
    ·exact h0 (by rw[h8,Nat.mul_zero])
    ·exact absurd h8 (Nat.ne_of_gt (Nat.two_pow_pos _))
   have hi:=a1h h2 hm ha hma;have hj:=a1h h5 hn hb hnb;have hU:U1=1074:=rfl
   have hkey:m*n*2 ^ (i+j+1074).toNat=(a.natAbs*b.natAbs)*2 ^ U1:=by
    have e1:(i+1074).toNat+(j+1074).toNat=(i+j+1074).toNat+U1:=by rw[hU];omega
    have e2:(m*n*2 ^ (i+j+1074).toNat)*2 ^ U1=(a.natAbs*b.natAbs*2 ^ U1)*2 ^ U1:=by
     calc (m*n*2 ^ (i+j+1074).toNat)*2 ^ U1=m*n*2 ^ ((i+j+1074).toNat+U1):=by rw[Nat.pow_add,Nat.mul_assoc]
      _=m*n*2 ^ ((i+1074).toNat+(j+1074).toNat):=by rw[e1]
      _=(m*2 ^ (i+1074).toNat)*(n*2 ^ (j+1074).toNat):=by rw[Nat.pow_add];ac_rfl
      _=(a.natAbs*2 ^ U1)*(b.natAbs*2 ^ U1):=by rw[hma,hnb]
      _=_:=by generalize (2:Nat) ^ U1=u;ac_rfl
    exact Nat.eq_of_mul_eq_mul_right (Nat.two_pow_pos _) e2
   have hk0:a.natAbs*b.natAbs≠0:=Nat.mul_ne_zero ha hb;have hk:a.natAbs*b.natAbs<2 ^ 53:=by rw[<-Int.natAbs_mul];exact h
   have:=a4P (s ^^ t) (by omega) hk0 hk hkey
   have hsa:s=decide (a<0):=by
    have hp:=E8 U1;rw[D5]at h3;cases s
    ·have:0<=a*2 ^ U1:=by rw[<-h3];exact Int.natCast_nonneg _
     have:¬a<0:=λhneg=>by have:=Int.mul_neg_of_neg_of_pos hneg hp;omega
     exact(decide_eq_false this).symm
    ·have h9:a*2 ^ U1<=0:=by rw[<-h3];exact Int.neg_nonpos_of_nonneg (Int.natCast_nonneg _)
     have:a<0:=by
      rcases Int.lt_or_le a 0 with h10|h10
      ·exact h10
      ·have:0<a:=by omega
       have:=Int.mul_pos this hp;omega
     exact(decide_eq_true this).symm
   have hsb:t=decide (b<0):=by
    have hp:=E8 U1;rw[D5]at h6;cases t
    ·have:0<=b*2 ^ U1:=by rw[<-h6];exact Int.natCast_nonneg _
     have:¬b<0:=λhneg=>by have:=Int.mul_neg_of_neg_of_pos hneg hp;omega
     exact(decide_eq_false this).symm
    ·have h9:b*2 ^ U1<=0:=by rw[<-h6];exact Int.neg_nonpos_of_nonneg (Int.natCast_nonneg _)
     have:b<0:=by
      rcases Int.lt_or_le b 0 with h10|h10
      ·exact h10
      ·have:0<b:=by omega
       have:=Int.mul_pos this hp;omega
     exact(decide_eq_true this).symm
   have hval:(if (s ^^ t)then -((a.natAbs*b.natAbs:Nat):Int)else((a.natAbs*b.natAbs:Nat):Int))=a*b:=by
    rw[hsa,hsb,Int.natCast_mul];by_cases hA:a<0 <;> by_cases hB:b<0
    ·have e1:(a.natAbs:Int) = -a:=by omega
     have e2:(b.natAbs:Int) = -b:=by omega
     simp only[hA,hB,decide_true,Bool.xor_self,Bool.false_eq_true,if_false,e1,e2,Int.neg_mul_neg]
    ·have e1:(a.natAbs:Int) = -a:=by omega
     have e2:(b.natAbs:Int)=b:=by omega
     simp only[hA,hB,decide_true,decide_false,Bool.xor_false,if_true,e1,e2,Int.neg_mul,Int.neg_neg]
    ·have e1:(a.natAbs:Int)=a:=by omega
     have e2:(b.natAbs:Int) = -b:=by omega
     simp only[hA,hB,decide_true,decide_false,Bool.false_xor,if_true,e1,e2,Int.mul_neg,Int.neg_neg]
    ·have e1:(a.natAbs:Int)=a:=by omega
     have e2:(b.natAbs:Int)=b:=by omega
     simp only[hA,hB,decide_false,Bool.xor_self,Bool.false_eq_true,if_false,e1,e2]
   rw[hval]at this;exact this
theorem b3d(neg:Bool)(n drop:Nat)(h:2*n=(2*Toward.even.cut neg n drop+1)*2 ^ drop∨2*n+2 ^ drop=2*Toward.even.cut neg n drop*2 ^ drop):Toward.even.cut neg n drop % 2=0:=by
 unfold Toward.cut at *;simp only[Nat.shiftLeft_eq,Nat.one_mul]at *;by_cases hd:drop<=n.log2+2
 ·rw[Nat.min_eq_left hd]at *;have hg:0<2 ^ drop:=Nat.two_pow_pos _;have hdm:=Nat.div_add_mod n (2 ^ drop);have hlt:=Nat.mod_lt n hg;generalize 2 ^ drop=g at *;have hm:g*(n / g)=n / g*g:=Nat.mul_comm _ _;rw[hm]at hdm;generalize n / g=q at *;generalize n % g=r at *;by_cases h1:g<2*r
  ·exfalso;simp only[h1,decide_true,Bool.true_or,Bool.toNat_true]at h;have e1:(2*(q+1)+1)*g=2*(q*g)+3*g:=by rw[Nat.add_mul,Nat.mul_assoc,Nat.add_mul];omega
   have e2:2*(q+1)*g=2*(q*g)+2*g:=by rw[Nat.mul_assoc,Nat.add_mul];omega
   omega
  ·by_cases h2:g=2*r
   ·have e2:(g==2*r)=true:=by simp[h2]
    have e1:(decide (g<2*r))=false:=by simp[h1]
    by_cases h3:q % 2=1
    ·have e3:(q % 2==1)=true:=by simp[h3]
     simp only[e1,e2,e3,Bool.false_or,Bool.true_and,Bool.toNat_true];omega
    ·have e3:(q % 2==1)=false:=by simp[h3]
     simp only[e1,e3,Bool.and_false,Bool.or_false,Bool.toNat_false];omega
   ·exfalso;have e2:(g==2*r)=false:=by simp[h2]
    have e1:(decide (g<2*r))=false:=by simp[h1]
    simp only[e1,e2,Bool.false_and,Bool.or_false,Bool.toNat_false,Nat.add_zero]at h;have e3:(2*q+1)*g=2*(q*g)+g:=by rw[Nat.add_mul,Nat.mul_assoc];omega
    have e4:2*q*g=2*(q*g):=by rw[Nat.mul_assoc]
    omega
 ·have hd':n.log2+2<drop:=by omega
  rw[Nat.min_eq_right (by omega)];have h1:n<2 ^ (n.log2+1):=Nat.lt_log2_self;have h2:2 ^ (n.log2+2)=2*2 ^ (n.log2+1):=by rw[Nat.pow_succ];omega
  have h4:n / 2 ^ (n.log2+2)=0:=Nat.div_eq_of_lt (by omega);have h5:n % 2 ^ (n.log2+2)=n:=Nat.mod_eq_of_lt (by omega);rw[h4,h5];have h6:¬2 ^ (n.log2+2)<2*n:=by omega
  have h7:(2 ^ (n.log2+2)==2*n)=false:=by simp;omega
  simp only[h6,h7,decide_false,Bool.false_and,Bool.or_false,Bool.toNat_false,Nat.add_zero]
structure U8 (kept E A B u:Nat):Prop where
 lo:2 ^ 52<=kept
 hi:kept<=2 ^ 53
 up:(2*kept)*(2 ^ E*B)<=2*(A*u)+2 ^ E*B
 dn:2*(A*u)<=(2*kept)*(2 ^ E*B)+2 ^ E*B
 bl:2 ^ 52*(2 ^ E*B)<=A*u
 bh:A*u<2 ^ 53*(2 ^ E*B)
 tie:2*(A*u)=(2*kept)*(2 ^ E*B)+2 ^ E*B∨2*(A*u)+2 ^ E*B=(2*kept)*(2 ^ E*B)->kept % 2=0
theorem b4T{m n B5 Q g kept:Nat}(hn:0<n)(hQ:Q=2*(m*2 ^ B5 / n)+(m*2 ^ B5 % n != 0).toNat){D:Nat}(hD:2<=D)(hg:g=2 ^ D)(h1:2*(kept*g)<=2*Q+g)(h2:2*Q<=2*(kept*g)+g)
  (ht:2*Q=(2*kept+1)*g∨2*Q+g=2*kept*g->kept % 2=0) (hl:2 ^ 52*g<=Q) (hh:Q<2 ^ 53*g) :
  (2*kept)*(g*n)<=2*(2*(m*2 ^ B5))+g*n/\2*(2*(m*2 ^ B5))<=(2*kept)*(g*n)+g*n/\2 ^ 52*(g*n)<=2*(m*2 ^ B5)/\2*(m*2 ^ B5)<2 ^ 53*(g*n)/\
  (2*(2*(m*2 ^ B5))=(2*kept)*(g*n)+g*n∨2*(2*(m*2 ^ B5))+g*n=(2*kept)*(g*n)->kept % 2=0):=by
 generalize hdv:m*2 ^ B5=dv at *;have hdm:=Nat.div_add_mod dv n;have hlt:=Nat.mod_lt dv hn;generalize dv / n=q at *;generalize dv % n=r at *;obtain⟨g4,hg4⟩:∃ g4,g=4*g4:=⟨2 ^ (D-2),by rw[hg];have e:2 ^ D=2 ^ (2+(D-2)):=(by congr 1;omega);rw[e,Nat.pow_add]⟩;by_cases hr:r=0
 ·
  have hQ':Q=2*q:=by rw[hQ,hr];rfl
  have hY:2*dv=Q*n:=by rw[hQ',Nat.mul_assoc,Nat.mul_comm q n];omega
  rw[hY];refine⟨?_,?_,?_,?_,?_⟩
  ·have:=Nat.mul_le_mul_right n h1
   calc 2*kept*(g*n)=2*(kept*g)*n:=by ac_rfl
    _<=(2*Q+g)*n:=this
    _=_:=by rw[Nat.add_mul,Nat.mul_assoc]
  ·have:=Nat.mul_le_mul_right n h2
   calc 2*(Q*n)=2*Q*n:=by ac_rfl
    _<=(2*(kept*g)+g)*n:=this
    _=_:=by rw[Nat.add_mul];congr 1;ac_rfl
  ·calc 2 ^ 52*(g*n)=2 ^ 52*g*n:=by ac_rfl
    _<=Q*n:=Nat.mul_le_mul_right n hl
  ·calc Q*n<2 ^ 53*g*n:=Nat.mul_lt_mul_of_pos_right hh hn
    _=_:=by ac_rfl
  ·rintro(h|h)
   ·refine ht (.inl (Nat.eq_of_mul_eq_mul_right hn ?_))
    calc 2*Q*n=2*(Q*n):=by ac_rfl
     _=_:=h
     _=_:=by rw[Nat.add_mul,Nat.one_mul,Nat.add_mul];congr 1;ac_rfl
   ·refine ht (.inr (Nat.eq_of_mul_eq_mul_right hn ?_))
    calc (2*Q+g)*n=2*(Q*n)+g*n:=by rw[Nat.add_mul];congr 1;ac_rfl
     _=_:=h
     _=_:=by ac_rfl
 ·have hQ':Q=2*q+1:=by
   rw[hQ];have:(r != 0)=true:=by simp[hr]
   rw[this];rfl
  have hY1:(Q-1)*n<2*dv:=by
   rw[hQ',Nat.add_sub_cancel,Nat.mul_assoc,Nat.mul_comm q n];omega
  have hY2:2*dv<(Q+1)*n:=by
   have:(Q+1)*n=2*(n*q)+2*n:=by rw[hQ',Nat.add_mul,Nat.add_mul,Nat.mul_assoc,Nat.mul_comm q n];omega
   omega
  have hQ1:1<=Q:=by omega
  have f1:2*(kept*g)<=2*(Q-1)+g:=by
   have e1:kept*g=4*(kept*g4):=by rw[hg4];ac_rfl
   omega
  have f2:2*(Q+1)<=2*(kept*g)+g:=by
   have e1:kept*g=4*(kept*g4):=by rw[hg4];ac_rfl
   omega
  have s1:2*kept*(g*n)<2*(2*dv)+g*n:=by
   calc 2*kept*(g*n)=2*(kept*g)*n:=by ac_rfl
    _<=(2*(Q-1)+g)*n:=Nat.mul_le_mul_right n f1
    _=2*((Q-1)*n)+g*n:=by rw[Nat.add_mul,Nat.mul_assoc]
    _<_:=by omega
  have s2:2*(2*dv)<2*kept*(g*n)+g*n:=by
   calc 2*(2*dv)<2*((Q+1)*n):=by omega
    _=2*(Q+1)*n:=by ac_rfl
    _<=(2*(kept*g)+g)*n:=Nat.mul_le_mul_right n f2
    _=_:=by rw[Nat.add_mul];congr 1;ac_rfl
  refine⟨Nat.le_of_lt s1,Nat.le_of_lt s2,?_,?_,?_⟩
  ·have f3:2 ^ 52*g<=Q-1:=by
    have e1:2 ^ 52*g=4*(2 ^ 52*g4):=by rw[hg4];ac_rfl
    generalize 2 ^ 52*g4=z at *;omega
   calc 2 ^ 52*(g*n)=2 ^ 52*g*n:=by ac_rfl
    _<=(Q-1)*n:=Nat.mul_le_mul_right n f3
    _<=_:=Nat.le_of_lt hY1
  ·have f3:Q+1<=2 ^ 53*g:=by omega
   calc 2*dv<(Q+1)*n:=hY2
    _<=2 ^ 53*g*n:=Nat.mul_le_mul_right n f3
    _=_:=by ac_rfl
  ·rintro(h|h)
   ·exact absurd h (Nat.ne_of_lt s2)
   ·exact absurd h (Nat.ne_of_gt s1)
theorem a1m{n:Nat}(h:n≠0):2 ^ n.log2<=n/\n<2 ^ (n.log2+1):=⟨Nat.log2_self_le h,Nat.lt_log2_self⟩
theorem b7F{x y:Nat}{a b:Int}(hx:FI x a)(hy:FI y b)(ha:a≠0)(hb:b≠0)(hb2:b.natAbs<2 ^ 53)(ha2:a.natAbs<2 ^ 53) :
  ∃ r,double.div x y=some r/\Fin r/\∃ kept E,U8 kept E a.natAbs b.natAbs (2 ^ U1)/\V r=if (decide (a<0) ^^ decide (b<0))then -((kept*2 ^ E:Nat):Int)else((kept*2 ^ E:Nat):Int):=by
 obtain⟨s,m,i,h1,h2,h3,hm⟩:=A8 hx.1;obtain⟨t,n,j,h4,h5,h6,hn⟩:=A8 hy.1;rw[hx.2]at h3;rw[hy.2]at h6
 have hma:m*2 ^ (i+1074).toNat=a.natAbs*2 ^ U1:=by
  have:=congrArg Int.natAbs h3;rw[C9,Int.natAbs_mul,B7]at this;exact this
 have hnb:n*2 ^ (j+1074).toNat=b.natAbs*2 ^ U1:=by
  have:=congrArg Int.natAbs h6;rw[C9,Int.natAbs_mul,B7]at this;exact this
 have ha':a.natAbs≠0:=by omega
 have hb':b.natAbs≠0:=by omega
 have hpos:∀ k:Nat,(2:Nat) ^ k≠0:=λk=>Nat.ne_of_gt (Nat.two_pow_pos _)
 have hm0:m≠0:=λe=>by
  rw[e,Nat.zero_mul]at hma;rcases Nat.mul_eq_zero.1 hma.symm with h|h
  ·exact ha' h
  ·exact hpos _ h
 have hn0:n≠0:=λe=>by
  rw[e,Nat.zero_mul]at hnb;rcases Nat.mul_eq_zero.1 hnb.symm with h|h
  ·exact hb' h
  ·exact hpos _ h
 have hi:=a1h h2 hm ha' hma;have hj:=a1h h5 hn hb' hnb;have hU:U1=1074:=rfl
 have hj2:j<53:=by
  rcases Int.lt_or_le j 53 with h|h
  ·exact h
  ·exfalso;obtain⟨c,hc⟩:∃ c:Nat,c=53:=⟨_,rfl⟩;have e1:(j+1074).toNat=U1+(j.toNat-c+c):=by rw[hU];omega
   rw[e1,Nat.pow_add,Nat.pow_add,Nat.mul_comm (2 ^ U1),<-Nat.mul_assoc]at hnb;have e2:=Nat.eq_of_mul_eq_mul_right (Nat.two_pow_pos _) hnb
   have e3:2 ^ c<=b.natAbs:=by
    rw[<-e2,<-Nat.mul_assoc];exact Nat.le_mul_of_pos_left _ (Nat.mul_pos (Nat.pos_of_ne_zero hn0) (Nat.two_pow_pos _))
   rw[hc]at e3;omega
 have hmi:i<53:=by
  rcases Int.lt_or_le i 53 with h|h
  ·exact h
  ·exfalso;obtain⟨c,hc⟩:∃ c:Nat,c=53:=⟨_,rfl⟩;have e1:(i+1074).toNat=U1+(i.toNat-c+c):=by rw[hU];omega
   rw[e1,Nat.pow_add,Nat.pow_add,Nat.mul_comm (2 ^ U1),<-Nat.mul_assoc]at hma;have e2:=Nat.eq_of_mul_eq_mul_right (Nat.two_pow_pos _) hma
   have e3:2 ^ c<=a.natAbs:=by
    rw[<-e2,<-Nat.mul_assoc];exact Nat.le_mul_of_pos_left _ (Nat.mul_pos (Nat.pos_of_ne_zero hm0) (Nat.two_pow_pos _))
   rw[hc]at e3;omega
 have hlm:m.log2<=52:=by
  have:=(Nat.log2_lt hm0).2 hm;omega
 have hln:n.log2<=52:=by
  have:=(Nat.log2_lt hn0).2 hn;omega
 have hmore:(52+2)+n.log2-m.log2=54+n.log2-m.log2:=rfl;generalize hmo:54+n.log2-m.log2=B5 at *
 let Q:=2*(m*2 ^ B5 / n)+(m*2 ^ B5 % n != 0).toNat
 have hQdef:Q=2*(m*2 ^ B5 / n)+(m*2 ^ B5 % n != 0).toNat:=rfl
 clear_value Q
 have hdiv:double.div x y=some (double.nearest (s ^^ t) Q (i-j-B5-1)):=by
  unfold Format.div;rw[h1,h4];simp only[Datum.quotient,hn0,if_false,frb,Option.map_some,Format.write];rw[show (52+2)+n.log2-m.log2=B5 from hmo,Nat.shiftLeft_eq,hQdef]
 have hq53:2 ^ 53<=m*2 ^ B5 / n:=by
  rw[Nat.le_div_iff_mul_le (Nat.pos_of_ne_zero hn0)];obtain⟨l1,_⟩:=a1m hm0;obtain⟨_,l4⟩:=a1m hn0;have e1:m.log2+B5=53+(n.log2+1):=by omega
  calc 2 ^ 53*n<=2 ^ 53*2 ^ (n.log2+1):=Nat.mul_le_mul_left _ (Nat.le_of_lt l4)
   _=2 ^ m.log2*2 ^ B5:=by rw[<-Nat.pow_add,<-Nat.pow_add,e1]
   _<=m*2 ^ B5:=Nat.mul_le_mul_right _ l1
 have hQ54:2 ^ 54<=Q:=by rw[hQdef];omega
 have hQ0:Q≠0:=by omega
 obtain⟨q1,q2⟩:=a1m hQ0;have hL54:54<=Q.log2:=by rw[Nat.le_log2 hQ0];exact hQ54
 have hLup:Q.log2<=161:=by
  have hQup:Q<2 ^ 162:=by
   have:m*2 ^ B5 / n<=m*2 ^ B5:=Nat.div_le_self _ _
   have h7:m*2 ^ B5<2 ^ 53*2 ^ 106:=by
    apply Nat.lt_of_lt_of_le (Nat.mul_lt_mul_of_pos_right hm (Nat.two_pow_pos _))
    exact Nat.mul_le_mul_left _ (Nat.pow_le_pow_right (by decide) (by omega))
   have h8:(m*2 ^ B5 % n != 0).toNat<=1:=Bool.toNat_le _;have h9:(2:Nat) ^ 53*2 ^ 106=2 ^ 159:=by decide
   have h10:(2:Nat) ^ 162=8*2 ^ 159:=by decide
   rw[h9]at h7;rw[hQdef,h10];generalize (2:Nat) ^ 159=z at *;omega
  have:=(Nat.log2_lt hQ0).2 hQup;omega
 generalize hpl:i-j-B5-1=place at *;have hplb : -300<=place/\place<=1100:=by omega
 have hlast:A6 Q place=place+Q.log2-52:=by unfold A6;omega
 obtain⟨n1,n2⟩:=a0x (s ^^ t) hQ0 (place:=place) (by omega);obtain⟨k1,k2⟩:=Z6 (s ^^ t) hQ0 place;have hk2:2 ^ 52<=E4 (s ^^ t) Q place:=k2.resolve_left (by rw[hlast];omega);have hD:(A6 Q place-place).toNat=Q.log2-52:=by rw[hlast];omega
 have hz:(place-A6 Q place).toNat=0:=by rw[hlast];omega
 have hkd:E4 (s ^^ t) Q place=Toward.even.cut (s ^^ t) Q (Q.log2-52):=by
  unfold E4;rw[hD,hz,Nat.shiftLeft_eq,Nat.pow_zero,Nat.mul_one]
 obtain⟨c1,c2⟩:=a2j (s ^^ t) Q (Q.log2-52);have c3:=b3d (s ^^ t) Q (Q.log2-52);rw[<-hkd]at c1 c2 c3;generalize E4 (s ^^ t) Q place=kept at *;have hlg:Q.log2=52+(Q.log2-52):=by omega
 have hl:2 ^ 52*2 ^ (Q.log2-52)<=Q:=by rw[<-Nat.pow_add,<-hlg];exact q1
 have hh:Q<2 ^ 53*2 ^ (Q.log2-52):=by rw[<-Nat.pow_add,show 53+(Q.log2-52)=Q.log2+1 by omega];exact q2
 obtain⟨r1,r2,r3,r4,r5⟩:=b4T (Nat.pos_of_ne_zero hn0) hQdef (D:=Q.log2-52) (by omega) rfl c1 c2 c3 hl hh;have hE:(A6 Q place+1074).toNat=(Q.log2-52)+(place+1074).toNat:=by rw[hlast];omega
 have hSc1:2 ^ (Q.log2-52)*n*2 ^ ((place+1074).toNat+(j+1074).toNat)=2 ^ (A6 Q place+1074).toNat*b.natAbs*2 ^ U1:=by
  rw[hE,Nat.pow_add,Nat.pow_add,Nat.mul_assoc (2 ^ _*2 ^ _),<-hnb];ac_rfl
 have hSc2:2*(m*2 ^ B5)*2 ^ ((place+1074).toNat+(j+1074).toNat)=a.natAbs*2 ^ U1*2 ^ U1:=by
  have e1:1+B5+((place+1074).toNat+(j+1074).toNat)=(i+1074).toNat+U1:=by rw[hU];omega
  calc 2*(m*2 ^ B5)*2 ^ ((place+1074).toNat+(j+1074).toNat)=m*(2 ^ 1*2 ^ B5*2 ^ ((place+1074).toNat+(j+1074).toNat)):=by rw[Nat.pow_one];ac_rfl
   _=m*2 ^ (1+B5+((place+1074).toNat+(j+1074).toNat)):=by rw[<-Nat.pow_add,<-Nat.pow_add]
   _=m*2 ^ (i+1074).toNat*2 ^ U1:=by rw[e1,Nat.pow_add,Nat.mul_assoc]
   _=_:=by rw[hma]
 refine⟨_,hdiv,n1,kept,(A6 Q place+1074).toNat,?_,?_⟩
 ·generalize (A6 Q place+1074).toNat=E at *;generalize 2 ^ ((place+1074).toNat+(j+1074).toNat)=Sc at *;generalize hY:2*(m*2 ^ B5)=Y at *;generalize hG:2 ^ (Q.log2-52)*n=G at *;have hu:0<2 ^ U1:=Nat.two_pow_pos _;generalize 2 ^ U1=u at *;generalize hP:2 ^ E*b.natAbs=Pw at *;have sc:∀ {p q:Nat},p*Sc=q*u->True:=λ_=>trivial
  have g1:∀ k,k*(Pw*u)=k*G*Sc:=λk=>by rw[<-hSc1];ac_rfl
  have g2:∀ k,k*(a.natAbs*u*u)=k*Y*Sc:=λk=>by rw[<-hSc2];ac_rfl
  have hle:∀ {p q:Nat},p*u<=q*u->p<=q:=λh=>Nat.le_of_mul_le_mul_right h hu
  refine⟨hk2,k1,?_,?_,?_,?_,?_⟩ <;> rw[hP]
  ·apply hle
   calc 2*kept*Pw*u=2*kept*G*Sc:=by rw[Nat.mul_assoc (2*kept),g1]
    _<=(2*Y+G)*Sc:=Nat.mul_le_mul_right _ r1
    _=2*(a.natAbs*u*u)+1*(Pw*u):=by rw[g1,g2,Nat.add_mul,Nat.one_mul]
    _=(2*(a.natAbs*u)+Pw)*u:=by rw[Nat.add_mul,Nat.one_mul];congr 1;ac_rfl
  ·apply hle
   calc 2*(a.natAbs*u)*u=2*(a.natAbs*u*u):=by ac_rfl
    _=2*Y*Sc:=by rw[g2]
    _<=(2*kept*G+G)*Sc:=Nat.mul_le_mul_right _ r2
    _=2*kept*(Pw*u)+1*(Pw*u):=by rw[g1,g1,Nat.add_mul,Nat.one_mul]
    _=_:=by rw[Nat.add_mul,Nat.one_mul];ac_rfl
  ·apply hle
   calc 2 ^ 52*Pw*u=2 ^ 52*G*Sc:=by rw[Nat.mul_assoc,g1]
    _<=Y*Sc:=Nat.mul_le_mul_right _ r3
    _=1*(a.natAbs*u*u):=by rw[g2,Nat.one_mul]
    _=_:=by rw[Nat.one_mul]
  ·have hSc0:0<Sc:=by
    rcases Nat.eq_zero_or_pos Sc with h|h
    ·exfalso;rw[h,Nat.mul_zero]at hSc2;have h9:0<a.natAbs*u*u:=Nat.mul_pos (Nat.mul_pos (by omega) hu) hu;omega
    ·exact h
   apply Nat.lt_of_mul_lt_mul_right (a:=u)
   calc a.natAbs*u*u=Y*Sc:=hSc2.symm
    _<2 ^ 53*G*Sc:=Nat.mul_lt_mul_of_pos_right r4 hSc0
    _=2 ^ 53*(Pw*u):=by rw[g1]
    _=_:=by ac_rfl
  ·have hSc0:0<Sc:=by
    rcases Nat.eq_zero_or_pos Sc with h|h
    ·exfalso;rw[h,Nat.mul_zero]at hSc2;have h9:0<a.natAbs*u*u:=Nat.mul_pos (Nat.mul_pos (by omega) hu) hu;omega
    ·exact h
   rintro(h|h)
   ·refine r5 (.inl (Nat.eq_of_mul_eq_mul_right hSc0 ?_))
    calc 2*Y*Sc=2*(a.natAbs*u*u):=(g2 2).symm
     _=2*(a.natAbs*u)*u:=by ac_rfl
     _=(2*kept*Pw+Pw)*u:=by rw[h]
     _=2*kept*(Pw*u)+1*(Pw*u):=by rw[Nat.add_mul,Nat.one_mul];ac_rfl
     _=2*kept*G*Sc+1*G*Sc:=by rw[g1,g1]
     _=_:=by rw[Nat.add_mul,Nat.one_mul]
   ·refine r5 (.inr (Nat.eq_of_mul_eq_mul_right hSc0 ?_))
    calc (2*Y+G)*Sc=2*(a.natAbs*u*u)+1*(Pw*u):=by rw[g1,g2,Nat.add_mul,Nat.one_mul]
     _=(2*(a.natAbs*u)+Pw)*u:=by rw[Nat.add_mul,Nat.one_mul];ac_rfl
     _=2*kept*Pw*u:=by rw[h]
     _=2*kept*(Pw*u):=by ac_rfl
     _=_:=g1 _
 ·rw[n2]
  have sgn:∀ {s:Bool} {m k:Nat} {a:Int},a≠0->signed s m k=a*2 ^ U1->s=decide (a<0):=by
   intro s m k a ha h;have hp:=E8 U1;rw[D5]at h;cases s
   ·have h8:0<=a*2 ^ U1:=by rw[<-h];exact Int.natCast_nonneg _
    have:¬a<0:=λhneg=>by have:=Int.mul_neg_of_neg_of_pos hneg hp;omega
    exact(decide_eq_false this).symm
   ·have h9:a*2 ^ U1<=0:=by rw[<-h];exact Int.neg_nonpos_of_nonneg (Int.natCast_nonneg _)
    have:a<0:=by
     rcases Int.lt_or_le a 0 with h10|h10
     ·exact h10
     ·have:0<a:=by omega
      have:=Int.mul_pos this hp;omega
    exact(decide_eq_true this).symm
  rw[sgn ha h3,sgn hb h6]
section
variable {k E A B u l F C D:Nat}
theorem U8.pos(h:U8 k E A B u):0<k:=by have:=h.lo;omega
theorem b3m(h1:U8 k E A B u)(h2:U8 l F C D u)(_hB:0<B)(_hD:0<D)(hu:0<u)(hlt:A*D<C*B)(hs:A*D<=2 ^ 50):k*2 ^ E<l*2 ^ F:=by
 have e1:2 ^ 53*(k*2 ^ E*B)<=(2 ^ 53+1)*(A*u):=by
  have a1:=h1.up;have a2:=h1.bl;have a3:2*k*(2 ^ E*B)=2*(k*2 ^ E*B):=by ac_rfl
  rw[a3]at a1;generalize 2 ^ E*B=P at *;generalize k*2 ^ E*B=N at *;omega
 have e2:2 ^ 53*(C*u)<=2 ^ 53*(l*2 ^ F*D)+C*u:=by
  have a1:=h2.dn;have a2:=h2.bl;have a3:2*l*(2 ^ F*D)=2*(l*2 ^ F*D):=by ac_rfl
  rw[a3]at a1;generalize 2 ^ F*D=P at *;generalize l*2 ^ F*D=N at *;omega
 have f1:2 ^ 53*(k*2 ^ E)*(B*D)<=(2 ^ 53+1)*(A*D)*u:=by
  calc 2 ^ 53*(k*2 ^ E)*(B*D)=2 ^ 53*(k*2 ^ E*B)*D:=by ac_rfl
   _<=(2 ^ 53+1)*(A*u)*D:=Nat.mul_le_mul_right _ e1
   _=_:=by ac_rfl
 have f2:2 ^ 53*(C*B)*u<=2 ^ 53*(l*2 ^ F)*(B*D)+(C*B)*u:=by
  calc 2 ^ 53*(C*B)*u=2 ^ 53*(C*u)*B:=by ac_rfl
   _<=(2 ^ 53*(l*2 ^ F*D)+C*u)*B:=Nat.mul_le_mul_right _ e2
   _=_:=by rw[Nat.add_mul];congr 1 <;> ac_rfl
 have f3:(2 ^ 53+1)*(A*D)*u+(C*B)*u<2 ^ 53*(C*B)*u:=by
  rw[<-Nat.add_mul]
  apply Nat.mul_lt_mul_of_pos_right _ hu
  generalize A*D=X at *;generalize C*B=Y at *;omega
 have f4:2 ^ 53*(k*2 ^ E)*(B*D)<2 ^ 53*(l*2 ^ F)*(B*D):=by omega
 have f5:=Nat.lt_of_mul_lt_mul_right f4;exact Nat.lt_of_mul_lt_mul_left f5
theorem b9b(h1:U8 k E A B u)(h2:U8 l F C D u)(hB:0<B)(hD:0<D)(heq:A*D=C*B):k*2 ^ E=l*2 ^ F:=by
 have hX:A*u*D=C*u*B:=by
  calc A*u*D=A*D*u:=by ac_rfl
   _=C*B*u:=by rw[heq]
   _=_:=by ac_rfl
 have b1:2 ^ 52*(2 ^ E*(B*D))<=A*u*D:=by
  calc _=2 ^ 52*(2 ^ E*B)*D:=by ac_rfl
   _<=_:=Nat.mul_le_mul_right _ h1.bl
 have b2:A*u*D<2 ^ 53*(2 ^ E*(B*D)):=by
  calc _<2 ^ 53*(2 ^ E*B)*D:=Nat.mul_lt_mul_of_pos_right h1.bh hD
   _=_:=by ac_rfl
 have b3:2 ^ 52*(2 ^ F*(B*D))<=A*u*D:=by
  rw[hX]
  calc _=2 ^ 52*(2 ^ F*D)*B:=by ac_rfl
   _<=_:=Nat.mul_le_mul_right _ h2.bl
 have b4:A*u*D<2 ^ 53*(2 ^ F*(B*D)):=by
  rw[hX]
  calc _<2 ^ 53*(2 ^ F*D)*B:=Nat.mul_lt_mul_of_pos_right h2.bh hB
   _=_:=by ac_rfl
 have hlt:∀ {E F:Nat},2 ^ 52*(2 ^ F*(B*D))<=A*u*D->A*u*D<2 ^ 53*(2 ^ E*(B*D))->¬E<F:=by
  intro E F c1 c2 hEF;have c3:2 ^ (E+1)<=2 ^ F:=Nat.pow_le_pow_right (by decide) hEF;have c4:2 ^ (E+1)*(B*D)<=2 ^ F*(B*D):=Nat.mul_le_mul_right _ c3;have c5:2 ^ (E+1)*(B*D)=2*(2 ^ E*(B*D)):=by rw[Nat.pow_succ];ac_rfl
  rw[c5]at c4;generalize 2 ^ E*(B*D)=x at *;generalize 2 ^ F*(B*D)=y at *;omega
 have hEF:E=F:=Nat.le_antisymm (Nat.not_lt.1 (hlt (E:=F) (F:=E) b1 b4)) (Nat.not_lt.1 (hlt (E:=E) (F:=F) b3 b2));subst hEF
 have u1:2*k*(2 ^ E*(B*D))<=2*(A*u*D)+2 ^ E*(B*D):=by
  calc _=2*k*(2 ^ E*B)*D:=by ac_rfl
   _<=(2*(A*u)+2 ^ E*B)*D:=Nat.mul_le_mul_right _ h1.up
   _=_:=by rw[Nat.add_mul];congr 1 <;> ac_rfl
 have u2:2*(A*u*D)<=2*k*(2 ^ E*(B*D))+2 ^ E*(B*D):=by
  calc _=2*(A*u)*D:=by ac_rfl
   _<=(2*k*(2 ^ E*B)+2 ^ E*B)*D:=Nat.mul_le_mul_right _ h1.dn
   _=_:=by rw[Nat.add_mul];congr 1 <;> ac_rfl
 have u3:2*l*(2 ^ E*(B*D))<=2*(A*u*D)+2 ^ E*(B*D):=by
  rw[hX]
  calc _=2*l*(2 ^ E*D)*B:=by ac_rfl
   _<=(2*(C*u)+2 ^ E*D)*B:=Nat.mul_le_mul_right _ h2.up
   _=_:=by rw[Nat.add_mul];congr 1 <;> ac_rfl
 have u4:2*(A*u*D)<=2*l*(2 ^ E*(B*D))+2 ^ E*(B*D):=by
  rw[hX]
  calc _=2*(C*u)*B:=by ac_rfl
   _<=(2*l*(2 ^ E*D)+2 ^ E*D)*B:=Nat.mul_le_mul_right _ h2.dn
   _=_:=by rw[Nat.add_mul];congr 1 <;> ac_rfl
 have hP:0<2 ^ E*(B*D):=Nat.mul_pos (Nat.two_pow_pos _) (Nat.mul_pos hB hD)
 have t1:(2*(A*u*D)=2*k*(2 ^ E*(B*D))+2 ^ E*(B*D)∨2*(A*u*D)+2 ^ E*(B*D)=2*k*(2 ^ E*(B*D)))->k % 2=0:=by
  rintro(h|h)
  ·refine h1.tie (.inl (Nat.eq_of_mul_eq_mul_right hD ?_))
   calc 2*(A*u)*D=2*(A*u*D):=by ac_rfl
    _=_:=h
    _=_:=by rw[Nat.add_mul];congr 1 <;> ac_rfl
  ·refine h1.tie (.inr (Nat.eq_of_mul_eq_mul_right hD ?_))
   calc (2*(A*u)+2 ^ E*B)*D=2*(A*u*D)+2 ^ E*(B*D):=by rw[Nat.add_mul];congr 1 <;> ac_rfl
    _=_:=h
    _=_:=by ac_rfl
 have t2:(2*(A*u*D)=2*l*(2 ^ E*(B*D))+2 ^ E*(B*D)∨2*(A*u*D)+2 ^ E*(B*D)=2*l*(2 ^ E*(B*D)))->l % 2=0:=by
  rw[hX];rintro(h|h)
  ·refine h2.tie (.inl (Nat.eq_of_mul_eq_mul_right hB ?_))
   calc 2*(C*u)*B=2*(C*u*B):=by ac_rfl
    _=_:=h
    _=_:=by rw[Nat.add_mul];congr 1 <;> ac_rfl
  ·refine h2.tie (.inr (Nat.eq_of_mul_eq_mul_right hB ?_))
   calc (2*(C*u)+2 ^ E*D)*B=2*(C*u*B)+2 ^ E*(B*D):=by rw[Nat.add_mul];congr 1 <;> ac_rfl
    _=_:=h
    _=_:=by ac_rfl
 clear b1 b2 b3 b4 hlt hX h1 h2;generalize 2 ^ E*(B*D)=p at *;generalize A*u*D=X at *;congr 1
 have step:∀ k l:Nat,2*k*p<=2*X+p->2*X<=2*k*p+p->2*l*p<=2*X+p->((2*X=2*k*p+p∨2*X+p=2*k*p)->k % 2=0)->((2*X=2*l*p+p∨2*X+p=2*l*p)->l % 2=0)->¬k<l:=by
  intro k l v1 v2 v3 w1 w2 hkl;obtain⟨d,rfl⟩:∃ d,l=k+1+d:=⟨l-(k+1),by omega⟩;have x1:2*(k+1+d)*p=2*k*p+2*p+2*(d*p):=by rw[Nat.mul_add,Nat.mul_add,Nat.add_mul,Nat.add_mul,Nat.mul_assoc 2 d p]
  rw[x1]at v3 w2;have hd:d*p=0:=by omega
  have hd0:d=0:=by
   rcases Nat.mul_eq_zero.1 hd with h|h
   ·exact h
   ·omega
  subst hd0;have y1:=w1 (by left;omega);have y2:=w2 (by right;omega);omega
 exact Nat.le_antisymm (Nat.not_lt.1 (step l k u3 u4 u1 t2 t1)) (Nat.not_lt.1 (step k l u1 u2 u3 t1 t2))
end
def QV(v:Int)(a b:Int):Prop :=
 (a=0/\v=0)∨(a≠0/\∃ k E,U8 k E a.natAbs b.natAbs (2 ^ U1)/\v=if (decide (a<0) ^^ decide (b<0))then -((k*2 ^ E:Nat):Int)else((k*2 ^ E:Nat):Int))
theorem c3F{x y:Nat}{a b:Int}(hx:FI x a)(hy:FI y b)(hb:b≠0)(hb2:b.natAbs<2 ^ 53)(ha2:a.natAbs<2 ^ 53):∃ r,double.div x y=some r/\Fin r/\QV (V r) a b:=by
 by_cases ha:a=0
 ·subst ha;obtain⟨s,m,i,h1,h2,h3,_⟩:=A8 hx.1;obtain⟨t,n,j,h4,h5,h6,_⟩:=A8 hy.1;rw[hx.2,Int.zero_mul]at h3;rw[hy.2]at h6
  have hm0:m=0:=by
   have:=congrArg Int.natAbs h3;rw[C9]at this;rcases Nat.mul_eq_zero.1 this with h|h
   ·exact h
   ·exact absurd h (Nat.ne_of_gt (Nat.two_pow_pos _))
  have hn0:n≠0:=λe=>by
   have:=congrArg Int.natAbs h6;rw[C9,e,Nat.zero_mul,Int.natAbs_mul,B7]at this;rcases Nat.mul_eq_zero.1 this.symm with h|h
   ·omega
   ·exact absurd h (Nat.ne_of_gt (Nat.two_pow_pos _))
  subst hm0;refine⟨double.word (s ^^ t) 0,?_,(L4 _).1, .inl ⟨rfl,?_⟩⟩
  ·unfold Format.div;rw[h1,h4];simp only[Datum.quotient,hn0,if_false,Option.map_some,Format.write,Nat.zero_shiftLeft,Nat.zero_div,Nat.zero_mod,bne_self_eq_false,Bool.toNat_false,Nat.mul_zero,Nat.add_zero];unfold Format.nearest;simp
  ·rw[(L4 _).2,Int.zero_mul]
 ·obtain⟨r,h1,h2,k,E,h3,h4⟩:=b7F hx hy ha hb hb2 ha2;exact⟨r,h1,h2, .inr ⟨ha,k,E,h3,h4⟩⟩
theorem Y4(a b:Int):a*b=if (decide (a<0) ^^ decide (b<0))then -((a.natAbs*b.natAbs:Nat):Int)else((a.natAbs*b.natAbs:Nat):Int):=by
 rw[Int.natCast_mul];by_cases hA:a<0 <;> by_cases hB:b<0
 ·have e1:(a.natAbs:Int) = -a:=by omega
  have e2:(b.natAbs:Int) = -b:=by omega
  simp only[hA,hB,decide_true,Bool.xor_self,Bool.false_eq_true,if_false,e1,e2,Int.neg_mul_neg]
 ·have e1:(a.natAbs:Int) = -a:=by omega
  have e2:(b.natAbs:Int)=b:=by omega
  simp only[hA,hB,decide_true,decide_false,Bool.xor_false,if_true,e1,e2,Int.neg_mul,Int.neg_neg]
 ·have e1:(a.natAbs:Int)=a:=by omega
  have e2:(b.natAbs:Int) = -b:=by omega
  simp only[hA,hB,decide_true,decide_false,Bool.false_xor,if_true,e1,e2,Int.mul_neg,Int.neg_neg]
 ·have e1:(a.natAbs:Int)=a:=by omega
  have e2:(b.natAbs:Int)=b:=by omega
  simp only[hA,hB,decide_false,Bool.xor_self,Bool.false_eq_true,if_false,e1,e2]
theorem b4i{v w a b c d:Int}(h1:QV v a b)(h2:QV w c d)(hb:b≠0)(hd:d≠0)(hs1:a.natAbs*d.natAbs<=2 ^ 50)(hs2:c.natAbs*b.natAbs<=2 ^ 50)(h:a*b*(d*d)<c*d*(b*b)):v<w:=by
 have hu:0<2 ^ U1:=Nat.two_pow_pos _;have hB:0<b.natAbs:=by omega
 have hD:0<d.natAbs:=by omega
 have sq:∀ x:Int,x*x=((x.natAbs*x.natAbs:Nat):Int):=λx=>by rw[Y4 x x];simp
 rw[sq b,sq d,Y4 a b,Y4 c d]at h
 have key:∀ A B C D:Nat,A*B*(D*D)<C*D*(B*B)->A*D<C*B:=by
  intro A B C D hh
  have:A*D*(B*D)<C*B*(B*D):=by
   calc A*D*(B*D)=A*B*(D*D):=by ac_rfl
    _<_:=hh
    _=_:=by ac_rfl
  exact Nat.lt_of_mul_lt_mul_right this
 rcases h1 with⟨rfl,rfl⟩|⟨ha,k,E,hk,hv⟩ <;> rcases h2 with⟨rfl,rfl⟩|⟨hc,l,F,hl,hw⟩
 ·simp at h
 ·rw[hw];have hp:0<l*2 ^ F:=Nat.mul_pos hl.pos (Nat.two_pow_pos _);split
  ·rename_i hs;exfalso;simp only[hs,if_true,Int.natAbs_zero,Nat.zero_mul]at h;generalize c.natAbs*d.natAbs=x at h;generalize b.natAbs*b.natAbs=y at h;have:(0:Int)<=(x:Int)*(y:Int):=Int.mul_nonneg (Int.natCast_nonneg _) (Int.natCast_nonneg _);simp[Int.neg_mul]at h;omega
  ·omega
 ·rw[hv];have hp:0<k*2 ^ E:=Nat.mul_pos hk.pos (Nat.two_pow_pos _);split
  ·omega
  ·rename_i hs;exfalso;simp only[hs,Bool.false_eq_true,if_false,Int.natAbs_zero,Nat.zero_mul]at h;generalize a.natAbs*b.natAbs=x at h;generalize d.natAbs*d.natAbs=y at h;have:(0:Int)<=(x:Int)*(y:Int):=Int.mul_nonneg (Int.natCast_nonneg _) (Int.natCast_nonneg _);simp at h;omega
 ·rw[hv,hw];have hp1:0<k*2 ^ E:=Nat.mul_pos hk.pos (Nat.two_pow_pos _);have hp2:0<l*2 ^ F:=Nat.mul_pos hl.pos (Nat.two_pow_pos _);by_cases s1:(decide (a<0) ^^ decide (b<0))=true <;> by_cases s2:(decide (c<0) ^^ decide (d<0))=true
  ·simp only[s1,s2,if_true]at h ⊢
   have h':c.natAbs*d.natAbs*(b.natAbs*b.natAbs)<a.natAbs*b.natAbs*(d.natAbs*d.natAbs):=by
    rw[Int.neg_mul,Int.neg_mul,<-Int.natCast_mul,<-Int.natCast_mul]at h;omega
   have:=b3m hl hk hD hB hu (key _ _ _ _ h') hs2;omega
  ·simp only[s1,s2,if_true,Bool.false_eq_true,if_false];omega
  ·exfalso;simp only[s1,s2,if_true,Bool.false_eq_true,if_false]at h;rw[Int.neg_mul,<-Int.natCast_mul,<-Int.natCast_mul]at h;omega
  ·simp only[s1,s2,Bool.false_eq_true,if_false]at h ⊢
   have h':a.natAbs*b.natAbs*(d.natAbs*d.natAbs)<c.natAbs*d.natAbs*(b.natAbs*b.natAbs):=by
    rw[<-Int.natCast_mul,<-Int.natCast_mul]at h;omega
   have:=b3m hk hl hB hD hu (key _ _ _ _ h') hs1;omega
theorem c0U{v w a b c d:Int}(h1:QV v a b)(h2:QV w c d)(hb:b≠0)(hd:d≠0)(h:a*d=c*b):v=w:=by
 have hB:0<b.natAbs:=by omega
 have hD:0<d.natAbs:=by omega
 have hA:a.natAbs*d.natAbs=c.natAbs*b.natAbs:=by rw[<-Int.natAbs_mul,<-Int.natAbs_mul,h]
 rcases h1 with⟨rfl,rfl⟩|⟨ha,k,E,hk,hv⟩ <;> rcases h2 with⟨rfl,rfl⟩|⟨hc,l,F,hl,hw⟩
 ·rfl
 ·rw[Int.zero_mul]at h;rcases Int.mul_eq_zero.1 h.symm with e|e
  ·exact absurd e hc
  ·exact absurd e hb
 ·rw[Int.zero_mul]at h;rcases Int.mul_eq_zero.1 h with e|e
  ·exact absurd e ha
  ·exact absurd e hd
 ·rw[hv,hw,b9b hk hl hB hD hA]
  have hs:(decide (a<0) ^^ decide (b<0))=(decide (c<0) ^^ decide (d<0)):=by
   have e1:=Y4 a d;have e2:=Y4 c b;have p1:0<a.natAbs*d.natAbs:=Nat.mul_pos (by omega) hD;have p2:0<c.natAbs*b.natAbs:=Nat.mul_pos (by omega) hB;rw[h,e2]at e1
   have hx:(decide (a<0) ^^ decide (d<0))=(decide (c<0) ^^ decide (b<0)):=by
    cases x1:(decide (a<0) ^^ decide (d<0)) <;> cases x2:(decide (c<0) ^^ decide (b<0))
    ·rfl
    ·simp only[x1,x2,if_true,Bool.false_eq_true,if_false]at e1;omega
    ·simp only[x1,x2,if_true,Bool.false_eq_true,if_false]at e1;omega
    ·rfl
   generalize decide (a<0)=p at *;generalize decide (b<0)=q at *;generalize decide (c<0)=r at *;generalize decide (d<0)=t at *;cases p <;> cases q <;> cases r <;> cases t <;> simp_all
  rw[hs]
end Go.Fl

namespace Go.Fl
open Go.Sx Ieee
def a1q:Nat:=9218868437227405312
theorem Y2{x y:Nat}(hx:Fin x)(hy:Fin y):FloatKind.f64.format.order x y=some (compare (V x) (V y)):=a8a hx hy
theorem a3G:Fin 0:=⟨by decide,by decide⟩
theorem a6U:V 0=0:=by decide
theorem a9V:Ieee.Format.read Ieee.double a1q=.infinity false:=by decide
theorem b5a{x:Nat}(hx:Fin x):FloatKind.f64.format.order x a1q=some .lt:=by
 obtain⟨s,m,i,h1,_⟩:=A8 hx;show (Ieee.Format.read Ieee.double x).order (Ieee.Format.read Ieee.double a1q)=_;rw[h1,a9V];rfl
theorem b4U{x:Nat}(hx:Fin x):FloatKind.f64.format.order a1q x=some .gt:=by
 obtain⟨s,m,i,h1,_⟩:=A8 hx;show (Ieee.Format.read Ieee.double a1q).order (Ieee.Format.read Ieee.double x)=_;rw[h1,a9V];rfl
theorem b7P{x:Nat}(hx:Fin x):fNe .f64 x x=false:=by
 unfold fNe;rw[Y2 hx hx,L3];simp
theorem b9z{x:Nat}(hx:Fin x):fEq .f64 x a1q=false:=by
 unfold fEq;rw[b5a hx];rfl
theorem b9p{x:Nat}(hx:Fin x):fGt .f64 a1q x=true:=by
 unfold fGt;rw[b4U hx];rfl
theorem b7T{x y:Nat}(hx:Fin x)(hy:Fin y):fEq .f64 x y=decide (V x=V y):=by
 unfold fEq;rw[Y2 hx hy,L3];split
 ·rename_i h;rw[decide_eq_false (by omega)];rfl
 ·split
  ·rename_i h;rw[decide_eq_true h];rfl
  ·rename_i h;rw[decide_eq_false h];rfl
theorem a9Y{x y:Nat}(hx:Fin x)(hy:Fin y):fLt .f64 x y=decide (V x<V y):=by
 unfold fLt;rw[Y2 hx hy,L3];split
 ·rename_i h;rw[decide_eq_true h];rfl
 ·rename_i h;rw[decide_eq_false h];split <;> rfl
theorem c4Q{x y:Nat}(hx:Fin x)(hy:Fin y):fLe .f64 x y=decide (V x<=V y):=by
 unfold fLe;rw[Y2 hx hy,L3];split
 ·rename_i h;rw[decide_eq_true (by omega)];rfl
 ·split
  ·rename_i h;rw[decide_eq_true (by omega)];rfl
  ·rename_i h;rw[decide_eq_false (by omega)];rfl
theorem c1j{x y:Nat}(hx:Fin x)(hy:Fin y):fGt .f64 x y=decide (V y<V x):=by
 unfold fGt;rw[Y2 hx hy,L3];split
 ·rename_i h;rw[decide_eq_false (by omega)];rfl
 ·split
  ·rename_i h;rw[decide_eq_false (by omega)];rfl
  ·rename_i h;rw[decide_eq_true (by omega)];rfl
theorem b7N{x y:Nat}(hx:Fin x)(hy:Fin y):fGe .f64 x y=decide (V y<=V x):=by
 unfold fGe;rw[Y2 hx hy,L3];split
 ·rename_i h;rw[decide_eq_false (by omega)];rfl
 ·split
  ·rename_i h;rw[decide_eq_true (by omega)];rfl
  ·rename_i h;rw[decide_eq_true (by omega)];rfl
theorem b6q{x:Nat}(hx:Fin x):fEq .f64 x 0=decide (V x=0):=by rw[b7T hx a3G,a6U]
theorem b7V{x:Nat}(hx:Fin x):fGt .f64 x 0=decide (0<V x):=by rw[c1j hx a3G,a6U]
theorem b0n{x y:Nat}{a b:Int}(hx:FI x a)(hy:FI y b):FloatKind.f64.format.order x y=some (compare a b):=hx.order hy
theorem N5{x y:Nat}{a b:Int}(hx:FI x a)(hy:FI y b):fLt .f64 x y=decide (a<b):=by
 unfold fLt;rw[b0n hx hy,L3];split
 ·rename_i h;rw[decide_eq_true h];rfl
 ·rename_i h;rw[decide_eq_false h];split <;> rfl
theorem N1{x y:Nat}{a b:Int}(hx:FI x a)(hy:FI y b):fGt .f64 x y=decide (b<a):=by
 unfold fGt;rw[b0n hx hy,L3];split
 ·rename_i h;rw[decide_eq_false (by omega)];rfl
 ·split
  ·rename_i h;rw[decide_eq_false (by omega)];rfl
  ·rename_i h;rw[decide_eq_true (by omega)];rfl
theorem N6{x y:Nat}{a b:Int}(hx:FI x a)(hy:FI y b):fEq .f64 x y=decide (a=b):=by
 unfold fEq;rw[b0n hx hy,L3];split
 ·rename_i h;rw[decide_eq_false (by omega)];rfl
 ·split
  ·rename_i h;rw[decide_eq_true h];rfl
  ·rename_i h;rw[decide_eq_false h];rfl
theorem a2z{x y:Nat}{a b:Int}(hx:FI x a)(hy:FI y b):fLe .f64 x y=decide (a<=b):=by
 unfold fLe;rw[b0n hx hy,L3];split
 ·rename_i h;rw[decide_eq_true (by omega)];rfl
 ·split
  ·rename_i h;rw[decide_eq_true (by omega)];rfl
  ·rename_i h;rw[decide_eq_false (by omega)];rfl
theorem a3d{x y:Nat}{a b:Int}(hx:FI x a)(hy:FI y b):fGe .f64 x y=decide (b<=a):=by
 unfold fGe;rw[b0n hx hy,L3];split
 ·rename_i h;rw[decide_eq_false (by omega)];rfl
 ·split
  ·rename_i h;rw[decide_eq_true (by omega)];rfl
  ·rename_i h;rw[decide_eq_true (by omega)];rfl
end Go.Fl

namespace Go.Fl
open Ieee
theorem a4q(r:Nat):a0h (r+1)=a0h r+2 ^ (r / 2 ^ 52-1):=by
 by_cases h:r<2 ^ 52
 ·have h0:r / 2 ^ 52=0:=Nat.div_eq_of_lt h;rw[h0,a2C h];by_cases h1:r+1<2 ^ 52
  ·rw[a2C h1]
  ·have:r+1=(0+1)*2 ^ 52+0:=by omega
   rw[this,a0J 0 0 (by decide)]
 ·obtain⟨E,f,hf,he⟩:∃ E f,f<2 ^ 52/\r=(E+1)*2 ^ 52+f:=⟨r / 2 ^ 52-1,r % 2 ^ 52,Nat.mod_lt _ (by decide),by omega⟩;have hd:r / 2 ^ 52-1=E:=by omega
  rw[hd,he,a0J E f hf];by_cases h1:f+1<2 ^ 52
  ·rw[show (E+1)*2 ^ 52+f+1=(E+1)*2 ^ 52+(f+1) by omega,a0J E (f+1) h1,<-Nat.add_assoc,Nat.add_mul,Nat.one_mul]
  ·have h2:f=2 ^ 52-1:=by omega
   rw[show (E+1)*2 ^ 52+f+1=(E+1+1)*2 ^ 52+0 by omega,a0J (E+1) 0 (by decide),h2];rw[Nat.pow_succ];omega
theorem b4n(r:Nat):2 ^ 52*2 ^ (r / 2 ^ 52-1)<=a0h r+2 ^ 52:=by
 by_cases h:r<2 ^ 52
 ·have h0:r / 2 ^ 52=0:=Nat.div_eq_of_lt h;rw[h0];omega
 ·obtain⟨E,f,hf,he⟩:∃ E f,f<2 ^ 52/\r=(E+1)*2 ^ 52+f:=⟨r / 2 ^ 52-1,r % 2 ^ 52,Nat.mod_lt _ (by decide),by omega⟩;have hd:r / 2 ^ 52-1=E:=by omega
  rw[hd,he,a0J E f hf,Nat.add_mul];omega
theorem c1I{x:Nat}(h:x<2 ^ 63):V x=a0h x:=by
 unfold V;rw[if_neg (by omega),Nat.mod_eq_of_lt h]
theorem c1y{r:Nat}(h:r<2 ^ 63):V (2 ^ 63+r) = -(a0h r:Int):=by
 unfold V;rw[if_pos (by omega),show (2 ^ 63+r) % 2 ^ 63=r by omega]
theorem a5K{r:Nat}{b:Nat}(hr:a0h r<=2 ^ (52+b)):r / 2 ^ 52-1<=b+1:=by
 have h1:=b4n r;rcases Nat.lt_or_ge (b+1) (r / 2 ^ 52-1)with h|h
 ·exfalso;have h2:2 ^ (b+2)<=2 ^ (r / 2 ^ 52-1):=Nat.pow_le_pow_right (by decide) h;have h3:2 ^ 52*2 ^ (b+2)<=a0h r+2 ^ 52:=Nat.le_trans (Nat.mul_le_mul_left _ h2) h1;have h4:2 ^ (52+b)=2 ^ 52*2 ^ b:=Nat.pow_add 2 52 b;have h5:2 ^ 52*2 ^ (b+2)=4*(2 ^ 52*2 ^ b):=by rw[Nat.pow_add 2 b 2];omega
  have h6:2 ^ 52<=2 ^ 52*2 ^ b:=Nat.le_mul_of_pos_right _ (Nat.two_pow_pos _);omega
 ·exact h
def nxt(x:Nat):Nat:=if V x=0 then 1 else if 0<V x then x+1 else x-1
theorem a6c{x:Nat}{n:Int}(h:FI x n)(hn:n.natAbs<=2 ^ 22):x+1<18446744073709551616/\Fin (nxt x)/\∃ k,k<=1045/\V (nxt x)=n*2 ^ U1+((2 ^ k:Nat):Int):=by
 obtain⟨⟨h64,hrung⟩,hv⟩:=h;have hU:U1=1074:=rfl;obtain⟨b,hb⟩:∃ b:Nat,b=1044:=⟨_,rfl⟩;have hbU:22+U1=52+b:=by omega
 have hmag:n.natAbs*2 ^ U1<=2 ^ (52+b):=by
  rw[<-hbU,Nat.pow_add];exact Nat.mul_le_mul_right _ hn
 have hpow:(2:Int) ^ U1=((2 ^ U1:Nat):Int):=by simp
 have habs:(V x).natAbs=n.natAbs*2 ^ U1:=by rw[hv,Int.natAbs_mul,B7]
 rw[<-habs]at hmag;refine⟨by omega,?_⟩;unfold nxt;by_cases h0:V x=0
 ·rw[if_pos h0];have h1:V 1=1:=by decide
  refine⟨⟨by decide,by decide⟩,0,by omega,?_⟩;rw[h1,<-hv,h0];rfl
 ·rw[if_neg h0];rcases Nat.lt_or_ge x (2 ^ 63)with hlo|hhi
  ·have hVx:=c1I hlo;have hpos:0<V x:=by rw[hVx]at h0 ⊢;omega
   rw[if_pos hpos];rw[Nat.mod_eq_of_lt hlo]at hrung;rw[hVx,Int.natAbs_natCast]at hmag;have hs:=a5K hmag;have hx1:x+1<2 ^ 63:=by omega
   refine⟨⟨by omega,by rw[Nat.mod_eq_of_lt hx1];omega⟩,x / 2 ^ 52-1,by omega,?_⟩;rw[c1I hx1,a4q,<-hv,hVx];exact Int.natCast_add _ _
  ·obtain⟨r,rfl⟩:∃ r,x=2 ^ 63+r:=⟨x-2 ^ 63,by omega⟩;have hr63:r<2 ^ 63:=by omega
   have hVx:=c1y hr63;have hneg:¬0<V (2 ^ 63+r):=by rw[hVx];omega
   rw[if_neg hneg];have hr0:r≠0:=λe=>by subst e;exact h0 (by decide)
   obtain⟨s,rfl⟩:∃ s,r=s+1:=⟨r-1,by omega⟩;have hm:(2 ^ 63+(s+1)) % 2 ^ 63=s+1:=by omega
   rw[hm]at hrung;rw[hVx,Int.natAbs_neg,Int.natAbs_natCast]at hmag;have hms:a0h s<=2 ^ (52+b):=by rw[a4q]at hmag;exact Nat.le_trans (Nat.le_add_right _ _) hmag
   have hs:=a5K hms;have e:2 ^ 63+(s+1)-1=2 ^ 63+s:=by omega
   rw[e];refine⟨⟨by omega,by omega⟩,s / 2 ^ 52-1,by omega,?_⟩;rw[c1y (by omega),<-hv,hVx,a4q,Int.natCast_add];omega
theorem a4U(neg:Bool){mag:Nat}(hm:mag≠0){place:Int}(hp : -1074<=place) :
  0<E4 neg mag place*2 ^ (A6 mag place+1074).toNat/\E4 neg mag place*2 ^ (A6 mag place+1074).toNat<=2*(mag*2 ^ (place+1074).toNat):=by
 obtain⟨hk1,hk2⟩:=Z6 neg hm place;obtain⟨e1,e2⟩:=a2j neg (mag <<< (place-A6 mag place).toNat) (A6 mag place-place).toNat;have hl0 : -1074<=A6 mag place:=by unfold A6;omega
 have hkd:E4 neg mag place=Toward.even.cut neg (mag <<< (place-A6 mag place).toNat) (A6 mag place-place).toNat:=rfl;rw[<-hkd]at e1 e2;rw[Nat.shiftLeft_eq]at e1 e2;generalize E4 neg mag place=k at *;generalize A6 mag place=l at *;by_cases hs:l<=place
 ·have h0:(l-place).toNat=0:=by omega
  rw[h0]at e1 e2;simp only[Nat.pow_zero,Nat.mul_one]at e1 e2;have hk:k=mag*2 ^ (place-l).toNat:=by omega
  have e3:k*2 ^ (l+1074).toNat=mag*2 ^ (place+1074).toNat:=by
   rw[hk,Nat.mul_assoc,<-Nat.pow_add];congr 2;omega
  rw[e3];have:0<mag*2 ^ (place+1074).toNat:=Nat.mul_pos (by omega) (Nat.two_pow_pos _);omega
 ·have h0:(place-l).toNat=0:=by omega
  rw[h0]at e1 e2;simp only[Nat.pow_zero,Nat.mul_one]at e1 e2;have hk:2 ^ 52<=k:=by rcases hk2 with h|h <;> omega
  refine⟨Nat.mul_pos (by omega) (Nat.two_pow_pos _),?_⟩;have e3:(l+1074).toNat=(l-place).toNat+(place+1074).toNat:=by omega
  rw[e3,Nat.pow_add,<-Nat.mul_assoc,<-Nat.mul_assoc];refine Nat.mul_le_mul_right _ ?_;generalize 2 ^ (l-place).toNat=g at *;have hg:g<=k*g:=Nat.le_mul_of_pos_left _ (by omega);omega
theorem b5B{p y:Nat}{n:Int}{k:Nat}(hp:Fin p)(hv:V p=n*2 ^ U1+((2 ^ k:Nat):Int))(hk:k<=1045)(hy:FI y n) :
  ∃ r,double.sub p y=some r/\Fin r/\0<V r/\V r<=((2 ^ (k+1):Nat):Int):=by
 obtain⟨s,m,i,h1,h2,h3,_⟩:=A8 hp;obtain⟨t,l,j,h4,h5,h6,_⟩:=A8 hy.1;rw[hy.2]at h6;refine⟨double.write ((Datum.number (if signed s m (i-min i j).toNat+signed (!t) l (j-min i j).toNat=0 then s && !t else decide (signed s m (i-min i j).toNat+signed (!t) l (j-min i j).toNat<0)) (signed s m (i-min i j).toNat+signed (!t) l (j-min i j).toNat).natAbs (min i j))),?_,?_⟩
 ·unfold Format.sub;rw[h1,h4];rfl
 ·generalize htot:signed s m (i-min i j).toNat+signed (!t) l (j-min i j).toNat=tot;have e1:(i+1074).toNat=(i-min i j).toNat+(min i j+1074).toNat:=by omega
  have e2:(j+1074).toNat=(j-min i j).toNat+(min i j+1074).toNat:=by omega
  have h7:signed (!t) l (j+1074).toNat = -(n*2 ^ U1):=by rw[a6D,h6]
  have hkey:tot*2 ^ (min i j+1074).toNat=((2 ^ k:Nat):Int):=by
   have:signed s m (i+1074).toNat+signed (!t) l (j+1074).toNat=((2 ^ k:Nat):Int):=by rw[h3,h7,hv];omega
   rw[e1,e2,J7,J7,<-Int.add_mul,htot]at this;exact this
  have hpk:(0:Int)<((2 ^ k:Nat):Int):=Int.natCast_pos.2 (Nat.two_pow_pos k)
  have htpos:0<tot:=by
   rcases Int.lt_or_le 0 tot with h|h
   ·exact h
   ·have:=Int.mul_nonneg (show 0<=-tot by omega) (Int.le_of_lt (E8 (min i j+1074).toNat));rw[Int.neg_mul]at this;omega
  have hnat:tot.natAbs*2 ^ (min i j+1074).toNat=2 ^ k:=by
   have:=congrArg Int.natAbs hkey;rw[Int.natAbs_mul,B7,Int.natAbs_natCast]at this;exact this
  have hm0:tot.natAbs≠0:=by omega
  have hlog:(min i j)+tot.natAbs.log2<=1022:=by
   have h8:=Nat.log2_self_le hm0;have h9:2 ^ tot.natAbs.log2*2 ^ (min i j+1074).toNat<=2 ^ k:=by rw[<-hnat];exact Nat.mul_le_mul_right _ h8
   rw[<-Nat.pow_add]at h9;have h10:=(Nat.pow_le_pow_iff_right (by decide:1<2)).1 h9;omega
  rw[if_neg (by omega),decide_eq_false (by omega)];show Fin (double.nearest false tot.natAbs (min i j))/\0<V (double.nearest false tot.natAbs (min i j))/\V (double.nearest false tot.natAbs (min i j))<=_;obtain⟨h11,h12⟩:=a0x false hm0 (place:=min i j) hlog;obtain⟨h13,h14⟩:=a4U false hm0 (place:=min i j) (by omega);refine⟨h11,?_,?_⟩
  ·rw[h12];simp only[Bool.false_eq_true,if_false];omega
  ·rw[h12];simp only[Bool.false_eq_true,if_false];rw[hnat]at h14;rw[Nat.pow_succ];omega
theorem b1L{x y:Nat}{d:Int}{k:Nat}(hx:Fin x)(h0:0<V x)(hk:V x<=((2 ^ k:Nat):Int))(hk2:k<=1047)(hy:FI y d)(hd:d≠0) :
  ∃ r,double.div x y=some r/\Fin r/\(0<d->0<=V r)/\(d<0->V r<=0)/\(V r).natAbs<=2 ^ (k+1):=by
 obtain⟨s,m,i,h1,h2,h3,hm⟩:=A8 hx;obtain⟨t,n,j,h4,h5,h6,hn⟩:=A8 hy.1;rw[hy.2]at h6;have hmv:m*2 ^ (i+1074).toNat=(V x).natAbs:=by rw[<-h3,C9]
 have hnb:n*2 ^ (j+1074).toNat=d.natAbs*2 ^ U1:=by
  have:=congrArg Int.natAbs h6;rw[C9,Int.natAbs_mul,B7]at this;exact this
 have hm0:m≠0:=λe=>by rw[e,Nat.zero_mul]at hmv;omega
 have hn0:n≠0:=λe=>by
  rw[e,Nat.zero_mul]at hnb;rcases Nat.mul_eq_zero.1 hnb.symm with h|h
  ·omega
  ·exact absurd h (Nat.ne_of_gt (Nat.two_pow_pos _))
 have hj:=a1h h5 hn (show d.natAbs≠0 by omega) hnb
 have hs:s=false:=by
  cases s
  ·rfl
  ·rw[D5]at h3;simp only[if_true]at h3;omega
 have ht:t=decide (d<0):=by
  have hp:=E8 U1;rw[D5]at h6;cases t
  ·simp only[Bool.false_eq_true,if_false]at h6;have h7:0<=d*2 ^ U1:=by rw[<-h6];exact Int.natCast_nonneg _
   have:¬d<0:=λhneg=>by have:=Int.mul_neg_of_neg_of_pos hneg hp;omega
   exact(decide_eq_false this).symm
  ·simp only[if_true]at h6;have h9:d*2 ^ U1<=0:=by rw[<-h6];exact Int.neg_nonpos_of_nonneg (Int.natCast_nonneg _)
   have:d<0:=by
    rcases Int.lt_or_le d 0 with h10|h10
    ·exact h10
    ·have:0<d:=by omega
     have:=Int.mul_pos this hp;omega
   exact(decide_eq_true this).symm
 have hU:U1=1074:=rfl;have hlm:m.log2<=52:=by have:=(Nat.log2_lt hm0).2 hm;omega
 have hln:n.log2<=52:=by have:=(Nat.log2_lt hn0).2 hn;omega
 have hmore:54+n.log2-m.log2+m.log2=54+n.log2:=by omega
 generalize hmo:54+n.log2-m.log2=B5 at *;refine⟨double.nearest (s ^^ t) (2*(m <<< B5 / n)+(m <<< B5 % n != 0).toNat) (i-j-B5-1),?_,?_⟩
 ·unfold Format.div;rw[h1,h4];show Option.map double.write (Datum.quotient (52+2) _ _)=_;unfold Datum.quotient;simp only[hn0,if_false];rw[show 52+2+n.log2-m.log2=B5 from hmo];rfl
 ·rw[Nat.shiftLeft_eq];generalize hdv:m*2 ^ B5=dv;have hm1:=Nat.log2_self_le hm0;have hm2:m<2 ^ (m.log2+1):=Nat.lt_log2_self;have hn1:=Nat.log2_self_le hn0;have hn2:n<2 ^ (n.log2+1):=Nat.lt_log2_self
  have hdv1:2 ^ (54+n.log2)<=dv:=by
   rw[<-hdv,<-hmore,Nat.add_comm B5,Nat.pow_add];exact Nat.mul_le_mul_right _ hm1
  have hdv2:dv<2 ^ (55+n.log2):=by
   rw[<-hdv,show 55+n.log2=(m.log2+1)+B5 by omega,Nat.pow_add];exact Nat.mul_lt_mul_of_pos_right hm2 (Nat.two_pow_pos _)
  have hq1:2 ^ 53<=dv / n:=by
   rw[Nat.le_div_iff_mul_le (by omega)];have h8:2 ^ 53*n<=2 ^ 53*2 ^ (n.log2+1):=Nat.mul_le_mul_left _ (by omega);rw[<-Nat.pow_add,show 53+(n.log2+1)=54+n.log2 by omega]at h8;omega
  have hq2:dv / n<2 ^ 55:=by
   rw[Nat.div_lt_iff_lt_mul (by omega)];have h8:2 ^ 55*2 ^ n.log2<=2 ^ 55*n:=Nat.mul_le_mul_left _ hn1;rw[<-Nat.pow_add]at h8;omega
  have hb1:(dv % n != 0).toNat<=1:=Bool.toNat_le _
  have hQn:(2*(dv / n)+(dv % n != 0).toNat)*n<=2*dv+n:=by
   have h8:dv / n*n<=dv:=Nat.div_mul_le_self _ _;have h9:(dv % n != 0).toNat*n<=1*n:=Nat.mul_le_mul_right _ hb1;rw[Nat.add_mul,Nat.mul_assoc];omega
  generalize hQ:2*(dv / n)+(dv % n != 0).toNat=Q at *;have hQ0:Q≠0:=by omega
  have hQ1:2 ^ 54<=Q:=by omega
  have hQ2:Q<2 ^ 57:=by omega
  have hQl:54<=Q.log2:=(Nat.le_log2 hQ0).2 hQ1;have hQl2:Q.log2<=56:=by have:=(Nat.log2_lt hQ0).2 hQ2;omega
  have hi:i+m.log2<=k-1074:=by
   have h8:2 ^ m.log2*2 ^ (i+1074).toNat<=2 ^ k:=by
    refine Nat.le_trans (Nat.mul_le_mul_right _ hm1) ?_;rw[hmv];omega
   rw[<-Nat.pow_add]at h8;have h10:=(Nat.pow_le_pow_iff_right (by decide:1<2)).1 h8;omega
  generalize hpl:i-j-(B5:Int)-1=pl at *;have hlog:pl+Q.log2<=1022:=by omega
  obtain⟨h11,h12⟩:=a0x (s ^^ t) hQ0 (place:=pl) hlog;obtain⟨hk1,hk2'⟩:=Z6 (s ^^ t) hQ0 pl;obtain⟨e1,e2⟩:=a2j (s ^^ t) (Q <<< (pl-A6 Q pl).toNat) (A6 Q pl-pl).toNat;have hkd:E4 (s ^^ t) Q pl=Toward.even.cut (s ^^ t) (Q <<< (pl-A6 Q pl).toNat) (A6 Q pl-pl).toNat:=rfl;rw[<-hkd,Nat.shiftLeft_eq]at e1;have hl1:pl+2<=A6 Q pl:=by unfold A6;omega
  have hl0 : -1074<=A6 Q pl:=by unfold A6;omega
  generalize E4 (s ^^ t) Q pl=kp at *;generalize A6 Q pl=l at *;have hz:(pl-l).toNat=0:=by omega
  rw[hz,Nat.pow_zero,Nat.mul_one]at e1
  have hmain:(kp-1)*(2 ^ (l-pl).toNat*n)<=2*dv:=by
   have hD:4<=2 ^ (l-pl).toNat:=by
    have:2 ^ 2<=2 ^ (l-pl).toNat:=Nat.pow_le_pow_right (by decide) (by omega);omega
   generalize 2 ^ (l-pl).toNat=g at *;have h8:2*(kp*g)*n<=(2*Q+g)*n:=Nat.mul_le_mul_right _ e1;rw[Nat.add_mul,Nat.mul_assoc 2 Q n]at h8;have h9:4*n<=g*n:=Nat.mul_le_mul_right _ hD;rcases Nat.eq_zero_or_pos kp with hkp|hkp
   ·subst hkp;simp
   ·obtain⟨c,rfl⟩:∃ c,kp=c+1:=⟨kp-1,by omega⟩;rw[Nat.add_sub_cancel]
    have h10:2*((c+1)*g)*n=2*(c*(g*n))+2*(g*n):=by
     rw[Nat.add_mul,Nat.one_mul,Nat.mul_add,Nat.add_mul,Nat.mul_assoc 2 (c*g) n,Nat.mul_assoc c g n,Nat.mul_assoc 2 g n]
    rw[h10]at h8;omega
  have hX:(kp-1)*2 ^ (l+1074).toNat*d.natAbs<=(V x).natAbs:=by
   have h8:(kp-1)*(2 ^ (l-pl).toNat*n)*2 ^ ((j+1074).toNat+B5+1+(l+1074).toNat)<=2*dv*2 ^ ((j+1074).toNat+B5+1+(l+1074).toNat):=Nat.mul_le_mul_right _ hmain;have e3:(l-pl).toNat+(i+1074).toNat=(l+1074).toNat+(j+1074).toNat+B5+1-1074+0∨True:=.inr trivial;have e4:(l-pl).toNat+(i+1074).toNat+U1=(j+1074).toNat+B5+1+(l+1074).toNat:=by rw[hU];omega
   have h9:(kp-1)*(2 ^ (l-pl).toNat*n)*2 ^ ((j+1074).toNat+B5+1+(l+1074).toNat)=((kp-1)*2 ^ (l+1074).toNat*d.natAbs)*(2 ^ U1*2 ^ ((l-pl).toNat+B5+1)):=by
    calc (kp-1)*(2 ^ (l-pl).toNat*n)*2 ^ ((j+1074).toNat+B5+1+(l+1074).toNat)
      = (kp-1)*(2 ^ (l-pl).toNat*n)*(2 ^ (j+1074).toNat*2 ^ (B5+1)*2 ^ (l+1074).toNat):=by rw[<-Nat.pow_add,<-Nat.pow_add];rfl
     _=(kp-1)*2 ^ (l+1074).toNat*(n*2 ^ (j+1074).toNat)*(2 ^ (l-pl).toNat*2 ^ (B5+1)):=by ac_rfl
     _=_:=by
      rw[hnb,<-Nat.pow_add,Nat.add_assoc];generalize 2 ^ U1=u;generalize 2 ^ ((l-pl).toNat+(B5+1))=u2
      ac_rfl
   have h10:2*dv*2 ^ ((j+1074).toNat+B5+1+(l+1074).toNat)=(V x).natAbs*(2 ^ U1*2 ^ ((l-pl).toNat+B5+1)):=by
    rw[<-hdv,<-hmv,<-e4];rw[Nat.pow_add _ _ U1,Nat.pow_add _ (l-pl).toNat,Nat.pow_add _ ((l-pl).toNat+B5) 1,Nat.pow_add _ (l-pl).toNat B5,Nat.pow_one];generalize 2 ^ U1=u;generalize (V x).natAbs=vx at *
    ac_rfl
   rw[h9,h10]at h8;exact Nat.le_of_mul_le_mul_right h8 (Nat.mul_pos (Nat.two_pow_pos _) (Nat.two_pow_pos _))
  have hb:kp*2 ^ (l+1074).toNat<=2 ^ (k+1):=by
   have h8:(kp-1)*2 ^ (l+1074).toNat<=(V x).natAbs:=Nat.le_trans (Nat.le_mul_of_pos_right _ (by omega)) hX;have h9:(V x).natAbs<=2 ^ k:=by omega
   have h10:0<(V x).natAbs:=by omega
   rcases hk2' with h|h
   ·have:(l+1074).toNat=0:=by omega
    rw[this,Nat.pow_zero,Nat.mul_one]at h8 ⊢;rw[Nat.pow_succ];omega
   ·generalize 2 ^ (l+1074).toNat=g at *;obtain⟨c,rfl⟩:∃ c,kp=c+1:=⟨kp-1,by omega⟩;rw[Nat.add_sub_cancel]at h8;have:g<=c*g:=Nat.le_mul_of_pos_left _ (by omega);rw[Nat.add_mul,Nat.one_mul,Nat.pow_succ];omega
  rw[hs]at h11 h12;rw[hs];refine⟨h11,λhd0=>?_,λhd0=>?_,?_⟩
  ·rw[h12,ht,decide_eq_false (by omega)];exact Int.natCast_nonneg _
  ·rw[h12,ht,decide_eq_true hd0];exact Int.neg_nonpos_of_nonneg (Int.natCast_nonneg _)
  ·rw[h12];split
   ·rw[Int.natAbs_neg,Int.natAbs_natCast];exact hb
   ·rw[Int.natAbs_natCast];exact hb
theorem b7G{v a b:Int}(h:QV v a b)(ha:a≠0)(hb:b.natAbs<=2 ^ 24):2 ^ (U1-25)<=v.natAbs/\(v<0↔(decide (a<0) ^^ decide (b<0))=true):=by
 rcases h with⟨h,_⟩|⟨_,k,E,hd,hv⟩
 ·exact absurd h ha
 ·have hpos:0<k*2 ^ E:=Nat.mul_pos (by have:=hd.lo;omega) (Nat.two_pow_pos _)
  have hlow:2 ^ (U1-25)<=k*2 ^ E:=by
   have h1:=hd.dn;have h2:=hd.lo;have hU:U1=(U1-25)+25:=by decide
   have h3:2*k*(2 ^ E*b.natAbs)+2 ^ E*b.natAbs<=4*(k*2 ^ E*b.natAbs):=by
    have h4:2*k*(2 ^ E*b.natAbs)=2*(k*2 ^ E*b.natAbs):=by ac_rfl
    have h5:2 ^ E*b.natAbs<=k*(2 ^ E*b.natAbs):=Nat.le_mul_of_pos_left _ (by omega);rw[<-Nat.mul_assoc]at h5;omega
   have h7:k*2 ^ E*b.natAbs<=k*2 ^ E*2 ^ 24:=Nat.mul_le_mul_left _ hb;have h8:2 ^ U1<=a.natAbs*2 ^ U1:=Nat.le_mul_of_pos_left _ (by omega);rw[hU,Nat.pow_add]at h8;rw[hU]at h1;rw[Nat.pow_add]at h1;generalize 2 ^ (U1-25)=u at *;omega
  refine⟨?_,?_⟩
  ·rw[hv];split
   ·rw[Int.natAbs_neg,Int.natAbs_natCast];exact hlow
   ·rw[Int.natAbs_natCast];exact hlow
  ·rw[hv];split
   ·rename_i h;simp only[h,iff_true];omega
   ·rename_i h;simp only[h];constructor
    ·intro h';omega
    ·intro h';cases h'
end Go.Fl

namespace Go.Proofs.Tryz.Sx
open Go Go.Sx Go.Proofs Go.Fl
set_option maxRecDepth 100000
def a2n:PF:=fun
 | [.int .u64 n]=>some (.flt .f64 n.toNat,none)
 | _=>none
theorem b1h:F1 Tryz.prog 109 a2n:=by
 refine a1p Tryz.func109 (by kernel_rfl) (by kernel_rfl) (by kernel_rfl) (e:=Extern.MathFloatBits.float64frombits) (by kernel_rfl) ?_;intro args v p h hp;unfold a2n at h;split at h
 ·injection h with h;injection h with h1 h2;subst h1 h2
  exact⟨rfl,λρ w=>rfl⟩
 ·cases h
def b1l:PF:=fun
 | [.flt .f64 n]=>some (.int .u64 n,none)
 | _=>none
theorem bits:F1 Tryz.prog 110 b1l:=by
 refine a1p Tryz.func110 (by kernel_rfl) (by kernel_rfl) (by kernel_rfl) (e:=Extern.MathFloatBits.float64bits) (by kernel_rfl) ?_;intro args v p h hp;unfold b1l at h;split at h
 ·injection h with h;injection h with h1 h2;subst h1 h2
  exact⟨rfl,λρ w=>rfl⟩
 ·cases h
def GM:Ctx:=⟨⟨tys,[]⟩,[(109,A7 a2n),(110,A7 b1l)]⟩
theorem gM:A5 Tryz.prog GM:=⟨⟨C0,FlatsOk.nil⟩,j8.cons (.pure b1h) (j8.cons (.pure bits) j8.nil),by kernel_rfl⟩
def b1K:PF:=fun
 | [.flt .f64 x]=>some (.bool (fNe .f64 x x),none)
 | _=>none
theorem isNaN:F1 Tryz.prog 106 b1K:=by
 refine V1 gM Tryz.func106 rfl (by kernel_rfl) ?_;intro args v p h hp;unfold b1K at h;split at h
 ·injection h with h;injection h with h1 h2;subst h1 h2
  exact⟨rfl,rfl,rfl,rfl⟩
 ·cases h
def c3q:PF:=fun
 | [.int .i64 s]=>some (.flt .f64 a1q,some (s=1))
 | _=>none
theorem inf:F1 Tryz.prog 100 c3q:=by
 refine V1 gM Tryz.func100 rfl (by kernel_rfl) ?_;intro args v p h hp;unfold c3q at h;split at h
 ·injection h with h;injection h with h1 h2;subst h1 h2
  have hp:_=_:=hp;subst hp;refine⟨rfl,rfl,rfl,?_⟩;refine And.intro ?_ ?_
  ·intro _;exact rfl
  ·intro h;exact absurd h (by decide)
 ·cases h
def b8d:PF:=fun
 | [.flt .f64 x, .flt .f64 y]=>some (.flt .f64 1,some (x=1/\y=a1q))
 | _=>none
theorem b7t:F1 Tryz.prog 108 b8d:=by
 refine V1 gM Tryz.func108 rfl (by kernel_rfl) ?_;intro args v p h hp;unfold b8d at h;split at h
 ·injection h with h;injection h with h1 h2;subst h1 h2
  have hp:_/\_:=hp;obtain⟨rfl,rfl⟩:=hp;refine⟨rfl,rfl,rfl,?_⟩;show (_:Nat)=_
  kernel_rfl
 ·cases h
def GN:Ctx:=⟨⟨tys,[]⟩,[(109,A7 a2n),(110,A7 b1l),(106,A7 b1K),(108,A7 b8d)]⟩
theorem gN:A5 Tryz.prog GN:=⟨⟨C0,FlatsOk.nil⟩,j8.cons (.pure b1h) (j8.cons (.pure bits) (j8.cons (.pure isNaN) (j8.cons (.pure b7t) j8.nil))),by kernel_rfl⟩
def b7B:PF:=fun
 | [.flt .f64 x, .flt .f64 y]=>some (.flt .f64 (nxt x),some (y=a1q/\Fl.Fin x/\x+1<18446744073709551616))
 | _=>none
theorem next:F1 Tryz.prog 99 b7B:=by
 refine V1 gN Tryz.func99 rfl (by kernel_rfl) ?_;intro args v p h hp;unfold b7B at h;split at h
 ·rename_i x y;injection h with h;injection h with h1 h2;subst h1 h2
  have hp:_/\_/\_:=hp;obtain⟨rfl,hx,hlt⟩:=hp;refine⟨rfl,rfl,rfl,?_⟩;have e1:fNe .f64 x x=false:=b7P hx;have e2:fNe .f64 a1q a1q=false:=by kernel_rfl
  have e3:fEq .f64 x a1q=false:=b9z hx;have e4:fEq .f64 x 0=decide (V x=0):=b6q hx;have e5:fGt .f64 a1q x=true:=b9p hx;have e6:fGt .f64 x 0=decide (0<V x):=b7V hx
  repeat' (first|(intro h;first|(exact absurd h (by simp only[e1,e2,e3,e5];decide))|skip)|(refine And.intro ?_ ?_))
  all_goals (show (_:Nat)=_)
  ·rfl
  ·rfl
  ·rename_i h;rw[e4]at h;simp[nxt,oT9 h]
  ·rename_i h;have h0:fEq .f64 x 0=false:=by assumption
   rw[e4]at h0;rw[e5,e6]at h;have h0:=of_decide_eq_false h0;have h:0<V x:=by simpa using h
   rw[b4e (by omega) (by omega)];simp only[nxt,h0,h,if_true,if_false];omega
  ·rename_i h;have h0:fEq .f64 x 0=false:=by assumption
   rw[e4]at h0;rw[e5,e6]at h;have h0:=of_decide_eq_false h0;have h:¬0<V x:=by simpa using h
   have hx0:x≠0:=λe=>h0 (by rw[e];exact a6U)
   rw[b4e (by omega) (by omega)];simp only[nxt,h0,h,if_false];omega
 ·cases h
end Go.Proofs.Tryz.Sx

namespace Go.Sx
open Go.RowKit
def b1G(k:Bool):TK->Bool
 | .flt _=>k
 | .int _ => !k
 | _=>false
theorem a3c{x:SV}{xs ys:List SV}{b:Bool}(h:lEq (x :: xs) ys=some b):∃ y ys' b0 b1,ys=y :: ys'/\sEq x y=some b0/\lEq xs ys'=some b1/\b=(b0&&b1):=by
 cases ys with
 | nil=>simp[lEq]at h
 | cons y ys' =>
  simp only[lEq]at h;split at h
  ·rename_i b0 h0;split at h
   ·rename_i b1 h1;simp only[oI9]at h;exact⟨y,ys',b0,b1,rfl,h0,h1,h.symm⟩
   ·cases h
  ·cases h
theorem b3n{ys:List SV}{b:Bool}(h:lEq [] ys=some b):ys=[]/\b=true:=by
 cases ys with
 | nil=>simp only[lEq,oI9]at h;exact⟨rfl,h.symm⟩
 | cons y r=>simp[lEq]at h
theorem a5s{x y:SV}{b:Bool}(h:sEq x y=some b):(∃ k a c,x=.int k a/\y=.int k c/\b=(a==c))∨(∃ k a c,x=.flt k a/\y=.flt k c/\b=fEq k a c):=by
 unfold sEq at h;split at h
 ·split at h
  ·rename_i he;have:=a0j he;subst this;simp only[oI9]at h;exact .inl ⟨_,_,_,rfl,rfl,h.symm⟩
  ·cases h
 ·split at h
  ·rename_i he;have:=Q5 he;subst this;simp only[oI9]at h;exact .inr ⟨_,_,_,rfl,rfl,h.symm⟩
  ·cases h
 ·cases h
section
variable {P:Program} (w:World) (ρ:Rho)
theorem a1a{d t:Nat}{ti:TI}(ht:TOk P t ti){k:Bool}(hk:b1G k ti.tk=true){x y:SV}{b:Bool}(hx:U9 [k] [x]=true)(h:sEq x y=some b) :
  (Op.equalIn (d+1) t (x.den ρ) (y.den ρ)).run P w=.ok b w:=by
 obtain⟨dd,hd,hd2⟩:=ht.desc;rcases a5s h with⟨k1,a,c,rfl,rfl,rfl⟩|⟨k1,a,c,rfl,rfl,rfl⟩
 ·simp only[U9,Bool.and_true,Bool.not_eq_true']at hx;subst hx;cases dd <;> simp only[H7]at hd2 <;> rw[<-hd2]at hk <;> simp[b1G]at hk
  unfold Op.equalIn;simp[run_underlying hd,SV.den]
 ·simp only[U9,Bool.and_true]at hx;subst hx;cases dd <;> simp only[H7]at hd2 <;> rw[<-hd2]at hk <;> simp[b1G]at hk
  unfold Op.equalIn;simp[run_underlying hd,SV.den];rfl
theorem b0e{ti:TI}{k:Bool}(hk:b1G k ti.tk=true):ti.isAgg=false:=by
 unfold TI.isAgg;split <;> rename_i hh <;> simp_all[b1G]
def FE(P:Program)(t:Nat)(n:List Bool)(D:Nat):Prop :=
 ∀(d:Nat)(xs ys:List SV)(b:Bool),U9 n xs=true->lEq xs ys=some b->∀(ρ:Rho)(w:World),(Op.equalIn (d+D) t (.agg (w5 ρ xs).toArray) (.agg (w5 ρ ys).toArray)).run P w=.ok b w
theorem FE.flat{t:Nat}{n:List Bool}{D:Nat}(h:FE P t n D)(hg:P.eqGuardType P.depth t=false)(hD:D<=10000):a1M P t n :=
 ⟨hg,λxs ys b hx hb ρ w=>by
  have:=h (10000-D) xs ys b hx hb ρ w;rw[Nat.sub_add_cancel hD]at this
  exact this⟩
theorem Z1 {T:Tys} (hT:TysOk P T) {t e0 e1:Nat} {f0 f1:Field} {t0 t1:TI} {k0 k1:Bool} (hu:P.underlying t=some (.struct #[f0,f1])) (hp:P.stoodInHeld t=false)
  (hn0:f0.name≠ "_") (hn1:f1.name≠ "_") (h0:f0.type=e0/\f0.offset=0) (h1:f1.type=e1/\f1.offset=1) (ht0:ty T e0=some t0) (ht1:ty T e1=some t1)
  (hk0:b1G k0 t0.tk=true) (hk1:b1G k1 t1.tk=true):FE P t [k0,k1] 2:=by
 intro d xs ys b hx h ρ w;have hf:P.fieldsOf t = #[f0,f1]:=by simp[Program.fieldsOf,hu]
 match xs with
 | []=>simp[U9]at hx
 | [_]=>simp[U9]at hx;split at hx <;> simp at hx
 | _ :: _ :: _ :: _=>simp[U9]at hx;split at hx <;> (try split at hx) <;> simp at hx
 | [x0,x1] =>
  obtain⟨y0,ys',b0,c,rfl,e0',h',rfl⟩:=a3c h;obtain⟨y1,ys'',b1,c',rfl,e1',h'',rfl⟩:=a3c h';obtain⟨rfl,rfl⟩:=b3n h''
  have hx0:U9 [k0] [x0]=true:=by
   rcases a5s e0' with⟨k,a,c,rfl,rfl,rfl⟩|⟨k,a,c,rfl,rfl,rfl⟩ <;> simp_all[U9]
  have hx1:U9 [k1] [x1]=true:=by
   rcases a5s e0' with⟨k,a,c,rfl,rfl,rfl⟩|⟨k,a,c,rfl,rfl,rfl⟩ <;> rcases a5s e1' with⟨k,a,c,rfl,rfl,rfl⟩|⟨k,a,c,rfl,rfl,rfl⟩ <;> simp_all[U9]
  have p0:=λ(cs:List SV) (v:SV) (hc:cs[0]? = some v)=>(W6 (U:=λ_=>True) hT (cs:=cs) (by rw[H6];exact λv _=>SV.bd_all v) (e:=e0) (o:=0) (v:=v) (by simp[a4h,ht0,b0e hk0,E7,hc]) ρ w).1
  have p1:=λ(cs:List SV) (v:SV) (hc:cs[1]? = some v)=>(W6 (U:=λ_=>True) hT (cs:=cs) (by rw[H6];exact λv _=>SV.bd_all v) (e:=e1) (o:=1) (v:=v) (by simp[a4h,ht1,b0e hk1,E7,hc]) ρ w).1
  rw[run_equalIn_agg w (d+1) t _ _ (by rw[hf];exact hu) hp,hf];simp only[Op.eqFields,hn0,hn1,ne_eq,not_false_eq_true,if_true,h0.1,h0.2,h1.1,h1.2,Sem.run_bind];rw[p0 _ x0 rfl];simp only[Result.andThen_ok];rw[p0 _ y0 rfl];simp only[Result.andThen_ok,a1a w ρ (hT _ _ ht0) hk0 hx0 e0'];cases b0
  ·simp
  ·simp only[Bool.not_true,Bool.false_eq_true,if_false,Sem.run_bind];rw[p1 _ x1 rfl];simp only[Result.andThen_ok];rw[p1 _ y1 rfl];simp only[Result.andThen_ok,a1a w ρ (hT _ _ ht1) hk1 hx1 e1'];cases b1 <;> simp
end
end Go.Sx

namespace Go.Fl
open Ieee Go.Sx
theorem a2o{x y r:Nat}{a b:Int}(h:C6 .f64 x y r)(hx:FI x a)(hy:FI y b)(hb:b≠0)(hb2:b.natAbs<2 ^ 53)(ha2:a.natAbs<2 ^ 53):Fin r/\QV (V r) a b:=by
 obtain⟨q,h1,h2,h3⟩:=c3F hx hy hb hb2 ha2;have:floatBits .quo .f64 x y=some q:=h1;unfold C6 at h;rw[this]at h;subst h;exact⟨h2,h3⟩
theorem a1C{y:Nat}(hy:FI y 0):∃ t j,double.read y=.number t 0 j:=by
 obtain⟨t,n,j,h4,h5,h6,hn⟩:=A8 hy.1;rw[hy.2,Int.zero_mul]at h6;have:=congrArg Int.natAbs h6;rw[C9]at this;rcases Nat.mul_eq_zero.1 this with h|h
 ·subst h;exact⟨t,j,h4⟩
 ·exact absurd h (Nat.ne_of_gt (Nat.two_pow_pos _))
theorem a2v(s:Bool):double.read (double.word s double.infRung)=.infinity s:=by cases s <;> decide
theorem b3N{x y r:Nat}{a:Int}(h:C6 .f64 x y r)(hx:FI x a)(ha:a≠0)(hy:FI y 0){z:Nat}(hz:Fin z):fEq .f64 r z=false/\fEq .f64 z r=false:=by
 obtain⟨s,m,i,h1,h2,h3,hm⟩:=A8 hx.1;obtain⟨t,j,h4⟩:=a1C hy
 have hm0:m≠0:=λe=>by
  subst e;rw[hx.2]at h3;have:=congrArg Int.natAbs h3;rw[C9,Nat.zero_mul,Int.natAbs_mul,B7]at this;rcases Nat.mul_eq_zero.1 this.symm with h|h
  ·omega
  ·exact absurd h (Nat.ne_of_gt (Nat.two_pow_pos _))
 have hd:floatBits .quo .f64 x y=some (double.word (s ^^ t) double.infRung):=by
  show double.div x y=_;unfold Format.div;rw[h1,h4];unfold Datum.quotient;simp only[hm0,if_true,if_false];rfl
 unfold C6 at h;rw[hd]at h;subst h;obtain⟨u,l,k,h7,_⟩:=A8 hz;constructor
 ·unfold fEq;show (Datum.order (double.read _) (double.read z)==_)=_;rw[a2v,h7];show ((some (if (s ^^ t)then Ordering.lt else Ordering.gt):Option Ordering)==some .eq)=false;cases (s ^^ t) <;> rfl
 ·unfold fEq;show (Datum.order (double.read z) (double.read _)==_)=_;rw[a2v,h7];show ((some (if (s ^^ t)then Ordering.gt else Ordering.lt):Option Ordering)==some .eq)=false;cases (s ^^ t) <;> rfl
theorem b5e{r z:Nat}(h:(double.read r).isNaN=true):fEq .f64 r z=false/\fEq .f64 z r=false:=by
 cases hr:double.read r with
 | nan s f =>
  constructor
  ·unfold fEq;show (Datum.order (double.read r) (double.read z)==_)=_;rw[hr];rfl
  ·unfold fEq;show (Datum.order (double.read z) (double.read r)==_)=_;rw[hr]
   cases double.read z <;> rfl
 | number s m i=>rw[hr]at h;cases h
 | infinity s=>rw[hr]at h;cases h
theorem c0D{x y r:Nat}(h:C6 .f64 x y r)(hx:FI x 0)(hy:FI y 0){z:Nat}:fEq .f64 r z=false/\fEq .f64 z r=false:=by
 obtain⟨s,i,h1⟩:=a1C hx;obtain⟨t,j,h4⟩:=a1C hy
 have hd:floatBits .quo .f64 x y=none:=by
  show double.div x y=_;unfold Format.div;rw[h1,h4];rfl
 unfold C6 at h;rw[hd]at h;exact b5e h
theorem c3c{v w a b c d:Int}(h1:QV v a b)(h2:QV w c d)(hb:b≠0)(hd:d≠0)(hs1:a.natAbs*d.natAbs<=2 ^ 50)(hs2:c.natAbs*b.natAbs<=2 ^ 50):v=w↔a*d=c*b:=by
 constructor
 ·intro hvw;rcases Int.lt_trichotomy (a*b*(d*d)) (c*d*(b*b))with h|h|h
  ·have:=b4i h1 h2 hb hd hs1 hs2 h;omega
  ·have e1:a*b*(d*d)=(b*d)*(a*d):=by ac_rfl
   have e2:c*d*(b*b)=(b*d)*(c*b):=by ac_rfl
   rw[e1,e2]at h;exact Int.eq_of_mul_eq_mul_left (Int.mul_ne_zero hb hd) h
  ·have:=b4i h2 h1 hd hb hs2 hs1 h;omega
 ·exact c0U h1 h2 hb hd
theorem b5b{v w a b c d:Int}(h1:QV v a b)(h2:QV w c d)(hbd:0<b*d)(hs1:a.natAbs*d.natAbs<=2 ^ 50)(hs2:c.natAbs*b.natAbs<=2 ^ 50):v<=w↔a*d<=c*b:=by
 have hb:b≠0:=λe=>by rw[e,Int.zero_mul]at hbd;omega
 have hd:d≠0:=λe=>by rw[e,Int.mul_zero]at hbd;omega
 have e1:a*b*(d*d)=(b*d)*(a*d):=by ac_rfl
 have e2:c*d*(b*b)=(b*d)*(c*b):=by ac_rfl
 rcases Int.lt_trichotomy (a*d) (c*b)with h|h|h
 ·have h3:=Int.mul_lt_mul_of_pos_left h hbd;rw[<-e1,<-e2]at h3;have:=b4i h1 h2 hb hd hs1 hs2 h3;omega
 ·have:=c0U h1 h2 hb hd h;omega
 ·have h3:=Int.mul_lt_mul_of_pos_left h hbd;rw[<-e1,<-e2]at h3;have:=b4i h2 h1 hd hb hs2 hs1 h3;omega
theorem a3p{x y:Nat}{a b:Int}(hx:FI x a)(hy:FI y b)(ha:a.natAbs<=2 ^ 22)(hb:b.natAbs<=2 ^ 22):fok .sub .f64 x y/\FI (fop .sub .f64 x y) (a-b):=by
 obtain⟨r,h1,h2⟩:=b2U hx hy (by omega);have:floatBits .sub .f64 x y=some r:=h1;unfold fok fop;rw[this];exact⟨rfl,h2⟩
theorem a6Q{n m:Int}{k:Nat}(hk:k<=1045):(n*2 ^ U1+((2 ^ k:Nat):Int)<m*2 ^ U1↔n<m)/\(m*2 ^ U1<n*2 ^ U1+((2 ^ k:Nat):Int)↔m<=n)/\n*2 ^ U1+((2 ^ k:Nat):Int)≠m*2 ^ U1:=by
 have hU:U1=1074:=rfl;have h1:2 ^ k<2 ^ U1:=(Nat.pow_lt_pow_iff_right (by decide)).2 (by omega);have h2:0<2 ^ k:=Nat.two_pow_pos k;have e:(2:Int) ^ U1=((2 ^ U1:Nat):Int):=by simp
 rw[e];generalize 2 ^ U1=u at *;generalize 2 ^ k=t at *;have hu:(0:Int)<(u:Int):=by omega
 rcases Int.lt_trichotomy n m with h|h|h
 ·have h3:(n+1)*(u:Int)<=m*u:=Int.mul_le_mul_of_nonneg_right (by omega) (by omega);rw[Int.add_mul,Int.one_mul]at h3;omega
 ·subst h;omega
 ·have h3:(m+1)*(u:Int)<=n*u:=Int.mul_le_mul_of_nonneg_right (by omega) (by omega);rw[Int.add_mul,Int.one_mul]at h3;omega
def b4Q(q:Nat)(n:Int):Prop:=Fin q/\∃ k,k<=1045/\V q=n*2 ^ U1+((2 ^ k:Nat):Int)
theorem b3Z{q y:Nat}{n m:Int}(hq:b4Q q n)(hy:FI y m):fEq .f64 q y=false:=by
 obtain⟨h1,k,hk,h2⟩:=hq;rw[b7T h1 hy.1,h2,hy.2];exact decide_eq_false (a6Q hk).2.2
theorem c0q{q y:Nat}{n m:Int}(hq:b4Q q n)(hy:FI y m):fLt .f64 q y=decide (n<m):=by
 obtain⟨h1,k,hk,h2⟩:=hq;rw[a9Y h1 hy.1,h2,hy.2];exact decide_eq_decide.2 (a6Q hk).1
theorem c0f{q y:Nat}{n m:Int}(hq:b4Q q n)(hy:FI y m):fGt .f64 q y=decide (m<=n):=by
 obtain⟨h1,k,hk,h2⟩:=hq;rw[c1j h1 hy.1,h2,hy.2];exact decide_eq_decide.2 (a6Q hk).2.1
theorem b0k{x:Nat}{n:Int}(h:FI x n)(hn:n.natAbs<=2 ^ 22):b4Q (nxt x) n:=⟨(a6c h hn).2.1,(a6c h hn).2.2⟩
end Go.Fl

namespace Go.Geo
def G9(a1 a2 b1 b2 p1 p2:Int):Int:=(b1-a1)*(p2-a2)-(b2-a2)*(p1-a1)
def btw(a b p:Int):Prop:=(a<=p/\p<=b)∨(b<=p/\p<=a)
def On(a1 a2 b1 b2 p1 p2:Int):Prop:=btw a1 b1 p1/\btw a2 b2 p2/\G9 a1 a2 b1 b2 p1 p2=0
def Lft(a1 a2 b1 b2 p1 p2:Int):Prop:=(b2<a2/\b2<=p2/\p2<a2/\0<G9 b1 b2 a1 a2 p1 p2)∨(a2<=b2/\a2<=p2/\p2<b2/\0<G9 a1 a2 b1 b2 p1 p2)
instance (a b p:Int):Decidable (btw a b p):=by unfold btw;infer_instance
instance (a1 a2 b1 b2 p1 p2:Int):Decidable (On a1 a2 b1 b2 p1 p2):=by unfold On;infer_instance
instance (a1 a2 b1 b2 p1 p2:Int):Decidable (Lft a1 a2 b1 b2 p1 p2):=by unfold Lft;infer_instance
section
variable {a1 a2 b1 b2 p1 p2:Int}
theorem a2N:G9 b1 b2 a1 a2 p1 p2 = -G9 a1 a2 b1 b2 p1 p2:=by
 unfold G9
 have e1:(a1-b1)*(p2-b2)=(b1-a1)*b2-(b1-a1)*p2:=by
  rw[show a1-b1 = -(b1-a1) by omega,show p2-b2 = -(b2-p2) by omega,Int.neg_mul_neg,Int.mul_sub]
 have e2:(a2-b2)*(p1-b1)=(b2-a2)*b1-(b2-a2)*p1:=by
  rw[show a2-b2 = -(b2-a2) by omega,show p1-b1 = -(b1-p1) by omega,Int.neg_mul_neg,Int.mul_sub]
 have e3:(b1-a1)*(p2-a2)=(b1-a1)*p2-(b1-a1)*a2:=Int.mul_sub _ _ _;have e4:(b2-a2)*(p1-a1)=(b2-a2)*p1-(b2-a2)*a1:=Int.mul_sub _ _ _;have e5:(b1-a1)*b2=b1*b2-a1*b2:=Int.sub_mul _ _ _;have e6:(b1-a1)*a2=b1*a2-a1*a2:=Int.sub_mul _ _ _;have e7:(b2-a2)*b1=b2*b1-a2*b1:=Int.sub_mul _ _ _;have e8:(b2-a2)*a1=b2*a1-a2*a1:=Int.sub_mul _ _ _;rw[Int.mul_comm b2 b1,Int.mul_comm a2 b1]at e7;rw[Int.mul_comm b2 a1,Int.mul_comm a2 a1]at e8;rw[e1,e2,e3,e4];omega
theorem a9Z{a b p:Int}:btw b a p↔btw a b p:=by unfold btw;omega
theorem a9b:On b1 b2 a1 a2 p1 p2↔On a1 a2 b1 b2 p1 p2:=by
 unfold On;rw[a2N];constructor <;> rintro⟨h1,h2,h3⟩ <;> exact⟨a9Z.1 h1,a9Z.1 h2,by omega⟩
theorem a1L(h0:a2<b2)(h1:a2<=p2)(h2:p2<=b2)(h:G9 a1 a2 b1 b2 p1 p2=0):btw a1 b1 p1:=by
 unfold G9 at h;have hB:0<b2-a2:=by omega
 have ht0:0<=p2-a2:=by omega
 have ht1:p2-a2<=b2-a2:=by omega
 generalize hBe:b2-a2=B at *;generalize p2-a2=t at *;rcases Int.lt_or_le b1 a1 with hA|hA
 ·
  refine .inr ⟨?_,?_⟩
  ·rcases Int.lt_or_le p1 b1 with hp|hp
   ·have e:(b1-a1)*B<=(b1-a1)*t:=Int.mul_le_mul_of_nonpos_left (by omega) ht1;have e2:B*(p1-a1)<B*(b1-a1):=Int.mul_lt_mul_of_pos_left (by omega) hB;rw[Int.mul_comm B (b1-a1)]at e2;omega
   ·exact hp
  ·rcases Int.lt_or_le a1 p1 with hp|hp
   ·have e:(b1-a1)*t<=0:=Int.mul_nonpos_of_nonpos_of_nonneg (by omega) ht0;have e2:0<B*(p1-a1):=Int.mul_pos hB (by omega);omega
   ·exact hp
 ·refine .inl ⟨?_,?_⟩
  ·rcases Int.lt_or_le p1 a1 with hp|hp
   ·have e:0<=(b1-a1)*t:=Int.mul_nonneg (by omega) ht0;have e2:B*(p1-a1)<0:=Int.mul_neg_of_pos_of_neg hB (by omega);omega
   ·exact hp
  ·rcases Int.lt_or_le b1 p1 with hp|hp
   ·have e:(b1-a1)*t<=(b1-a1)*B:=Int.mul_le_mul_of_nonneg_left ht1 (by omega);have e2:B*(b1-a1)<B*(p1-a1):=Int.mul_lt_mul_of_pos_left (by omega) hB;rw[Int.mul_comm B (b1-a1)]at e2;omega
   ·exact hp
theorem a4S(h1:a2<=p2)(h2:p2<b2)(h3:a1<=p1)(h4:b1<=p1):G9 a1 a2 b1 b2 p1 p2<=0:=by
 unfold G9;have e2:0<=(b2-a2)*(p1-a1):=Int.mul_nonneg (by omega) (by omega);rcases Int.lt_or_le b1 a1 with hA|hA
 ·have e:(b1-a1)*(p2-a2)<=0:=Int.mul_nonpos_of_nonpos_of_nonneg (by omega) (by omega);omega
 ·have e:(b1-a1)*(p2-a2)<=(b1-a1)*(b2-a2):=Int.mul_le_mul_of_nonneg_left (by omega) (by omega);have e3:(b2-a2)*(b1-a1)<=(b2-a2)*(p1-a1):=Int.mul_le_mul_of_nonneg_left (by omega) (by omega);rw[Int.mul_comm (b2-a2) (b1-a1)]at e3;omega
theorem a6W(h1:a2<=p2)(h2:p2<b2)(h3:p1<=a1)(h4:p1<=b1):0<=G9 a1 a2 b1 b2 p1 p2:=by
 unfold G9;have e2:(b2-a2)*(p1-a1)<=0:=Int.mul_nonpos_of_nonneg_of_nonpos (by omega) (by omega);rcases Int.lt_or_le a1 b1 with hA|hA
 ·have e:0<=(b1-a1)*(p2-a2):=Int.mul_nonneg (by omega) (by omega);omega
 ·have e:(b1-a1)*(b2-a2)<=(b1-a1)*(p2-a2):=Int.mul_le_mul_of_nonpos_left (by omega) (by omega);have e3:(b2-a2)*(p1-a1)<=(b2-a2)*(b1-a1):=Int.mul_le_mul_of_nonneg_left (by omega) (by omega);rw[Int.mul_comm (b2-a2) (b1-a1)]at e3;omega
theorem Z8(hn:¬On a1 a2 b1 b2 p1 p2)(h1:a2<=p2)(h2:p2<b2):G9 a1 a2 b1 b2 p1 p2≠0:=λh =>
 hn ⟨a1L (by omega) h1 (by omega) h, .inl ⟨h1,by omega⟩,h⟩
end
end Go.Geo

namespace Go.Proofs.Tryz.Sx
open Go Go.Sx Go.Proofs Go.Fl Go.Geo
set_option maxRecDepth 100000
theorem b2s:a1M prog 100 [true,true] :=
 (Z1 C0 (t:=100) (e0:=98) (e1:=98) underlying100 (by kernel_rfl) (by decide) (by decide) ⟨rfl,rfl⟩ ⟨rfl,rfl⟩ (by rfl) (by rfl) rfl rfl).flat (by kernel_rfl) (by decide)
def GR:Ctx:=⟨⟨tys,[(100,[true,true])]⟩,[(99,A7 b7B),(100,A7 c3q)]⟩
theorem gR:A5 prog GR:=⟨⟨C0,FlatsOk.cons b2s FlatsOk.nil⟩,j8.cons (.pure next) (j8.cons (.pure inf) j8.nil),by kernel_rfl⟩
def SR(px py ax ay bx by':Nat):St :=
 ⟨302,[(4, .ptr 0 0),(5, .ptr 1 0),(6, .ptr 2 0),(7, .ptr 3 0)],
  [(0,⟨true,142, .cells [.ff, .ff],0⟩),(1,⟨true,100, .cells [.flt .f64 px, .flt .f64 py],0⟩),(2,⟨true,100, .cells [.flt .f64 ax, .flt .f64 ay],0⟩),(3,⟨true,100, .cells [.flt .f64 bx, .flt .f64 by'],0⟩)],4⟩
def KR(i o:Bool):Xt->St->Prop:=A0 GR.E.T f90.results.toList λ_ v=>eqv v (.agg [.bool i, .bool o])
def p2:Code->Code
 | .seq _ y=>y
 | c=>c
noncomputable def c0:Code:=l7 f90
noncomputable def c2:Code:=p2 (p2 c0)
noncomputable def c3:Code:=p2 c2
noncomputable def c4:Code:=p2 c3
noncomputable def c5:Code:=p2 c4
noncomputable def c6:Code:=p2 c5
noncomputable def c7:Code:=p2 c6
noncomputable def c8:Code:=p2 c7
noncomputable def c9:Code:=p2 c8
noncomputable def c10:Code:=p2 c9
theorem Wp.refines{P:Program}{N0:Nat}{S S1:St}{K:Xt->St->Prop}{c:Code}(hr:B6 N0 S S1)(h:Wp P N0 c S1 K):Wp P N0 c S K:=by
 intro W0 Fr ρ0 ρ a w Q hS hN hρ hK;obtain⟨ρ',h1,h2⟩:=hr.2 W0 Fr ρ a w hS;exact h W0 Fr ρ0 ρ' a w Q h1 hr.1 (λn hn=>(h2 n hn).trans (hρ n hn)) hK
set_option maxHeartbeats 4000000 in
theorem a7b(ax ay bx by' px py:Nat)(i o:Bool)(h:Wp prog 0 c2 (SR px py ax ay bx by') (KR i o)) :
  Wp prog 0 c0 (z6 302 [.agg [.flt .f64 ax, .flt .f64 ay, .flt .f64 bx, .flt .f64 by'], .agg [.flt .f64 px, .flt .f64 py]] [] 0) (KR i o):=by
 refine Wp.seq (K1:=λe S'=>match e with
  | .normal=>Wp prog 0 (p2 c0) S' (KR i o)
  | _=>False) (Wp.run gR ?_) (λS' h'=>h') (λ_ _ h=>h.elim) (λ_ h=>h.elim)
 show Wp prog 0 (p2 c0) _ (KR i o)
 refine Wp.seq (K1:=λe S'=>match e with
  | .normal=>B6 0 S' (SR px py ax ay bx by')
  | _=>False) (Wp.run gR ?_) (λS' h'=>Wp.refines h' h) (λ_ _ h=>h.elim) (λ_ h=>h.elim)
 refine And.intro ?_ ?_
 ·kernel_rfl
 ·show B6 0 _ (SR px py ax ay bx by');refine B6.by_names [(0,some 48),(1,some 192),(2,some 216),(3,some 240)] ⟨rfl,rfl,rfl,rfl,?_,?_⟩
  ·exact⟨⟨rfl,trivial,rfl⟩,⟨rfl,trivial,rfl⟩,⟨rfl,trivial,rfl⟩,⟨rfl,trivial,rfl⟩,trivial⟩
  ·exact⟨⟨rfl,rfl,rfl,rfl,trivial,trivial,trivial⟩,⟨rfl,rfl,rfl,rfl,rfl,rfl,trivial⟩,⟨rfl,rfl,rfl,rfl,rfl,rfl,trivial⟩,⟨rfl,rfl,rfl,rfl,rfl,rfl,trivial⟩,trivial⟩
structure Pts (ax ay bx by' px py:Nat) (a1 a2 b1 b2 p1 p2:Int):Prop where
 ax:FI ax a1
 ay:FI ay a2
 bx:FI bx b1
 by':FI by' b2
 px:FI px p1
 py:FI py p2
 ha1:a1.natAbs<=2 ^ 22
 ha2:a2.natAbs<=2 ^ 22
 hb1:b1.natAbs<=2 ^ 22
 hb2:b2.natAbs<=2 ^ 22
 hp1:p1.natAbs<=2 ^ 22
 hp2:p2.natAbs<=2 ^ 22
section
variable {ax ay bx by' px py:Nat} {a1 a2 b1 b2 p1 p2:Int} (H:Pts ax ay bx by' px py a1 a2 b1 b2 p1 p2)
include H
abbrev KK(a1 a2 b1 b2 p1 p2:Int):Xt->St->Prop:=KR (decide (¬On a1 a2 b1 b2 p1 p2/\Lft a1 a2 b1 b2 p1 p2)) (decide (On a1 a2 b1 b2 p1 p2))
set_option maxHeartbeats 4000000 in
theorem c9o(h:((a2<b2->a2<=p2/\p2<=b2)/\(b2<a2->b2<=p2/\p2<=a2))->Wp prog 0 c3 (SR px py ax ay bx by') (KK a1 a2 b1 b2 p1 p2)) :
  Wp prog 0 c2 (SR px py ax ay bx by') (KK a1 a2 b1 b2 p1 p2):=by
 refine Wp.keep _ (Wp.run gR ?_) h;have e1:=N5 H.ay H.by';have e2:=N5 H.py H.ay;have e3:=N1 H.py H.by';have e4:=N1 H.ay H.by';have e5:=N5 H.py H.by';have e6:=N1 H.py H.ay
 repeat' (first|(intro h)|(refine And.intro ?_ ?_))
 all_goals try simp only[e1,e2,e3,e4,e5,e6,decide_eq_true_eq,decide_eq_false_iff_not]at *
 all_goals first
  | exact trivial
  | exact⟨rfl,rfl,rfl,rfl,rfl⟩
  | omega
  | exact decide_eq_false (λhh=>by unfold On btw at hh;omega)
  | exact decide_eq_false (λhh=>by unfold Lft at hh;omega)
set_option maxHeartbeats 4000000 in
theorem c9n(f1:(a2<b2->a2<=p2/\p2<=b2)/\(b2<a2->b2<=p2/\p2<=a2))(h:(a2=b2->a1≠b1/\(p2=b2->¬btw a1 b1 p1))->Wp prog 0 c4 (SR px py ax ay bx by') (KK a1 a2 b1 b2 p1 p2)) :
  Wp prog 0 c3 (SR px py ax ay bx by') (KK a1 a2 b1 b2 p1 p2):=by
 refine Wp.keep _ (Wp.run gR ?_) h;have e1:=N6 H.ay H.by';have e2:=N6 H.ax H.bx;have e3:=N6 H.px H.ax;have e3':=N6 H.py H.ay;have e4:=N6 H.py H.by';have e5:=N5 H.ax H.bx;have e6:=a3d H.px H.ax;have e7:=a2z H.px H.bx;have e8:=a3d H.px H.bx;have e9:=a2z H.px H.ax;have l1:a2=b2->p2=b2->G9 a1 a2 b1 b2 p1 p2=0:=λx y=>by subst x;subst y;unfold G9;simp
 have l2:a2=b2->a1=b1->G9 a1 a2 b1 b2 p1 p2=0:=λx y=>by subst x;subst y;unfold G9;simp
 clear h
 repeat' (first|(intro h)|(refine And.intro ?_ ?_))
 all_goals try simp only[e1,e2,e3,e3',e4,e5,e6,e7,e8,e9,decide_eq_true_eq,decide_eq_false_iff_not,bA9,Bool.and_true,Bool.and_eq_false_imp]at *
 all_goals first
  | exact trivial
  | exact⟨rfl,rfl,rfl,rfl,rfl⟩
  | omega
  | (unfold btw at *;omega)
  | exact decide_eq_false (λhh=>by unfold On btw at hh;omega)
  | exact decide_eq_false (λhh=>by unfold Lft at hh;omega)
  | exact decide_eq_true (by unfold On btw;omega)
  | exact decide_eq_false (λhh=>hh.1 (by unfold On btw;omega))
set_option maxHeartbeats 4000000 in
theorem c8j(f1:(a2<b2->a2<=p2/\p2<=b2)/\(b2<a2->b2<=p2/\p2<=a2))(f2:a2=b2->a1≠b1/\(p2=b2->¬btw a1 b1 p1))(h:(a1=b1->p1≠b1)->Wp prog 0 c5 (SR px py ax ay bx by') (KK a1 a2 b1 b2 p1 p2)) :
  Wp prog 0 c4 (SR px py ax ay bx by') (KK a1 a2 b1 b2 p1 p2):=by
 refine Wp.keep _ (Wp.run gR ?_) h;have e1:=N6 H.ax H.bx;have e2:=N6 H.px H.bx;have e3:=N5 H.ay H.by';have e4:=a3d H.py H.ay;have e5:=a2z H.py H.by';have e6:=a3d H.py H.by';have e7:=a2z H.py H.ay;have l1:a1=b1->p1=b1->G9 a1 a2 b1 b2 p1 p2=0:=λx y=>by subst x;subst y;unfold G9;simp
 clear h
 repeat' (first|(intro h)|(refine And.intro ?_ ?_))
 all_goals try simp only[e1,e2,e3,e4,e5,e6,e7,decide_eq_true_eq,decide_eq_false_iff_not]at *
 all_goals first
  | exact trivial
  | exact⟨rfl,rfl,rfl,rfl,rfl⟩
  | omega
  | exact decide_eq_true (by unfold On btw;omega)
  | exact decide_eq_false (λhh=>hh.1 (by unfold On btw;omega))
set_option maxHeartbeats 4000000 in
theorem c9P(f1:(a2<b2->a2<=p2/\p2<=b2)/\(b2<a2->b2<=p2/\p2<=a2))(f2:a2=b2->a1≠b1/\(p2=b2->¬btw a1 b1 p1))(f3:a1=b1->p1≠b1)
  (h:¬On a1 a2 b1 b2 p1 p2->Wp prog 0 c6 (SR px py ax ay bx by') (KK a1 a2 b1 b2 p1 p2)) :
  Wp prog 0 c5 (SR px py ax ay bx by') (KK a1 a2 b1 b2 p1 p2):=by
 refine Wp.keep _ (Wp.run gR ?_) h;clear h;obtain⟨s1,d1⟩:=a3p H.px H.ax H.hp1 H.ha1;obtain⟨s2,d2⟩:=a3p H.bx H.ax H.hb1 H.ha1;obtain⟨s3,d3⟩:=a3p H.py H.ay H.hp2 H.ha2;obtain⟨s4,d4⟩:=a3p H.by' H.ay H.hb2 H.ha2
 have key:∀ r q,C6 .f64 (fop .sub .f64 px ax) (fop .sub .f64 bx ax) r->C6 .f64 (fop .sub .f64 py ay) (fop .sub .f64 by' ay) q->(fEq .f64 r q=true↔On a1 a2 b1 b2 p1 p2):=by
  intro r q hr hq;have hb:=H.ha1;have hb':=H.ha2;have hb'':=H.hb1;have hb''':=H.hb2;have hc:=H.hp1;have hc':=H.hp2;by_cases hv:b1-a1=0
  ·rw[hv]at d2;have h4:b2-a2≠0:=by omega
   obtain⟨g1,_⟩:=a2o hq d3 d4 h4 (by omega) (by omega);rw[(b3N hr d1 (by omega) d2 g1).1];constructor
   ·intro h;cases h
   ·intro h;unfold On btw at h;omega
  ·obtain⟨g1,g2⟩:=a2o hr d1 d2 hv (by omega) (by omega);by_cases hw:b2-a2=0
   ·rw[hw]at d4
    have hne:fEq .f64 r q=false:=by
     by_cases hz:p2-a2=0
     ·rw[hz]at d3;exact(c0D hq d3 d4).2
     ·exact(b3N hq d3 hz d4 g1).2
    rw[hne];constructor
    ·intro h;cases h
    ·intro h;unfold On at h;unfold btw at h f2;omega
   ·obtain⟨g3,g4⟩:=a2o hq d3 d4 hw (by omega) (by omega);rw[b7T g1 g3,decide_eq_true_eq,c3c g2 g4 hv hw ?_ ?_]
    ·have hcross:G9 a1 a2 b1 b2 p1 p2=(p2-a2)*(b1-a1)-(p1-a1)*(b2-a2):=by
      unfold G9;rw[Int.mul_comm (b1-a1),Int.mul_comm (b2-a2)]
     constructor
     ·intro h;have h0:G9 a1 a2 b1 b2 p1 p2=0:=by omega
      rcases Int.lt_or_le a2 b2 with hlt|hge
      ·exact⟨a1L hlt (by omega) (by omega) h0,by unfold btw;omega,h0⟩
      ·have hlt:b2<a2:=by omega
       refine a9b.1 ⟨a1L (p2:=p2) hlt (by omega) (by omega) (by rw[a2N];omega),by unfold btw;omega,by rw[a2N];omega⟩
     ·intro h;have:=h.2.2;omega
    ·have:=Nat.mul_le_mul (show (p1-a1).natAbs<=2 ^ 23 by omega) (show (b2-a2).natAbs<=2 ^ 23 by omega);omega
    ·have:=Nat.mul_le_mul (show (p2-a2).natAbs<=2 ^ 23 by omega) (show (b1-a1).natAbs<=2 ^ 23 by omega);omega
 refine And.intro s1 (And.intro s2 ?_);intro r hr;refine And.intro s3 (And.intro s4 ?_);intro q hq;have hk:=key r q hr hq;refine And.intro ?_ ?_
 ·intro h;have ho:=hk.1 h;exact⟨decide_eq_false (λhh=>hh.1 ho),decide_eq_true ho,trivial⟩
 ·intro h;refine And.intro ?_ ?_
  ·intro ho;rw[hk.2 ho]at h;cases h
  ·exact⟨rfl,rfl,rfl,rfl,rfl⟩
end
theorem B6.rfl'{S:St}:B6 0 S S:=⟨Nat.zero_le _,λ_ _ ρ _ _ h=>⟨ρ,h,λ_ _=>rfl⟩⟩
section
variable {ax ay bx by' px py:Nat} {a1 a2 b1 b2 p1 p2:Int} (H:Pts ax ay bx by' px py a1 a2 b1 b2 p1 p2)
include H
def LI(ax ay bx by' px py:Nat):Bool->St
 | false=>SR px py ax ay bx by'
 | true=>SR px (nxt py) ax ay bx by'
def Lμ:Bool->Nat
 | false=>1
 | true=>0
set_option maxHeartbeats 4000000 in
theorem c9S(hA:p2≠a2/\p2≠b2->Wp prog 0 c7 (SR px py ax ay bx by') (KK a1 a2 b1 b2 p1 p2))(hB:p2=a2∨p2=b2->Wp prog 0 c7 (SR px (nxt py) ax ay bx by') (KK a1 a2 b1 b2 p1 p2)) :
  Wp prog 0 c6 (SR px py ax ay bx by') (KK a1 a2 b1 b2 p1 p2):=by
 refine Wp.seq (K1:=λe S'=>match e with
  | .normal=>((p2≠a2/\p2≠b2)/\B6 0 S' (SR px py ax ay bx by'))∨((p2=a2∨p2=b2)/\B6 0 S' (SR px (nxt py) ax ay bx by'))
  | _=>False) ?_ (λS' h'=>by
   rcases h' with⟨h1,h2⟩|⟨h1,h2⟩
   ·exact Wp.refines h2 (hA h1)
   ·exact Wp.refines h2 (hB h1)) (λ_ _ h=>h.elim) (λ_ h=>h.elim)
 clear hA hB;have e1:=N6 H.py H.ay;have e2:=N6 H.py H.by';have hn:=b0k H.py H.hp2;have e3:=b3Z hn H.ay;have e4:=b3Z hn H.by';have hf:=H.py.1;have hl:=(a6c H.py H.hp2).1;refine Wp.block (Wp.loop (ι:={i:Bool // i=true->(p2=a2∨p2=b2)}) (λi=>LI ax ay bx by' px py i.1) (λi=>Lμ i.1) ⟨false,by intro h;cases h⟩ B6.rfl' ?_);rintro⟨i,hi⟩
 cases i with
 | false =>
  refine Wp.run gR ?_;refine And.intro ?_ ?_
  ·intro h;rw[e1]at h;refine And.intro rfl (And.intro ⟨rfl,hf,hl⟩ (And.intro (by kernel_rfl) ?_));refine⟨⟨true,λ_=>.inl (oT9 h)⟩,show (0:Nat)<1 by decide,B6.by_names [] ⟨rfl,rfl,rfl,rfl,?_,?_⟩⟩
   ·exact⟨⟨rfl,trivial,rfl⟩,⟨rfl,trivial,rfl⟩,⟨rfl,trivial,rfl⟩,⟨rfl,trivial,rfl⟩,trivial⟩
   ·exact⟨⟨rfl,rfl,rfl,rfl,trivial,trivial,trivial⟩,⟨rfl,rfl,rfl,rfl,rfl,rfl,trivial⟩,⟨rfl,rfl,rfl,rfl,rfl,rfl,trivial⟩,⟨rfl,rfl,rfl,rfl,rfl,rfl,trivial⟩,trivial⟩
  ·intro h;rw[e1]at h;refine And.intro ?_ ?_
   ·intro h';rw[e2]at h';refine And.intro rfl (And.intro ⟨rfl,hf,hl⟩ (And.intro (by kernel_rfl) ?_));refine⟨⟨true,λ_=>.inr (oT9 h')⟩,show (0:Nat)<1 by decide,B6.by_names [] ⟨rfl,rfl,rfl,rfl,?_,?_⟩⟩
    ·exact⟨⟨rfl,trivial,rfl⟩,⟨rfl,trivial,rfl⟩,⟨rfl,trivial,rfl⟩,⟨rfl,trivial,rfl⟩,trivial⟩
    ·exact⟨⟨rfl,rfl,rfl,rfl,trivial,trivial,trivial⟩,⟨rfl,rfl,rfl,rfl,rfl,rfl,trivial⟩,⟨rfl,rfl,rfl,rfl,rfl,rfl,trivial⟩,⟨rfl,rfl,rfl,rfl,rfl,rfl,trivial⟩,trivial⟩
   ·intro h';rw[e2]at h';refine Or.inl ⟨⟨of_decide_eq_false h,of_decide_eq_false h'⟩,B6.by_names [] ⟨rfl,rfl,rfl,rfl,?_,?_⟩⟩
    ·exact⟨⟨rfl,trivial,rfl⟩,⟨rfl,trivial,rfl⟩,⟨rfl,trivial,rfl⟩,⟨rfl,trivial,rfl⟩,trivial⟩
    ·exact⟨⟨rfl,rfl,rfl,rfl,trivial,trivial,trivial⟩,⟨rfl,rfl,rfl,rfl,rfl,rfl,trivial⟩,⟨rfl,rfl,rfl,rfl,rfl,rfl,trivial⟩,⟨rfl,rfl,rfl,rfl,rfl,rfl,trivial⟩,trivial⟩
 | true =>
  have hi:=hi rfl;refine Wp.run gR ?_;refine And.intro ?_ ?_
  ·intro h;rw[e3]at h;cases h
  ·intro h;refine And.intro ?_ ?_
   ·intro h';rw[e4]at h';cases h'
   ·intro h';refine Or.inr ⟨hi,B6.by_names [] ⟨rfl,rfl,rfl,rfl,?_,?_⟩⟩
    ·exact⟨⟨rfl,trivial,rfl⟩,⟨rfl,trivial,rfl⟩,⟨rfl,trivial,rfl⟩,⟨rfl,trivial,rfl⟩,trivial⟩
    ·exact⟨⟨rfl,rfl,rfl,rfl,trivial,trivial,trivial⟩,⟨rfl,rfl,rfl,rfl,rfl,rfl,trivial⟩,⟨rfl,rfl,rfl,rfl,rfl,rfl,trivial⟩,⟨rfl,rfl,rfl,rfl,rfl,rfl,trivial⟩,trivial⟩
end
end Go.Proofs.Tryz.Sx

namespace Go.Fl
open Ieee Go.Sx Go.Geo
theorem b7w{k:Nat}(hk:k<=1047):2 ^ k<2 ^ (U1-25):=(Nat.pow_lt_pow_iff_right (by decide)).2 (by have:U1=1074:=rfl;omega)
theorem c1k{lx ly ux uy px q:Nat}{l1 l2 u1 u2 p1 p2:Int}(h1:FI lx l1)(h2:FI ly l2)(h3:FI ux u1)(h4:FI uy u2)(h5:FI px p1)
  (b1:l1.natAbs<=2 ^ 22) (b2:l2.natAbs<=2 ^ 22) (b3:u1.natAbs<=2 ^ 22) (b4:u2.natAbs<=2 ^ 22) (b5:p1.natAbs<=2 ^ 22) (b6:p2.natAbs<=2 ^ 22)
  (hy:l2<=p2/\p2<u2) (hx:(l1<p1/\p1<u1)∨(u1<p1/\p1<l1)) (hq:(FI q p2/\p2≠l2)∨(b4Q q p2/\p2=l2)) :
  fok .sub .f64 q ly/\fok .sub .f64 px lx/\fok .sub .f64 uy ly/\fok .sub .f64 ux lx/\
  ∀ r w,C6 .f64 (fop .sub .f64 q ly) (fop .sub .f64 px lx) r->C6 .f64 (fop .sub .f64 uy ly) (fop .sub .f64 ux lx) w->fGe .f64 r w=decide (0<=G9 l1 l2 u1 u2 p1 p2):=by
 obtain⟨s2,d2⟩:=a3p h5 h1 b5 b1;obtain⟨s3,d3⟩:=a3p h4 h2 b4 b2;obtain⟨s4,d4⟩:=a3p h3 h1 b3 b1
 have hcross:G9 l1 l2 u1 u2 p1 p2=(p2-l2)*(u1-l1)-(u2-l2)*(p1-l1):=by
  unfold G9;rw[Int.mul_comm (u1-l1)]
 have hnum:u2-l2≠0:=by omega
 have hd1:p1-l1≠0:=by omega
 have hd2:u1-l1≠0:=by omega
 rcases hq with⟨hq,hne⟩|⟨hq,heq⟩
 ·obtain⟨s1,d1⟩:=a3p hq h2 b6 b2;refine⟨s1,s2,s3,s4,λr w hr hw=>?_⟩;obtain⟨g1,g2⟩:=a2o hr d1 d2 hd1 (by omega) (by omega);obtain⟨g3,g4⟩:=a2o hw d3 d4 hd2 (by omega) (by omega);rw[b7N g1 g3]
  have hpos:0<(u1-l1)*(p1-l1):=by
   rcases hx with hx|hx
   ·exact Int.mul_pos (by omega) (by omega)
   ·exact Int.mul_pos_of_neg_of_neg (by omega) (by omega)
  refine decide_eq_decide.2 ?_;rw[b5b g4 g2 hpos ?_ ?_,hcross]
  ·omega
  ·have:=Nat.mul_le_mul (show (u2-l2).natAbs<=2 ^ 23 by omega) (show (p1-l1).natAbs<=2 ^ 23 by omega);omega
  ·have:=Nat.mul_le_mul (show (p2-l2).natAbs<=2 ^ 23 by omega) (show (u1-l1).natAbs<=2 ^ 23 by omega);omega
 ·obtain⟨hf,k,hk,hv⟩:=hq;subst heq;obtain⟨n,n1,n2,n3,n4⟩:=b5B hf hv hk h2;have hn:floatBits .sub .f64 q ly=some n:=n1;have s1:fok .sub .f64 q ly:=by unfold fok;rw[hn];rfl
  have e1:fop .sub .f64 q ly=n:=by unfold fop;rw[hn];rfl
  refine⟨s1,s2,s3,s4,λr w hr hw=>?_⟩;rw[e1]at hr;obtain⟨r',m1,m2,m3,m4,m5⟩:=b1L n2 n3 n4 (by omega) d2 hd1
  have hrr:r=r':=by
   have:floatBits .quo .f64 n (fop .sub .f64 px lx)=some r':=m1;unfold C6 at hr;rw[this]at hr;exact hr
  subst hrr;obtain⟨g3,g4⟩:=a2o hw d3 d4 hd2 (by omega) (by omega);obtain⟨q1,q2⟩:=b7G g4 hnum (show (u1-l1).natAbs<=2 ^ 24 by omega);have hs:2 ^ (k+1+1)<2 ^ (U1-25):=b7w (by omega);rw[b7N m2 g3];refine decide_eq_decide.2 ?_;have hn0:decide (u2-p2<0)=false:=decide_eq_false (by omega);rw[hn0,Bool.false_xor]at q2;rw[hcross,Int.sub_self,Int.zero_mul];generalize 2 ^ (k+1+1)=t at *;generalize 2 ^ (U1-25)=u at *;rcases hx with hx|hx
  ·have hneg:¬V w<0:=by rw[q2];simp;omega
   have:=m3 (by omega);have hm:0<(u2-p2)*(p1-l1):=Int.mul_pos (by omega) (by omega);omega
  ·have hneg:V w<0:=by rw[q2];simp;omega
   have:=m4 (by omega);have hm:(u2-p2)*(p1-l1)<0:=Int.mul_neg_of_pos_of_neg (by omega) (by omega);omega
end Go.Fl

namespace Go.Proofs.Tryz.Sx
open Go Go.Sx Go.Proofs Go.Fl Go.Geo
set_option maxRecDepth 100000
def Ray(q:Nat)(p2 a2 b2:Int):Prop:=(FI q p2/\p2≠a2/\p2≠b2)∨(b4Q q p2/\(p2=a2∨p2=b2))
theorem Ray.lt{q y:Nat}{p2 a2 b2 m:Int}(h:Ray q p2 a2 b2)(hy:FI y m):fLt .f64 q y=decide (p2<m):=by
 rcases h with⟨h,_⟩|⟨h,_⟩
 ·exact N5 h hy
 ·exact c0q h hy
theorem Ray.gt{q y:Nat}{p2 a2 b2 m:Int}(h:Ray q p2 a2 b2)(hy:FI y m)(hm:m=a2∨m=b2):fGt .f64 q y=decide (m<=p2):=by
 rcases h with⟨h,h1,h2⟩|⟨h,_⟩
 ·rw[N1 h hy];exact decide_eq_decide.2 (by omega)
 ·exact c0f h hy
theorem b5N{a1 a2 b1 b2 p1 p2:Int}(f:(a2<b2/\a2<=p2/\p2<b2)∨(b2<a2/\b2<=p2/\p2<a2))(h1:a1<=p1)(h2:b1<=p1):¬Lft a1 a2 b1 b2 p1 p2:=by
 intro h;unfold Lft at h;rcases f with⟨f1,f2,f3⟩|⟨f1,f2,f3⟩
 ·have:=a4S f2 f3 h1 h2;omega
 ·have:=a4S f2 f3 h2 h1;omega
theorem b9v{a1 a2 b1 b2 p1 p2:Int}(hn:¬On a1 a2 b1 b2 p1 p2)(f:(a2<b2/\a2<=p2/\p2<b2)∨(b2<a2/\b2<=p2/\p2<a2))(h1:p1<=a1)(h2:p1<=b1):Lft a1 a2 b1 b2 p1 p2:=by
 unfold Lft;rcases f with⟨f1,f2,f3⟩|⟨f1,f2,f3⟩
 ·have:=a6W f2 f3 h1 h2;have:=Z8 hn f2 f3;omega
 ·have:=a6W f2 f3 h2 h1;have:=Z8 (λh=>hn (a9b.1 h)) f2 f3;omega
theorem c8p{ax ay bx by' px q:Nat}{a1 a2 b1 b2 p1 p2:Int}(hn:¬On a1 a2 b1 b2 p1 p2)(hl:¬Lft a1 a2 b1 b2 p1 p2):Wp prog 0 c10 (SR px q ax ay bx by') (KK a1 a2 b1 b2 p1 p2):=by
 refine Wp.run gR ?_;exact⟨decide_eq_false (λhh=>hl hh.2),decide_eq_false hn,trivial⟩
section
variable {ax ay bx by' px py q:Nat} {a1 a2 b1 b2 p1 p2:Int} (H:Pts ax ay bx by' px py a1 a2 b1 b2 p1 p2) (R:Ray q p2 a2 b2) (hn:¬On a1 a2 b1 b2 p1 p2)
include H R hn
set_option maxHeartbeats 4000000 in
theorem c9J(h:(a2<b2/\a2<=p2/\p2<b2)∨(b2<a2/\b2<=p2/\p2<a2)->Wp prog 0 c8 (SR px q ax ay bx by') (KK a1 a2 b1 b2 p1 p2)) :
  Wp prog 0 c7 (SR px q ax ay bx by') (KK a1 a2 b1 b2 p1 p2):=by
 refine Wp.keep _ (Wp.run gR ?_) h;clear h;have e1:=N5 H.ay H.by';have e2:=R.lt H.ay;have e3:=R.gt H.by' (.inr rfl);have e4:=R.lt H.by';have e5:=R.gt H.ay (.inl rfl)
 repeat' (first|(intro h)|(refine And.intro ?_ ?_))
 all_goals try simp only[e1,e2,e3,e4,e5,decide_eq_true_eq,decide_eq_false_iff_not]at *
 all_goals first
  | exact trivial
  | exact⟨rfl,rfl,rfl,rfl,rfl⟩
  | omega
  | exact decide_eq_false hn
  | exact decide_eq_false (λhh=>by unfold Lft at hh;omega)
set_option maxHeartbeats 4000000 in
theorem c9L(f:(a2<b2/\a2<=p2/\p2<b2)∨(b2<a2/\b2<=p2/\p2<a2))(h:(a1<p1/\p1<b1)∨(b1<p1/\p1<a1)->Wp prog 0 c9 (SR px q ax ay bx by') (KK a1 a2 b1 b2 p1 p2)) :
  Wp prog 0 c8 (SR px q ax ay bx by') (KK a1 a2 b1 b2 p1 p2):=by
 refine Wp.keep _ (Wp.run gR ?_) h;clear h;have _hR:=R;have r1:=b5N (a1:=a1) (b1:=b1) (p1:=p1) f;have r2:=b9v hn f;have e1:=N1 H.ax H.bx;have e2:=a3d H.px H.ax;have e3:=a2z H.px H.bx;have e4:=a3d H.px H.bx;have e5:=a2z H.px H.ax;clear f
 repeat' (first|(intro h)|(refine And.intro ?_ ?_))
 all_goals try simp only[e1,e2,e3,e4,e5,decide_eq_true_eq,decide_eq_false_iff_not]at *
 all_goals first
  | exact trivial
  | exact⟨rfl,rfl,rfl,rfl,rfl⟩
  | omega
  | exact decide_eq_false hn
  | exact decide_eq_true ⟨hn,r2 (by omega) (by omega)⟩
  | exact decide_eq_false (λhh=>r1 (by omega) (by omega) hh.2)
set_option maxHeartbeats 4000000 in
theorem c9U(f:(a2<b2/\a2<=p2/\p2<b2)∨(b2<a2/\b2<=p2/\p2<a2))(g:(a1<p1/\p1<b1)∨(b1<p1/\p1<a1))(h:¬Lft a1 a2 b1 b2 p1 p2->Wp prog 0 c10 (SR px q ax ay bx by') (KK a1 a2 b1 b2 p1 p2)) :
  Wp prog 0 c9 (SR px q ax ay bx by') (KK a1 a2 b1 b2 p1 p2):=by
 refine Wp.keep _ (Wp.run gR ?_) h;clear h;have e1:=N5 H.ay H.by';refine And.intro ?_ ?_
 ·intro h;rw[e1]at h;have h:=oT9 h;have f:a2<=p2/\p2<b2:=by omega
  obtain⟨s1,s2,s3,s4,key⟩:=c1k H.ax H.ay H.bx H.by' H.px H.ha1 H.ha2 H.hb1 H.hb2 H.hp1 H.hp2 f g (q:=q) (by
   rcases R with⟨h1,h2,h3⟩|⟨h1,h2⟩
   ·exact .inl ⟨h1,h2⟩
   ·exact .inr ⟨h1,by omega⟩)
  have hl:0<=G9 a1 a2 b1 b2 p1 p2↔Lft a1 a2 b1 b2 p1 p2:=by
   have:=Z8 hn f.1 f.2;unfold Lft;omega
  refine And.intro s1 (And.intro s2 ?_);intro r hr;refine And.intro s3 (And.intro s4 ?_);intro w hw;have hk:=key r w hr hw;refine And.intro ?_ ?_
  ·intro h';rw[hk]at h';exact⟨decide_eq_true ⟨hn,hl.1 (oT9 h')⟩,decide_eq_false hn,trivial⟩
  ·intro h';rw[hk]at h';refine And.intro (λhh=>of_decide_eq_false h' (hl.2 hh)) ?_;exact⟨rfl,rfl,rfl,rfl,rfl⟩
 ·intro h;rw[e1]at h;have h:=of_decide_eq_false h;have f:b2<a2/\b2<=p2/\p2<a2:=by omega
  obtain⟨s1,s2,s3,s4,key⟩:=c1k H.bx H.by' H.ax H.ay H.px H.hb1 H.hb2 H.ha1 H.ha2 H.hp1 H.hp2 f.2 (by omega) (q:=q) (by
   rcases R with⟨h1,h2,h3⟩|⟨h1,h2⟩
   ·exact .inl ⟨h1,h3⟩
   ·exact .inr ⟨h1,by omega⟩)
  have hl:0<=G9 b1 b2 a1 a2 p1 p2↔Lft a1 a2 b1 b2 p1 p2:=by
   have:=Z8 (λh=>hn (a9b.1 h)) f.2.1 f.2.2;unfold Lft;omega
  refine And.intro s1 (And.intro s2 ?_);intro r hr;refine And.intro s3 (And.intro s4 ?_);intro w hw;have hk:=key r w hr hw;refine And.intro ?_ ?_
  ·intro h';rw[hk]at h';exact⟨decide_eq_true ⟨hn,hl.1 (oT9 h')⟩,decide_eq_false hn,trivial⟩
  ·intro h';rw[hk]at h';refine And.intro (λhh=>of_decide_eq_false h' (hl.2 hh)) ?_;exact⟨rfl,rfl,rfl,rfl,rfl⟩
theorem b6J:Wp prog 0 c7 (SR px q ax ay bx by') (KK a1 a2 b1 b2 p1 p2) :=
 c9J H R hn λf=>c9L H R hn f λg=>c9U H R hn f g λhl=>c8p hn hl
end
theorem c5i{ax ay bx by' px py:Nat}{a1 a2 b1 b2 p1 p2:Int}(H:Pts ax ay bx by' px py a1 a2 b1 b2 p1 p2):Wp prog 0 c0 (z6 302 [.agg [.flt .f64 ax, .flt .f64 ay, .flt .f64 bx, .flt .f64 by'], .agg [.flt .f64 px, .flt .f64 py]] [] 0) (KK a1 a2 b1 b2 p1 p2) :=
 a7b _ _ _ _ _ _ _ _ (c9o H λf1=>c9n H f1 λf2=>c8j H f1 f2 λf3=>c9P H f1 f2 f3 λhn =>
  c9S H (λh=>b6J H (.inl ⟨H.py,h⟩) hn) (λh=>b6J H (.inr ⟨b0k H.py H.hp2,h⟩) hn))
end Go.Proofs.Tryz.Sx

namespace Go.Sx
open Go.RowKit
def Y9(b:Bool)(p:Prop):Prop :=
 match b with
 | true=>p
 | false=>False
theorem H5{b:Bool}{p:Prop}(h:Y9 b p):b=true/\p:=by
 cases b
 ·exact h.elim
 ·exact⟨rfl,h⟩
def a9q(σ:Sig)(sl:Slots)(N:Nat):Slots->Prop
 | []=>True
 | (t,v') :: r=>match slot sl t with
  | some v=>Y9 (v'.und N) (w8 σ v v'/\a9q σ sl N r)
  | none=>False
def b8.undP(N:Nat):b8->Prop
 | .cells l=>Y9 (a0m N l) True
 | .ints _ _ _=>True
 | .flts _ _ _=>True
 | .gen n f=>∀ i,i<n->(f i).und N=true
 | .upto _ l=>Y9 (a0m N l) True
 | .raw _ _ _ _=>True
def b0f(σ:Sig)(H:z7)(N:Nat):z7->Prop
 | []=>True
 | (n,o') :: r=>Y9 (Nat.blt n N) (o'.c.undP N/\(match σ n with
  | some m=>match look H m with
   | some o=>obR σ o o'
   | none=>False
  | none=>o'.c.void)/\b0f σ H N r)
theorem a4T{σ:Sig}{sl:Slots}{N:Nat}:∀ {s:Slots},a9q σ sl N s->a4F σ sl N s
 | [],_=>trivial
 | (t,v') :: r,h=>by
  unfold a9q at h;unfold a4F;split at h
  ·rename_i v hv;obtain⟨h1,h2,h3⟩:=H5 h;refine⟨?_,a4T h3⟩
   first|exact⟨h1,h2⟩|(rw[hv];exact⟨h1,h2⟩)
  ·exact h.elim
theorem b8.undP_spec{N:Nat}{c:b8}(h:c.undP N):c.und N:=by
 cases c with
 | cells l=>exact(H5 h).1
 | ints k n g=>trivial
 | flts k n g=>trivial
 | gen n f=>exact h
 | upto n l=>exact(H5 h).1
 | raw ts D sz F=>trivial
theorem a2D{σ:Sig}{H:z7}{N:Nat}:∀ {s:z7},b0f σ H N s->a1r σ H N s
 | [],_=>trivial
 | (n,o') :: r,h=>by
  unfold b0f at h;unfold a1r;obtain⟨h1,h2,h3,h4⟩:=H5 h;exact⟨⟨h1,b8.undP_spec h2,h3⟩,a2D h4⟩
def a4R(N0:Nat)(S S':St):Prop :=
 Y9 (Nat.ble N0 S'.N&&(b5R N0 (a3A N0 S S')&&(Nat.beq S'.nt S.nt&&R9 (L7 (a1J (a3A N0 S S')) S'.H))))
  (a9q (a1J (a3A N0 S S')) S.sl S'.N S'.sl/\b0f (a1J (a3A N0 S S')) S.H S'.N S'.H)
theorem I5{N0:Nat}{S S':St}(h:a4R N0 S S'):B6 N0 S S':=by
 obtain⟨h1,h2,h3⟩:=H5 h;simp only[bA9]at h1;obtain⟨h4,h5,h6,h7⟩:=h1;exact B6.auto ⟨h4,h5,eB9 h6,h7,a4T h2,a2D h3⟩
structure Fam where
 ι:Type
 I:ι->St
 inv:ι->Prop
 μ:ι->Nat
abbrev Ann:=List (Nat×Fam)
def ann:Ann->Nat->Option Fam
 | [],_=>none
 | (m,v) :: r,n=>match Nat.beq m n with
  | true=>some v
  | false=>ann r n
def a0v:Code->Option Nat
 | .region id _ _=>some id
 | .seq x y=>match a0v x with
  | some i=>some i
  | none=>a0v y
 | .block _ x=>a0v x
 | .loop x=>a0v x
 | _=>none
def b3p(A:Ann)(c:Code):Option Fam :=
 match a0v c with
 | some i=>ann A i
 | none=>none
structure S3 where
 f:Fam
 cuts:f.ι->Ann
instance:Coe Fam S3:=⟨λf=>⟨f,λ_=>[]⟩⟩
inductive LA where
 | fam (f:S3)
 | unr (l:List Fam)
 | alt (l:List S3)
 | unrD (f:St->List Fam)
 | iter (n:Nat)
instance:Coe S3 LA:=⟨.fam⟩
instance:Coe Fam LA:=⟨λf=>.fam f⟩
abbrev a7f:=List (Nat×LA)
def c7k:a7f->Nat->Option LA
 | [],_=>none
 | (m,v) :: r,n=>match Nat.beq m n with
  | true=>some v
  | false=>c7k r n
def b8H(A:a7f)(c:Code):Option LA :=
 match a0v c with
 | some i=>c7k A i
 | none=>none
def a1R:Ann->Ann->Ann
 | [],B=>B
 | x :: r,B=>x :: a1R r B
def a6B(N0:Nat)(S:St):List Fam->Prop
 | []=>False
 | J :: _=>∃ i,J.inv i/\a4R N0 S (J.I i)
def a8V(N0:Nat)(run:St->(Xt->St->Prop)->Prop)(K:Xt->St->Prop):List Fam->Prop
 | []=>True
 | J :: r=>(∀ i,J.inv i->run (J.I i) (λe S'=>match e with
  | .normal=>a6B N0 S' r
  | e=>K e S'))/\a8V N0 run K r
def a9W(run:St->(Xt->St->Prop)->Prop)(K:Xt->St->Prop):Nat->St->Prop
 | 0,_=>False
 | n+1,S=>run S (λe S'=>match e with
  | .normal=>a9W run K n S'
  | e=>K e S')
def b2T(N0:Nat)(run:Ann->St->(Xt->St->Prop)->Prop)(S:St)(K:Xt->St->Prop)(J:S3):Prop :=
 (∃ i,J.f.inv i/\a4R N0 S (J.f.I i))/\∀ i,J.f.inv i->run (J.cuts i) (J.f.I i) (λe S'=>match e with
  | .normal=>∃ i',J.f.inv i'/\J.f.μ i'<J.f.μ i/\a4R N0 S' (J.f.I i')
  | e=>K e S')
def b7y(N0:Nat)(run:Ann->St->(Xt->St->Prop)->Prop)(S:St)(K:Xt->St->Prop):List S3->Prop
 | []=>False
 | J :: r=>b2T N0 run S K J∨b7y N0 run S K r
def W5(G:Ctx)(N0:Nat)(A:a7f):Code->Ann->St->(Xt->St->Prop)->Prop
 | .skip,_,S,K=>K .normal S
 | .region _ ops draw,_,S,K=>match draw with
  | false=>a9k G ops.toList ops.toList S (K .normal)
  | true=>b2e G ops.toList S (K .normal) 20 []
 | .seq x y,B,S,K=>match b3p B y with
  | none=>W5 G N0 A x B S (λe S'=>match e with
   | .normal=>W5 G N0 A y B S' K
   | e=>K e S')
  | some J=>W5 G N0 A x B S (λe S'=>match e with
   | .normal=>∃ j,J.inv j/\a4R N0 S' (J.I j)
   | e=>K e S')/\∀ j,J.inv j->W5 G N0 A y B (J.I j) K
 | .cond c x y,B,S,K=>match opr S.sl c with
  | some .tt=>W5 G N0 A x B S K
  | some .ff=>W5 G N0 A y B S K
  | some (.bool b)=>(b=true->W5 G N0 A x B S K)/\(b=false->W5 G N0 A y B S K)
  | _=>False
 | .block id x,B,S,K=>W5 G N0 A x B S (λe S'=>match e with
  | .exit j=>match Nat.beq j id with
   | true=>K .normal S'
   | false=>K (.exit j) S'
  | e=>K e S')
 | .exit id,_,S,K=>K (.exit id) S
 | .ret,_,S,K=>K .ret S
 | .loop x,B,S,K=>match b8H A x with
  | none=>match b3p B x with
   | none=>False
   | some J=>b2T N0 (λB' S' K'=>W5 G N0 A x (a1R B' B) S' K') S K ⟨J,λ_=>[]⟩
  | some (.unr l)=>a6B N0 S l/\a8V N0 (λS' K'=>W5 G N0 A x B S' K') K l
  | some (.unrD f)=>a6B N0 S (f S)/\a8V N0 (λS' K'=>W5 G N0 A x B S' K') K (f S)
  | some (.iter n)=>a9W (λS' K'=>W5 G N0 A x B S' K') K n S
  | some (.fam J)=>b2T N0 (λB' S' K'=>W5 G N0 A x (a1R B' B) S' K') S K J
  | some (.alt l)=>b7y N0 (λB' S' K'=>W5 G N0 A x (a1R B' B) S' K') S K l
 | _,_,_,_=>False
def D6(G:Ctx)(N0:Nat)(A:a7f)(B:Ann)(c:Code)(S:St)(K:Xt->St->Prop):Prop:=W5 G N0 A c B S K
section
variable {P:Program} {G:Ctx}
theorem Wp.refines'{N0:Nat}{S S1:St}{K:Xt->St->Prop}{c:Code}(hr:B6 N0 S S1)(h:Wp P N0 c S1 K):Wp P N0 c S K:=by
 intro W0 Fr ρ0 ρ a w Q hS hN hρ hK;obtain⟨ρ',h1,h2⟩:=hr.2 W0 Fr ρ a w hS;exact h W0 Fr ρ0 ρ' a w Q h1 hr.1 (λn hn=>(h2 n hn).trans (hρ n hn)) hK
theorem Wp.iter{N0:Nat}{x:Code}{K:Xt->St->Prop}{run:St->(Xt->St->Prop)->Prop}(hrun:∀ S K,run S K->Wp P N0 x S K)(n:Nat)(S:St)(h:a9W run K n S):Wp P N0 (.loop x) S K:=by
 intro W0 Fr ρ0 ρ a w Q hS hN hρ hK;refine a0g (λi a w=>∃ S1 ρ',Sat W0 Fr S1 ρ' a w/\N0<=S1.N/\(∀ n,n<N0->ρ' n=ρ0 n)/\a9W run K i S1) (λi=>i) ?_ (i0:=n) ⟨S,ρ,hS,hN,hρ,h⟩;rintro i a1 w1 ⟨S1,ρ1,hS1,hN1,hρ1,hi⟩
 cases i with
 | zero=>exact(hi:False).elim
 | succ i =>
  refine hrun S1 _ hi W0 Fr ρ0 ρ1 a1 w1 _ hS1 hN1 hρ1 λe S' ρ' a' w' h' hS' hN' hρ'=>?_
  cases e with
  | normal=>exact⟨i,⟨S',ρ',hS',hN',hρ',h'⟩,Nat.lt_succ_self i⟩
  | exit id=>exact hK (.exit id) S' ρ' a' w' h' hS' hN' hρ'
  | ret=>exact hK .ret S' ρ' a' w' h' hS' hN' hρ'
theorem b1u(hG:A5 P G){N0:Nat}{A:a7f}:∀(c:Code) {B:Ann} {S:St} {K:Xt->St->Prop},W5 G N0 A c B S K->Wp P N0 c S K:=by
 intro c
 induction c with
 | skip=>intro B S K h;exact Wp.run hG h
 | region id ops draw=>intro B S K h;exact Wp.run hG h
 | seq x y ihx ihy =>
  intro B S K h;unfold W5 at h;split at h
  ·exact Wp.seq (ihx h) (λS' h'=>ihy h') (λ_ _ h=>h) (λ_ h=>h)
  ·rename_i J hJ;obtain⟨h1,h2⟩:=h;refine Wp.seq (ihx h1) (λS' h'=>?_) (λ_ _ h=>h) (λ_ h=>h);obtain⟨j,hj,hf⟩:=h';exact Wp.refines' (I5 hf) (ihy (h2 j hj))
 | cond c x y ihx ihy =>
  intro B S K h W0 Fr ρ0 ρ a w Q hS hN hρ hK;unfold W5 at h;split at h
  ·rename_i hv;exact wp_cond_true (by simpa [SV.den]using (I2 hS.s hv).1) (ihx h W0 Fr ρ0 ρ a w Q hS hN hρ hK)
  ·rename_i hv;exact wp_cond_false (by simpa [SV.den]using (I2 hS.s hv).1) (ihy h W0 Fr ρ0 ρ a w Q hS hN hρ hK)
  ·rename_i b hv;have hb:=(I2 hS.s hv).1;simp only[SV.den]at hb;exact wp_cond_split hb (λe=>ihx (h.1 e) W0 Fr ρ0 ρ a w Q hS hN hρ hK) (λe=>ihy (h.2 e) W0 Fr ρ0 ρ a w Q hS hN hρ hK)
  ·exact h.elim
 | block id x ih =>
  intro B S K h;exact Wp.block (ih h)
 | exit id=>intro B S K h;exact Wp.run hG h
 | ret=>intro B S K h;exact Wp.run hG h
 | loop x ih =>
  intro B S K h
  have hfam:∀ J:S3,b2T N0 (λB' S' K'=>W5 G N0 A x (a1R B' B) S' K') S K J->Wp P N0 (.loop x) S K:=by
   intro J h;obtain⟨⟨i0,h0,hf⟩,hr⟩:=h;refine Wp.loop (ι:={i:J.f.ι // J.f.inv i}) (λi=>J.f.I i.1) (λi=>J.f.μ i.1) ⟨i0,h0⟩ (I5 hf) λi=>?_
   refine Wp.mono (ih (hr i.1 i.2)) λe S' h'=>?_
   cases e with
   | normal =>
    obtain⟨i',h1,h2,h3⟩:=h';exact⟨⟨i',h1⟩,h2,I5 h3⟩
   | exit id=>exact h'
   | ret=>exact h'
  have hunr:∀ l:List Fam,(a6B N0 S l/\a8V N0 (λS' K'=>W5 G N0 A x B S' K') K l)->Wp P N0 (.loop x) S K:=by
   intro l h;obtain⟨h0,h1⟩:=h
   have key:∀(l:List Fam),a8V N0 (λS' K'=>W5 G N0 A x B S' K') K l->∀(k:Nat)(J:Fam),l[k]? = some J->∀ i,J.inv i->Wp P N0 x (J.I i) (λe S'=>match e with
     | .normal=>∃ J':Fam,l[k+1]? = some J'/\∃ i',J'.inv i'/\a4R N0 S' (J'.I i')
     | e=>K e S'):=by
    intro l
    induction l with
    | nil=>intro _ k J hk;simp at hk
    | cons J0 r ihl =>
     intro hu k J hk i hi;obtain⟨hu1,hu2⟩:=hu
     cases k with
     | zero =>
      simp only[List.getElem?_cons_zero,oI9]at hk;subst hk;refine Wp.mono (ih (hu1 i hi)) λe S' h'=>?_
      cases e with
      | normal =>
       cases r with
       | nil=>exact(h':False).elim
       | cons J1 r1=>exact⟨J1,rfl,h'⟩
      | exit id=>exact h'
      | ret=>exact h'
     | succ k =>
      simp only[List.getElem?_cons_succ]at hk;refine Wp.mono (ihl hu2 k J hk i hi) λe S' h'=>?_
      cases e with
      | normal =>
       obtain⟨J',h2,h3⟩:=h';exact⟨J',by simpa using h2,h3⟩
      | exit id=>exact h'
      | ret=>exact h'
   cases l with
   | nil=>exact(h0:False).elim
   | cons J0 r =>
    obtain⟨i0,hi0,hf⟩:=h0;refine Wp.loop (ι:={q:(Σ k:Fin (J0 :: r).length,((J0 :: r).get k).ι) // ((J0 :: r).get q.1).inv q.2}) (λq=>((J0 :: r).get q.1.1).I q.1.2) (λq=>(J0 :: r).length-q.1.1.val) ⟨⟨⟨0,Nat.succ_pos _⟩,i0⟩,hi0⟩ (I5 hf) λq=>?_
    obtain⟨⟨⟨k,hk⟩,i⟩,hi⟩:=q;refine Wp.mono (key _ h1 k _ (List.getElem?_eq_getElem hk) i hi) λe S' h'=>?_
    cases e with
    | normal =>
     obtain⟨J',h2,i',h3,h4⟩:=h';obtain⟨hlt,h5⟩:=List.getElem?_eq_some_iff.1 h2;subst h5;exact⟨⟨⟨⟨k+1,hlt⟩,i'⟩,h3⟩,by show (J0 :: r).length-(k+1)<(J0 :: r).length-k;omega,I5 h4⟩
    | exit id=>exact h'
    | ret=>exact h'
  unfold W5 at h;split at h
  ·split at h
   ·exact h.elim
   ·rename_i J hJ;exact hfam ⟨J,λ_=>[]⟩ h
  ·rename_i l hl;exact hunr l h
  ·rename_i f hf;exact hunr (f S) h
  ·rename_i n hn;exact Wp.iter (λS K=>ih) n S h
  ·rename_i J hJ;exact hfam J h
  ·rename_i l hl
   have:∀ l:List S3,b7y N0 (λB' S' K'=>W5 G N0 A x (a1R B' B) S' K') S K l->Wp P N0 (.loop x) S K:=by
    intro l
    induction l with
    | nil=>intro h;exact(h:False).elim
    | cons J r ihl =>
     intro h;rcases h with h|h
     ·exact hfam J h
     ·exact ihl h
   exact this l h
 | _=>intro B S K h;exact(h:False).elim
theorem a6l(hG:A5 P G){N0:Nat}{A:a7f}{B:Ann}(c:Code){S:St}{K:Xt->St->Prop}(h:D6 G N0 A B c S K):Wp P N0 c S K:=b1u hG c h
end
def B3(k:Nat)(hc:HC)(S:St)(v:SV):Prop :=
 Y9 (hc.val.und (k+24)&&R9 (L7 (K9 k (a8R k hc S v)) (hc.wr++hc.news)))
  (w8 (K9 k (a8R k hc S v)) v hc.val/\b0f (K9 k (a8R k hc S v)) S.H (k+24) (hc.wr++hc.news))
theorem a2X{k:Nat}{hc:HC}{S:St}{v:SV}(h:B3 k hc S v):∃ tau,a0I k hc S v tau:=by
 obtain⟨h1,h2,h3⟩:=H5 h;simp only[bA9]at h1;exact⟨_,h2,h1.1,a2D h3,h1.2⟩
theorem V0{fn:Func}(hb:fn.body.isNone=false):fn.body=some (l7 fn):=by
 unfold l7
 cases h:fn.body with
 | none=>rw[h]at hb;cases hb
 | some c=>rfl
theorem E1 {P:Program} {G:Ctx} (hG:A5 P G) {f:Nat} {fn:Func} (hf:P.funcs[f]? = some fn) (hb:fn.body.isNone=false) (hnm:(fn.name == "runtime.NumGoroutine")=false) {F:PF}
  (h:∀ args v p,F args=some (v,p)->okP p->(v.closed&&(F3 args&&Nat.ble args.length fn.ntmps))=true/\
   ∃ A B,D6 G 0 A B (l7 fn) (z6 fn.ntmps args [] 0) (A0 G.E.T fn.results.toList λ_ v'=>eqv v' v)):F1 P f F :=
 a6u hG hf (V0 hb) hnm λargs v p hF hp=>by
  obtain⟨h1,A,B,h2⟩:=h args v p hF hp;simp only[bA9]at h1;exact⟨h1.1,h1.2.1,h1.2.2,a6l hG _ h2⟩
def b9a(σ:Sig)(N:Nat):Nat->List (Nm×Ob)->z7->Prop
 | _,[],[]=>True
 | i,(_,o) :: r,(j,o') :: r'=>Y9 (Nat.beq i j) (o'.c.undP N/\obR σ o o'/\b9a σ N (i+1) r r')
 | _,_,_=>False
theorem a0r{σ:Sig}{N:Nat}:∀ {i:Nat} {r:List (Nm×Ob)} {h:z7},b9a σ N i r h->a3o σ N i r h
 | _,[],[],_=>trivial
 | i,(_,o) :: r,(j,o') :: r',h=>by
  obtain⟨h1,h2,h3,h4⟩:=H5 h;exact⟨h1,b8.undP_spec h2,h3,a0r h4⟩
 | _,[],_ :: _,h=>h.elim
 | _,_ :: _,[],h=>h.elim
def c1W(fn:Func)(args:List SV)(acc:List (Nm×Ob))(hc:HC):Prop :=
 Y9 (a0m acc.length hc.args&&(Nat.ble hc.args.length fn.ntmps&&(a1k acc.length hc.heap hc.wr&&(a1t acc.length hc.news&&b0x hc.wr hc.heap))))
  (l9 (y4 (y6 acc)) args hc.args/\b9a (y4 (y6 acc)) acc.length 0 acc hc.heap)
theorem q9 {P:Program} {G:Ctx} (hG:A5 P G) {f:Nat} {fn:Func} (hf:P.funcs[f]? = some fn) (hb:fn.body.isNone=false) (hnm:(fn.name == "runtime.NumGoroutine")=false) {C:List SV->RdM}
  (h:∀ args,(C args).All (λacc hc=>okP hc.obl->c1W fn args acc hc/\
   ∃ A B,D6 G acc.length A B (l7 fn) (z6 fn.ntmps hc.args hc.heap acc.length) (A0 G.E.T fn.results.toList λS v=>B3 acc.length hc S v)) []):z8 P f (z5 C) :=
 b0X hG hf (V0 hb) hnm λargs=>(h args).imp λacc hc hk ho=>by
  obtain⟨h1,A,B,h2⟩:=hk ho;obtain⟨h3,h4,h5⟩:=H5 h1;simp only[bA9]at h3;exact⟨h4,h3.1,h3.2.1,a0r h5,h3.2.2.1,h3.2.2.2.1,h3.2.2.2.2,Wp.mono (a6l hG _ h2) λe S' hk'=>a0w (λ_ _=>a2X) hk'⟩
theorem g9{b:Bool}{p:Prop}(h:b=true)(hp:p):Y9 b p:=by subst h;exact hp
theorem E0{σ:Sig}{v:SV}{b:Bool}(h:v.toB=some b):w8 σ v (.bool b):=by
 cases v <;> simp_all[SV.toB,w8]
section
variable {P:Program}
theorem a3t:∀ {n:List Bool} {xs:List SV},U9 n xs=true->xs.length=n.length
 | [],[],_=>rfl
 | [],_ :: _,h=>by simp[U9]at h
 | _ :: _,[],h=>by simp[U9]at h
 | k :: ks,v :: r,h=>by
  unfold U9 at h;split at h
  ·simp only[bA9]at h;simp[a3t h.2]
  ·simp only[bA9]at h;simp[a3t h.2]
  ·cases h
theorem a2a:∀ {n m:List Bool} {xs:List SV},U9 (n++m) xs=true->∃ a b,xs=a++b/\U9 n a=true/\U9 m b=true
 | [],m,xs,h=>⟨[],xs,rfl,rfl,h⟩
 | k :: n,m,[],h=>by simp[U9]at h
 | k :: n,m,v :: r,h=>by
  unfold U9 at h;simp only[List.cons_append]at h;split at h
  ·simp only[bA9]at h;obtain⟨a,b,rfl,h1,h2⟩:=a2a h.2;exact⟨_ :: a,b,rfl,by simp[U9,h.1,h1],h2⟩
  ·simp only[bA9]at h;obtain⟨a,b,rfl,h1,h2⟩:=a2a h.2;refine⟨_ :: a,b,rfl,?_,h2⟩;have:=h.1;simp at this;simp[U9,this,h1]
  ·cases h
theorem a6Y:∀ {a b ys:List SV} {r:Bool},lEq (a++b) ys=some r->∃ c d r0 r1,ys=c++d/\lEq a c=some r0/\lEq b d=some r1/\r=(r0&&r1)
 | [],b,ys,r,h=>⟨[],ys,true,r,rfl,by simp[lEq],h,by simp⟩
 | x :: a,b,ys,r,h=>by
  obtain⟨y,ys',b0,b1,rfl,h1,h2,rfl⟩:=a3c h;obtain⟨c,d,r0,r1,rfl,h3,h4,rfl⟩:=a6Y h2;exact⟨y :: c,d,b0&&r0,r1,rfl,by simp[lEq,h1,h3],h4,by simp[Bool.and_assoc]⟩
theorem a8X:∀ {a c:List SV} {r:Bool},lEq a c=some r->c.length=a.length
 | [],c,r,h=>by obtain⟨rfl,_⟩:=b3n h;rfl
 | x :: a,c,r,h=>by
  obtain⟨y,ys',b0,b1,rfl,h1,h2,rfl⟩:=a3c h;simp[a8X h2]
theorem b1f:∀(x pre post:List SV),b8.getN (.cells (pre++x++post)) pre.length x.length=some x
 | [],_,_=>by simp[b8.getN]
 | v :: x,pre,post=>by
  simp only[List.length_cons,b8.getN,b8.get,E7];have h1:(pre++v :: x++post)[pre.length]? = some v:=by simp
  rw[h1];have h2:=b1f x (pre++[v]) post;simp only[List.length_append,List.length_cons,List.length_nil,Nat.zero_add,List.append_assoc,List.cons_append,List.nil_append]at h2;simp only[List.append_assoc,List.cons_append];rw[h2]
theorem a3k{T:Tys}(hT:TysOk P T){e:Nat}{te:TI}(ht:ty T e=some te)(ha:te.isAgg=true){pre x post:List SV}(hs:te.size=x.length)(ρ:Rho)(w:World) :
  (part e (w5 ρ (pre++x++post)).toArray pre.length).run P w=.ok (.agg (w5 ρ x).toArray) w:=by
 have:=(W6 (U:=λ_=>True) hT (cs:=pre++x++post) (by rw[H6];exact λv _=>SV.bd_all v) (e:=e) (o:=pre.length) (v:=.agg x)
  (by simp only[a4h,ht,ha,cut,hs];rw[b1f]) ρ w).1
 simpa [SV.den]using this
theorem a7J{T:Tys}(hT:TysOk P T){t e:Nat}{te:TI}{n:List Bool}{D:Nat}(hu:P.underlying t=some (.array 2 e))(ht:ty T e=some te)(ha:te.isAgg=true)(hs:te.size=n.length)
  (he:FE P e n D):FE P t (n++n) (D+1):=by
 intro d xs ys b hx h ρ w;obtain⟨a,c,rfl,h1,h2⟩:=a2a hx;obtain⟨a',c',r0,r1,rfl,h3,h4,rfl⟩:=a6Y h;obtain⟨i,hi,hsz,_⟩:=(hT e te ht).run_info;have hc:P.cellsOf e=te.size:=by simp[Program.cellsOf,hi,hsz]
 have la:=a3t h1;have lc:=a3t h2;have la':=a8X h3;have lc':=a8X h4;rw[show d+(D+1)=(d+D)+1 from rfl,run_equalIn_array w (d+D) _ _ hu hi,hc];have p0:=a3k hT ht ha (pre:=[]) (x:=a) (post:=c) (by omega) ρ w;have p1:=a3k hT ht ha (pre:=[]) (x:=a') (post:=c') (by omega) ρ w;have p2:=a3k hT ht ha (pre:=a) (x:=c) (post:=[]) (by omega) ρ w;have p3:=a3k hT ht ha (pre:=a') (x:=c') (post:=[]) (by omega) ρ w;simp only[List.nil_append,List.append_nil,List.length_nil]at p0 p1 p2 p3;rw[show a.length=te.size by omega]at p2;rw[show a'.length=te.size by omega]at p3
 have hr:List.range 2=[0,1]:=rfl;simp only[hr,Op.eqItems,Sem.run_bind,Nat.zero_mul,p0,p1,Result.andThen_ok,he d a a' r0 h1 h3 ρ w];cases r0
 ·simp
 ·simp only[Bool.not_true,Bool.false_eq_true,if_false,Sem.run_bind,Nat.one_mul,p2,p3,Result.andThen_ok,he d c c' r1 h2 h4 ρ w];cases r1 <;> simp
end
end Go.Sx

namespace Go.Proofs.Tryz.Sx
open Go Go.Sx Go.Proofs
set_option maxRecDepth 100000
def G0:Ctx:=⟨⟨tys,[]⟩,[]⟩
theorem g0:A5 Tryz.prog G0:=⟨⟨C0,FlatsOk.nil⟩,j8.nil,by kernel_rfl⟩
theorem b6n{i:Nat}{g:Nat->Int}{x y:Int}(hx:x=g (2*i))(hy:y=g (2*i+1)):∀ j,j<2*(i+1)->B5 (2*i) g [x,y] 0 j=g j:=by
 intro j hj;subst hx hy;unfold B5;split
 ·rfl
 ·have:j=2*i∨j=2*i+1:=by omega
  rcases this with rfl|rfl <;> simp
end Go.Proofs.Tryz.Sx

namespace Go.Proofs.Tryz.Sx
open Go Go.Sx Go.Proofs Go.Fl Go.Geo
set_option maxRecDepth 100000
def B9(n:Int):Prop := -1048576<=n/\n<=1048576
instance (n:Int):Decidable (B9 n):=by unfold B9;infer_instance
def F5(m:Nat)(g:Nat->Int):Bool:=decide (∀ i,i<m->B9 (g i))
def c4v(len:Nat)(g:Nat->Int)(i:Nat):St :=
 ⟨30,[(5, .slcc 0 len),(6, .int .i64 len),(7, .int .i64 i)],[(0,⟨false,28, .ints .i64 (2*len) g,0⟩)],1⟩
theorem b5d(len:Nat)(g:Nat->Int)(hlen:len<=1000000)(K:St->SV->Prop)(hK:∀ S,K S (.bool (F5 (2*len) g)))(hK1:F5 (2*len) g=true->∀ S,K S .tt)(hK0:F5 (2*len) g=false->∀ S,K S .ff) :
 a0Q G0 1 (l7 f19) (z6 30 [.slcc 0 len] [(0,⟨false,28, .ints .i64 (2*len) g,0⟩)] 1) (A0 G0.E.T f19.results.toList K):=by
 apply b6a.mk
 refine⟨{i:Nat // i<=len/\∀ j,j<2*i->B9 (g j)},λi=>c4v len g i.1,λi=>len-i.1,⟨0,Nat.zero_le _,λj hj=>by omega⟩,?_,?_⟩
 ·refine B6.by_names [] ⟨rfl,rfl,rfl,rfl,?_,?_⟩
  ·exact⟨⟨rfl,trivial,rfl⟩,⟨rfl,rfl⟩,⟨rfl,rfl⟩,trivial⟩
  ·exact⟨⟨rfl,trivial,Nat.le_refl _,λ_ _=>rfl⟩,trivial⟩
 ·rintro⟨i,hi,hs⟩;have bad:∀ j,j<2*len->¬B9 (g j)->F5 (2*len) g=false:=λj hj hb=>decide_eq_false (λh=>hb (h j hj))
  refine And.intro ?_ ?_
  ·intro h;have h:(i:Int)<len:=oT9 h;have h0:0+((i:Int)).toNat*2=2*i:=by omega
   refine And.intro (And.intro (And.intro (Int.natCast_nonneg _) h) (show 0<2*len by omega)) ?_;refine And.intro (show 0+((i:Int)).toNat*2+2<=2*len by omega) ?_;have b0:=bad (2*i) (by omega);have b1:=bad (2*i+1) (by omega);refine And.intro ?_ ?_
   ·intro h1;have h1:g (0+((i:Int)).toNat*2) < -1048576:=oT9 h1;rw[h0]at h1;exact hK0 (b0 (λhh=>by unfold B9 at hh;omega)) _
   ·intro h1;have h1:¬g (0+((i:Int)).toNat*2) < -1048576:=of_decide_eq_false h1;refine And.intro ?_ ?_
    ·intro h2;have h2:1048576<g (0+((i:Int)).toNat*2):=oT9 h2;rw[h0]at h2;exact hK0 (b0 (λhh=>by unfold B9 at hh;omega)) _
    ·intro h2;have h2:¬1048576<g (0+((i:Int)).toNat*2):=of_decide_eq_false h2;refine And.intro ?_ ?_
     ·intro h3;have h3:g (0+((i:Int)).toNat*2+1) < -1048576:=oT9 h3;rw[h0]at h3;exact hK0 (b1 (λhh=>by unfold B9 at hh;omega)) _
     ·intro h3;have h3:¬g (0+((i:Int)).toNat*2+1) < -1048576:=of_decide_eq_false h3;refine And.intro ?_ ?_
      ·intro h4;have h4:1048576<g (0+((i:Int)).toNat*2+1):=oT9 h4;rw[h0]at h4;exact hK0 (b1 (λhh=>by unfold B9 at hh;omega)) _
      ·intro h4;have h4:¬1048576<g (0+((i:Int)).toNat*2+1):=of_decide_eq_false h4;rw[h0]at h1 h2 h3 h4;refine⟨⟨i+1,by omega,λj hj=>?_⟩,by show len-(i+1)<len-i;omega,B6.by_names [] ⟨rfl,rfl,rfl,rfl,?_,?_⟩⟩
       ·have:j<2*i∨j=2*i∨j=2*i+1:=by omega
        rcases this with h|rfl|rfl
        ·exact hs j h
        ·unfold B9;omega
        ·unfold B9;omega
       ·refine⟨⟨rfl,trivial,rfl⟩,⟨rfl,rfl⟩,⟨rfl,?_⟩,trivial⟩;show IntKind.i64.wrap ((i:Int)+1)=((i+1:Nat):Int);rw[p8 (by omega) (by omega)];omega
       ·exact⟨⟨rfl,trivial,Nat.le_refl _,λ_ _=>rfl⟩,trivial⟩
  ·intro h;have h:¬((i:Int)<len):=of_decide_eq_false h;have:i=len:=by omega
   subst this;exact hK1 (decide_eq_true hs) _
def a9f:List SV->RdM
 | [.slcc n len]=>.read n λo=>match j9 .i64 o.c with
  | some (m,g)=>.ret ⟨[.slcc 0 len],[(0,⟨false,28, .ints .i64 m g,0⟩)], .bool (F5 m g),[],[],some (m=2*len/\len<=1000000)⟩
  | none=>.fail
 | _=>.fail
theorem c2A:z8 prog 19 (z5 a9f):=by
 refine c0d g0 func19 rfl (by kernel_rfl) λargs=>?_
 unfold a9f;split;rotate_left;trivial;rename_i n len;intro o;try dsimp only
 split;rotate_left;trivial;rename_i m g hm;rintro⟨h1,h2⟩;subst h1;refine⟨?_,rfl,rfl,?_,rfl,rfl,rfl,?_⟩
 ·exact⟨⟨a8,rfl⟩,trivial⟩
 ·exact⟨rfl,trivial,(j5 hm).1,trivial⟩
 ·exact b5d len g h2 _ (λS=>⟨[],rfl,rfl,trivial,rfl⟩) (λh S=>⟨[],h,rfl,trivial,rfl⟩) (λh S=>⟨[],h,rfl,trivial,rfl⟩)
theorem a8n{x y:Int}{m n:Nat}(hx:x.natAbs<=m)(hy:y.natAbs<=n) : -((m*n:Nat):Int)<=x*y/\x*y<=((m*n:Nat):Int):=by
 have:=Nat.mul_le_mul hx hy;rw[<-Int.natAbs_mul]at this;omega
def ptF:PF:=fun
 | [.agg [.int .i64 x, .int .i64 y]]=>some (.agg [.flt .f64 (ofI .f64 x), .flt .f64 (ofI .f64 y)],none)
 | _=>none
theorem pt:F1 prog 75 ptF:=by
 refine V1 g0 func75 rfl (by kernel_rfl) ?_;intro args v p h hp;unfold ptF at h;split at h
 ·injection h with h;injection h with h1 h2;subst h1 h2
  refine⟨rfl,rfl,rfl,?_⟩;exact⟨rfl,rfl,trivial⟩
 ·cases h
noncomputable def wh(x:Nat):Int:=V x / 2 ^ U1
theorem a1X{x:Nat}{n:Int}(h:FI x n):wh x=n:=by
 unfold wh;rw[h.2];exact Int.mul_ediv_cancel _ (Int.ne_of_gt (E8 U1))
noncomputable def b7R:PF:=fun
 | [.agg [.flt .f64 ax, .flt .f64 ay, .flt .f64 bx, .flt .f64 by'], .agg [.flt .f64 px, .flt .f64 py]] =>
  some (.agg [.bool (decide (¬On (wh ax) (wh ay) (wh bx) (wh by') (wh px) (wh py)/\Lft (wh ax) (wh ay) (wh bx) (wh by') (wh px) (wh py))), .bool (decide (On (wh ax) (wh ay) (wh bx) (wh by') (wh px) (wh py)))],
   some (Pts ax ay bx by' px py (wh ax) (wh ay) (wh bx) (wh by') (wh px) (wh py)))
 | _=>none
theorem ray:F1 prog 90 b7R:=by
 refine a6u gR func90 (c:=c0) rfl (by kernel_rfl) ?_;intro args v p h hp;unfold b7R at h;split at h
 ·injection h with h;injection h with h1 h2;subst h1 h2
  exact⟨rfl,rfl,rfl,c5i hp⟩
 ·cases h
theorem c5p{n:Int}(h:B9 n):wh (ofI .f64 n)=n:=a1X (a3r (by unfold B9 at h;omega))
end Go.Proofs.Tryz.Sx

namespace Go.Fl
open Go.Sx Ieee
theorem b8b(neg:Bool)(n drop:Nat):Toward.zero.cut neg n drop=n / 2 ^ drop:=by
 unfold Toward.cut;simp only[Nat.shiftLeft_eq,Nat.one_mul,Bool.toNat_false,Nat.add_zero];by_cases hd:drop<=n.log2+2
 ·rw[Nat.min_eq_left hd]
 ·rw[Nat.min_eq_right (by omega)];have h1:n<2 ^ (n.log2+1):=Nat.lt_log2_self;have h2:2 ^ (n.log2+1)<=2 ^ (n.log2+2):=Nat.pow_le_pow_right (by decide) (by omega);have h3:2 ^ (n.log2+2)<=2 ^ drop:=Nat.pow_le_pow_right (by decide) (by omega);rw[Nat.div_eq_of_lt (by omega),Nat.div_eq_of_lt (by omega)]
theorem a5H{s:Bool}{m u:Nat}{n:Int}(h:signed s m u=n*2 ^ u):signed s m 0=n:=by
 have e:signed s m u=signed s m 0*2 ^ u:=by
  have:=J7 s m 0 u;rw[Nat.zero_add]at this;exact this
 rw[e]at h;exact Int.eq_of_mul_eq_mul_right (Int.ne_of_gt (E8 u)) h
theorem a8Y{x:Nat}{n:Int}(h:FI x n)(hn:n.natAbs<2 ^ 63):H3 .f64 x .i64/\toI .f64 x .i64=n:=by
 have key:floatToIntVal .f64 x .i64=some n:=by
  obtain⟨s,m,i,h1,h2,h3,_⟩:=A8 h.1;rw[h.2]at h3;have hU:U1=1074:=rfl
  have hv:(Datum.number s m i).toInt .zero=some n:=by
   unfold Datum.toInt Datum.integral;simp only;congr 1;rw[b8b,Nat.shiftLeft_eq];by_cases hi:0<=i
   ·have e1:(-i).toNat=0:=by omega
    rw[e1,Nat.pow_zero,Nat.div_one]
    apply a5H (u:=U1)
    have e2:(i+1074).toNat=i.toNat+U1:=by rw[hU];omega
    rw[e2]at h3;rw[<-h3,D5,D5,Nat.pow_add,Nat.mul_assoc]
   ·have e1:i.toNat=0:=by omega
    rw[e1,Nat.pow_zero,Nat.mul_one]
    have hm:m=n.natAbs*2 ^ (-i).toNat:=by
     have:=congrArg Int.natAbs h3;rw[D5]at this;have e2:U1=(-i).toNat+(i+1074).toNat:=by rw[hU];omega
     have h5:m*2 ^ (i+1074).toNat=n.natAbs*2 ^ U1:=by
      rw[Int.natAbs_mul]at this;rw[B7]at this;rw[<-this];cases s
      ·exact(Int.natAbs_natCast _).symm
      ·exact((Int.natAbs_neg _).trans (Int.natAbs_natCast _)).symm
     rw[e2,Nat.pow_add,<-Nat.mul_assoc]at h5;exact Nat.eq_of_mul_eq_mul_right (Nat.two_pow_pos _) h5
    rw[hm,Nat.mul_div_cancel _ (Nat.two_pow_pos _)];rw[hm]at h3
    apply a5H (u:=U1)
    rw[<-h3,D5,D5];have e2:U1=(-i).toNat+(i+1074).toNat:=by rw[hU];omega
    rw[e2,Nat.pow_add,<-Nat.mul_assoc]
  unfold floatToIntVal;have hd:FloatKind.f64.decode x=.number s m i:=h1;rw[hd,hv];simp only;rw[if_pos];have e1:IntKind.i64.min = -9223372036854775808:=by decide
  have e2:IntKind.i64.max=9223372036854775807:=by decide
  rw[e1,e2];omega
 unfold H3 toI;rw[key];exact⟨rfl,rfl⟩
def U0:Nat:=1000
theorem c6u:U0+1<=U1:=by decide
theorem a7D{m:Nat}{i:Int}(hi : -1074<=i)(hm:m<2 ^ 53)(h:2 ^ U0<=m*2 ^ (i+1074).toNat) : -128<i:=by
 rcases Int.lt_or_le (-128) i with h1|h1
 ·exact h1
 ·exfalso;obtain⟨c,hc⟩:∃ c:Nat,c=946:=⟨_,rfl⟩;have hd:U0=1000:=rfl;have h2:(i+1074).toNat<=c:=by omega
  have h3:m*2 ^ (i+1074).toNat<2 ^ 53*2 ^ c:=by
   apply Nat.lt_of_lt_of_le (Nat.mul_lt_mul_of_pos_right hm (Nat.two_pow_pos _))
   exact Nat.mul_le_mul_left _ (Nat.pow_le_pow_right (by decide) h2)
  rw[<-Nat.pow_add]at h3;have h4:2 ^ (53+c)<=2 ^ U0:=Nat.pow_le_pow_right (by decide) (by omega);exact absurd (Nat.lt_of_lt_of_le h3 h4) (Nat.not_lt.2 h)
theorem a9L{s:Bool}{m u:Nat}{v:Int}(h:signed s m u=v)(hv:v≠0):s=decide (v<0):=by
 rw[D5]at h;cases s
 ·simp only[Bool.false_eq_true,if_false]at h;exact(decide_eq_false (by omega)).symm
 ·simp only[if_true]at h;exact(decide_eq_true (by omega)).symm
theorem a8K{s:Bool}{m u:Nat}{v:Int}(h:signed s m u=v):m*2 ^ u=v.natAbs:=by
 rw[<-h,D5];cases s
 ·exact(Int.natAbs_natCast _).symm
 ·exact((Int.natAbs_neg _).trans (Int.natAbs_natCast _)).symm
def Big(v:Int):Prop:=v=0∨2 ^ U0<=v.natAbs
theorem c2Z{x:Nat}{n:Int}(h:FI x n):Big (V x):=by
 unfold Big;by_cases hn:n=0
 ·left;rw[h.2,hn,Int.zero_mul]
 ·right
  rw[h.2,Int.natAbs_mul,B7];have h1:1*2 ^ U1<=n.natAbs*2 ^ U1:=Nat.mul_le_mul_right _ (by omega);rw[Nat.one_mul]at h1;exact Nat.le_trans (Nat.pow_le_pow_right (by decide) (Nat.le_of_succ_le c6u)) h1
theorem b6E{x y:Nat}(hx:Fin x)(hy:Fin y)(bx:Big (V x))(by':Big (V y))(h0:V x≠0)(h1:V y≠0) :
  ∃ mag place,double.mul x y=some (double.nearest (decide (V x<0) ^^ decide (V y<0)) mag place)/\mag≠0/\-1074<=place/\mag*2 ^ (place+1074).toNat*2 ^ U1=(V x).natAbs*(V y).natAbs:=by
 obtain⟨s,m,i,r1,r2,r3,r4⟩:=A8 hx;obtain⟨t,n,j,q1,q2,q3,q4⟩:=A8 hy;have hm:=a8K r3;have hn:=a8K q3;have hi:=a7D r2 r4 (by rw[hm];rcases bx with h|h;exact absurd h h0;exact h);have hj:=a7D q2 q4 (by rw[hn];rcases by' with h|h;exact absurd h h1;exact h);have hm0:m≠0:=λe=>by rw[e,Nat.zero_mul]at hm;omega
 have hn0:n≠0:=λe=>by rw[e,Nat.zero_mul]at hn;omega
 refine⟨m*n,i+j,?_,Nat.mul_ne_zero hm0 hn0,by omega,?_⟩
 ·unfold Format.mul;rw[r1,q1,<-a9L r3 h0,<-a9L q3 h1];rfl
 ·have hU:U1=1074:=rfl;have e1:(i+1074).toNat+(j+1074).toNat=(i+j+1074).toNat+U1:=by rw[hU];omega
  calc (m*n*2 ^ (i+j+1074).toNat)*2 ^ U1=m*n*2 ^ ((i+j+1074).toNat+U1):=by rw[Nat.pow_add,Nat.mul_assoc]
   _=m*n*2 ^ ((i+1074).toNat+(j+1074).toNat):=by rw[e1]
   _=(m*2 ^ (i+1074).toNat)*(n*2 ^ (j+1074).toNat):=by rw[Nat.pow_add];ac_rfl
   _=_:=by rw[hm,hn]
theorem b5p{x y:Nat}(hx:Fin x)(hy:Fin y)(h:V x=0∨V y=0):∃ r,double.mul x y=some r/\FI r 0:=by
 obtain⟨s,m,i,r1,r2,r3,r4⟩:=A8 hx;obtain⟨t,n,j,q1,q2,q3,q4⟩:=A8 hy;have hm:=a8K r3;have hn:=a8K q3;refine⟨double.nearest (s ^^ t) (m*n) (i+j),by unfold Format.mul;rw[r1,q1];rfl,?_⟩
 have:m*n=0:=by
  rcases h with h|h
  ·rw[h]at hm;rcases Nat.mul_eq_zero.1 hm with h8|h8
   ·rw[h8,Nat.zero_mul]
   ·exact absurd h8 (Nat.ne_of_gt (Nat.two_pow_pos _))
  ·rw[h]at hn;rcases Nat.mul_eq_zero.1 hn with h8|h8
   ·rw[h8,Nat.mul_zero]
   ·exact absurd h8 (Nat.ne_of_gt (Nat.two_pow_pos _))
 unfold Format.nearest;rw[if_pos this];exact L4 _
theorem a6x:FI 4607182418800017408 1:=by
 have h:=a3r (n:=1) (by decide);have e:FloatKind.f64.nearest 1=4607182418800017408:=by decide
 rw[e]at h;exact h
end Go.Fl

namespace Go.Proofs.Tryz.Sx
open Go Go.Sx Go.Proofs Go.Fl Go.Geo
set_option maxRecDepth 100000
def b7x:PF:=fun
 | [.agg [.flt .f64 a, .flt .f64 b, .flt .f64 c, .flt .f64 d], .agg [.flt .f64 x, .flt .f64 y]]=>some (.bool (fGe .f64 x a&&fLe .f64 x c&&fGe .f64 y b&&fLe .f64 y d),none)
 | _=>none
theorem c0G(R:SV->Prop)(a b c d x y:Nat):D6 G0 0 [] [] (l7 f169) (z6 f169.ntmps [.agg [.flt .f64 a, .flt .f64 b, .flt .f64 c, .flt .f64 d], .agg [.flt .f64 x, .flt .f64 y]] [] 0) (A0 G0.E.T f169.results.toList λ_ v=>R v)=(
(fGe .f64 x a=true->(fLe .f64 x c=true->(fGe .f64 y b=true->R (SV.bool (fLe .f64 y d)))/\(fGe .f64 y b=false->R SV.ff))/\(fLe .f64 x c=false->R SV.ff))/\(fGe .f64 x a=false->R SV.ff)):=by kernel_rfl
theorem c9O:F1 prog 169 b7x:=by
 refine E1 g0 func169 rfl (by kernel_rfl) ?_;intro args v p h hp;unfold b7x at h;split at h
 ·rename_i a b c d x y;injection h with h;injection h with h1 h2;subst h1 h2
  clear hp;refine⟨rfl,_,_,(c0G _ a b c d x y).mpr ?_⟩;simp only[eqv];grind
 ·cases h
def b2R:PF:=fun
 | [.agg [.flt .f64 a, .flt .f64 b, .flt .f64 c, .flt .f64 d], .agg [.flt .f64 p, .flt .f64 q, .flt .f64 r, .flt .f64 s]]=>some (.bool (!(fGt .f64 b s) && !(fLt .f64 d q) && !(fGt .f64 a r) && !(fLt .f64 c p)),none)
 | _=>none
theorem b6X(R:SV->Prop)(a b c d p q r s:Nat):D6 G0 0 [] [] (l7 f175) (z6 f175.ntmps [.agg [.flt .f64 a, .flt .f64 b, .flt .f64 c, .flt .f64 d], .agg [.flt .f64 p, .flt .f64 q, .flt .f64 r, .flt .f64 s]] [] 0) (A0 G0.E.T f175.results.toList λ_ v=>R v)=(
(fGt .f64 b s=true->R SV.ff)/\(fGt .f64 b s=false->(fLt .f64 d q=true->R SV.ff)/\(fLt .f64 d q=false->(fGt .f64 a r=true->R SV.ff)/\(fGt .f64 a r=false->(fLt .f64 c p=true->R SV.ff)/\
(fLt .f64 c p=false->R SV.tt))))):=by kernel_rfl
theorem c7o:F1 prog 175 b2R:=by
 refine E1 g0 func175 rfl (by kernel_rfl) ?_;intro args v p h hp;unfold b2R at h;split at h
 ·rename_i a b c d p q r s;injection h with h;injection h with h1 h2;subst h1 h2
  clear hp;refine⟨rfl,_,_,(b6X _ a b c d p q r s).mpr ?_⟩;simp only[eqv];grind
 ·cases h
def a2L(x y:Nat):Bool:=fGe .f64 x 13863909240395005952&&fLe .f64 x 4640537203540230144&&fGe .f64 y 13859405640767635456&&fLe .f64 y 4636033603912859648
def a8v:PF:=fun
 | [.agg [.flt .f64 x, .flt .f64 y]]=>some (.bool (a2L x y),none)
 | _=>none
theorem b5o(R:SV->Prop)(x y:Nat):D6 G0 0 [] [] (l7 f162) (z6 f162.ntmps [.agg [.flt .f64 x, .flt .f64 y]] [] 0) (A0 G0.E.T f162.results.toList λ_ v=>R v)=(
(fGe .f64 x 13863909240395005952=true->(fLe .f64 x 4640537203540230144=true->(fGe .f64 y 13859405640767635456=true->R (SV.bool (fLe .f64 y 4636033603912859648)))/\(fGe .f64 y
13859405640767635456=false->R SV.ff))/\(fLe .f64 x 4640537203540230144=false->R SV.ff))/\(fGe .f64 x 13863909240395005952=false->R SV.ff)):=by kernel_rfl
theorem c4h:F1 prog 162 a8v:=by
 refine E1 g0 func162 rfl (by kernel_rfl) ?_;intro args v p h hp;unfold a8v at h;split at h
 ·rename_i x y;injection h with h;injection h with h1 h2;subst h1 h2
  clear hp;refine⟨rfl,_,_,(b5o _ x y).mpr ?_⟩;simp only[eqv,a2L];grind
 ·cases h
def fdiv(x y:Nat):Nat:=(floatBits .quo .f64 x y).getD 0
def b2r(x y:Nat):Prop:=(floatBits .quo .f64 x y).isSome=true
theorem S7{x y r:Nat}(h:C6 .f64 x y r)(hk:b2r x y):r=fdiv x y:=by
 unfold C6 at h;unfold b2r at hk;unfold fdiv
 cases hq:floatBits .quo .f64 x y with
 | none=>rw[hq]at hk;cases hk
 | some v=>rw[hq]at h;simpa using h
def a9w:PF:=fun
 | [.agg [.flt .f64 x, .flt .f64 y]]=>some (.agg [.int .i64 (toI .f64 x .i64), .int .i64 (toI .f64 y .i64)],some (H3 .f64 x .i64/\H3 .f64 y .i64))
 | _=>none
theorem b7C(R:SV->Prop)(x y:Nat):D6 G0 0 [] [] (l7 f80) (z6 f80.ntmps [.agg [.flt .f64 x, .flt .f64 y]] [] 0) (A0 G0.E.T f80.results.toList λ_ v=>R v)=(
 H3 .f64 x .i64/\H3 .f64 y .i64/\R (SV.agg [SV.int .i64 (toI .f64 x .i64),SV.int .i64 (toI .f64 y .i64)])):=by kernel_rfl
theorem c1v:F1 prog 80 a9w:=by
 refine E1 g0 func80 rfl (by kernel_rfl) ?_;intro args v p h hp;unfold a9w at h;split at h
 ·rename_i x y;injection h with h;injection h with h1 h2;subst h1 h2
  have hp:H3 .f64 x .i64/\H3 .f64 y .i64:=hp;refine⟨rfl,_,_,(b7C _ x y).mpr ?_⟩;exact⟨hp.1,hp.2,rfl,rfl,trivial⟩
 ·cases h
theorem c2U:a1M prog 28 [false,false] :=
 (Z1 C0 (t:=28) (e0:=2) (e1:=2) underlying28 (by kernel_rfl) (by decide) (by decide) ⟨rfl,rfl⟩ ⟨rfl,rfl⟩ (by rfl) (by rfl) rfl rfl).flat (by kernel_rfl) (by decide)
theorem c8O:FE prog 28 [false,false] 2 :=
 Z1 C0 (t:=28) (e0:=2) (e1:=2) underlying28 (by kernel_rfl) (by decide) (by decide) ⟨rfl,rfl⟩ ⟨rfl,rfl⟩ (by rfl) (by rfl) rfl rfl
theorem c4n:a1M prog 23 [false,false] :=
 (Z1 C0 (t:=23) (e0:=2) (e1:=2) underlying23 (by kernel_rfl) (by decide) (by decide) ⟨rfl,rfl⟩ ⟨rfl,rfl⟩ (by rfl) (by rfl) rfl rfl).flat (by kernel_rfl) (by decide)
theorem c4k:a1M prog 29 [false,false,false,false] :=
 (a7J C0 (t:=29) (e:=28) underlying29 (by rfl) rfl rfl c8O).flat (by kernel_rfl) (by decide)
def FL:Flats:=[(28,[false,false]),(23,[false,false]),(29,[false,false,false,false])]
theorem c7j:FlatsOk prog FL:=FlatsOk.cons c2U (FlatsOk.cons c4n (FlatsOk.cons c4k FlatsOk.nil))
def c2i(m:Nat)(g h:Nat->Int):Prop:=∀ j,j<m->g j=h j
instance (m:Nat) (g h:Nat->Int):Decidable (c2i m g h):=by unfold c2i;infer_instance
def l6(m:Nat)(g:Nat->Int):Bool:=decide (∀ i,i<m->-180<=g (2*i)/\g (2*i)<=180/\-90<=g (2*i+1)/\g (2*i+1)<=90)
def a2q(g:Nat->Int)(len:Nat)(j:Nat):Int:=if j / 4+1<len then g (2*(j / 4)+j % 4)else if j % 4<2 then g (2*(j / 4)+j % 4)else g (j % 4-2)
def a5O(len:Nat)(b:Bool)(g:Nat->Int):Nat :=
 if len<2∨(b=true/\len<3)then 0 else if b=true/\¬(g (2*len-2)=g 0/\g (2*len-1)=g 1)then len else len-1
theorem b9D{g:Nat->Int}{len i:Nat}(h:i+1<len):a2q g len (4*i)=g (2*i)/\a2q g len (4*i+1)=g (2*i+1)/\a2q g len (4*i+2)=g (2*i+2)/\a2q g len (4*i+3)=g (2*i+3):=by
 have key:∀ k,k<4->a2q g len (4*i+k)=g (2*i+k):=by
  intro k hk;have h1:(4*i+k) / 4=i:=by omega
  have h2:(4*i+k) % 4=k:=by omega
  unfold a2q;rw[h1,h2,if_pos h]
 exact⟨key 0 (by decide),key 1 (by decide),key 2 (by decide),key 3 (by decide)⟩
theorem b9t{g:Nat->Int}{len i:Nat}(h:¬i+1<len):a2q g len (4*i)=g (2*i)/\a2q g len (4*i+1)=g (2*i+1)/\a2q g len (4*i+2)=g 0/\a2q g len (4*i+3)=g 1:=by
 have key:∀ k,k<4->a2q g len (4*i+k)=if k<2 then g (2*i+k)else g (k-2):=by
  intro k hk;have h1:(4*i+k) / 4=i:=by omega
  have h2:(4*i+k) % 4=k:=by omega
  unfold a2q;rw[h1,h2,if_neg h]
 exact⟨key 0 (by decide),key 1 (by decide),key 2 (by decide),key 3 (by decide)⟩
open Int (toNat)
open Go.IntKind (wrap)
def nx(len i:Nat):Nat:=if i+1=len then 0 else i+1
def nx2(len i:Nat):Nat:=if i+1=len then 1 else if i+2=len then 0 else i+2
def la(g:Nat->Nat)(k:Nat):Nat->Nat
 | 0=>0
 | i+1=>g (2*i+k)
def lb(g:Nat->Nat)(len k:Nat):Nat->Nat
 | 0=>0
 | i+1=>g (2*nx len i+k)
def lc(g:Nat->Nat)(len k:Nat):Nat->Nat
 | 0=>0
 | i+1=>g (2*nx2 len i+k)
def b1R(i x y:Nat):Nat:=if i=0∨fLt .f64 x y=true then x else y
def a6b(i x lo hi:Nat):Nat:=if i=0 then x else if fLt .f64 x lo=true then hi else if fGt .f64 x hi=true then x else hi
def rlo(g:Nat->Nat)(k:Nat):Nat->Nat
 | 0=>0
 | i+1=>b1R i (g (2*i+k)) (rlo g k i)
def rhi(g:Nat->Nat)(k:Nat):Nat->Nat
 | 0=>0
 | i+1=>a6b i (g (2*i+k)) (rlo g k i) (rhi g k i)
def b6T(s ax ay bx by':Nat):Nat:=fop .add .f64 s (fop .mul .f64 (fop .sub .f64 bx ax) (fop .add .f64 by' ay))
def cwF(g:Nat->Nat)(len:Nat):Nat->Nat
 | 0=>0
 | i+1=>b6T (cwF g len i) (g (2*i)) (g (2*i+1)) (g (2*nx len i)) (g (2*nx len i+1))
def zcF(g:Nat->Nat)(len i:Nat):Nat :=
 fop .sub .f64 (fop .mul .f64 (fop .sub .f64 (g (2*nx len i)) (g (2*i))) (fop .sub .f64 (g (2*nx2 len i+1)) (g (2*nx len i+1))))
  (fop .mul .f64 (fop .sub .f64 (g (2*nx len i+1)) (g (2*i+1))) (fop .sub .f64 (g (2*nx2 len i)) (g (2*nx len i))))
def c2d(d:Int)(c:Bool)(z:Nat):Int×Bool :=
 if c=true then(d,c)else if d=0 then(if fLt .f64 z 0=true then(-1,c)else if fGt .f64 z 0=true then(1,c)else(d,c))
 else if fLt .f64 z 0=true then(d,decide (d=1))else if fGt .f64 z 0=true then(d,decide (d = -1))else(d,c)
def dcF(g:Nat->Nat)(len:Nat):Nat->Int×Bool
 | 0=>(0,false)
 | i+1=>c2d (dcF g len i).1 (dcF g len i).2 (zcF g len i)
def a9(len:Nat)(cl:Bool):Bool:=decide (2<=len/\(cl=true->3<=len))
def pick(b:Bool)(x:Nat):Nat:=if b=true then x else 0
def c6O(s ax ay bx by':Nat):Prop:=fok .sub .f64 bx ax/\fok .add .f64 by' ay/\fok .mul .f64 (fop .sub .f64 bx ax) (fop .add .f64 by' ay)/\fok .add .f64 s (fop .mul .f64 (fop .sub .f64 bx ax) (fop .add .f64 by' ay))
def c6y(ax ay bx by' cx cy:Nat):Prop:=fok .sub .f64 bx ax/\fok .sub .f64 cy by'/\fok .mul .f64 (fop .sub .f64 bx ax) (fop .sub .f64 cy by')/\fok .sub .f64 by' ay/\fok .sub .f64 cx bx/\fok .mul .f64 (fop .sub .f64 by' ay) (fop .sub .f64 cx bx)/\
 fok .sub .f64 (fop .mul .f64 (fop .sub .f64 bx ax) (fop .sub .f64 cy by')) (fop .mul .f64 (fop .sub .f64 by' ay) (fop .sub .f64 cx bx))
def ppOk(g:Nat->Nat)(len:Nat):Prop:=∀ i,i<len->c6O (cwF g len i) (g (2*i)) (g (2*i+1)) (g (2*nx len i)) (g (2*nx len i+1))/\
 c6y (g (2*i)) (g (2*i+1)) (g (2*nx len i)) (g (2*nx len i+1)) (g (2*nx2 len i)) (g (2*nx2 len i+1))
def ppH(len:Nat)(g:Nat->Nat)(r a b c:List SV):z7:=[(0,⟨false,100, .flts .f64 (2*len) g,0⟩),(1,⟨true,102, .cells r,0⟩),(2,⟨true,100, .cells a,0⟩),(3,⟨true,100, .cells b,0⟩),(4,⟨true,100, .cells c,0⟩)]
def pf(x:Nat):SV:=.flt .f64 x
def ppS(len i:Nat)(cl:Bool)(cw:Nat)(d:Int)(cc:Bool):Slots :=
 [(0, .slcc 0 len),(1, .bool cl),(5, .ptr 1 0),(7, .bool cc),(8, .int .i64 d),(9, .ptr 2 0),(10, .ptr 3 0),(11, .ptr 4 0),(12, .flt .f64 cw),(13, .int .i64 i)]
def c7v(len i:Nat)(cl:Bool)(g:Nat->Nat)(rx ry:Nat)(ai bi:Nat)(cwi:Nat)(di:Nat):St :=
 ⟨201,ppS len i cl (cwF g len cwi) (dcF g len di).1 (dcF g len di).2,
  ppH len g [pf (rlo g 0 rx),pf (rlo g 1 ry),pf (rhi g 0 rx),pf (rhi g 1 ry)] [pf (la g 0 ai),pf (la g 1 ai)] [pf (lb g len 0 bi),pf (lb g len 1 bi)] [pf (lc g len 0 bi),pf (lc g len 1 bi)],5⟩
def one(len i:Nat)(cl:Bool)(g:Nat->Nat)(rx ry ai bi cwi di:Nat)(p:Prop):Fam:=⟨Nat,λ_=>c7v len i cl g rx ry ai bi cwi di,λ_=>p,λ_=>0⟩
def ppL(len:Nat)(cl:Bool)(g:Nat->Nat):S3 :=
 ⟨⟨Nat,λi=>c7v len i cl g i i i i i i,λi=>i<=len/\a9 len cl=true,λi=>len-i⟩,λi=>[
  (19,one len i cl g (i+1) (i+1) i i i i (i<len/\a9 len cl=true)),
  (20,one len i cl g (i+1) (i+1) (i+1) i i i (i<len/\a9 len cl=true)),
  (28,one len i cl g (i+1) (i+1) (i+1) (i+1) i i (i<len/\a9 len cl=true)),
  (29,one len i cl g (i+1) (i+1) (i+1) (i+1) (i+1) i (i<len/\a9 len cl=true))]⟩
def ppK(len:Nat)(cl:Bool)(g:Nat->Nat):Fam:=⟨Nat,λ_=>⟨201,[(0, .slcc 0 len),(1, .bool cl),(5, .ptr 1 0)],[(0,⟨false,100, .flts .f64 (2*len) g,0⟩),(1,⟨true,102, .cells [pf 0,pf 0,pf 0,pf 0],0⟩)],2⟩,λ_=>a9 len cl=true,λ_=>0⟩
noncomputable def a8Z:List SV->RdM
 | [.slcc n len,v]=>.read n λo0=>(match w7 .f64 o0.c with
  | some (m0,g)=>(match v.toB with
  | some cl=>.ret ⟨[.slcc 0 len, .bool cl],[(0,⟨false,100, .flts .f64 m0 g,0⟩)], .tup [.bool (a9 len cl && !(dcF g len len).2), .agg [.flt .f64 (pick (a9 len cl) (rlo g 0 len)), .flt .f64 (pick (a9 len cl) (rlo g 1 len)), .flt .f64 (pick (a9 len cl) (rhi g 0 len)), .flt .f64 (pick (a9 len cl) (rhi g 1 len))], .bool (a9 len cl&&fGt .f64 (cwF g len len) 0)],[],[],some (m0=2*len/\len<=1000000/\(a9 len cl=true->ppOk g len))⟩
  | none=>.fail)
  | none=>.fail)
 | _=>.fail
theorem b7o(len:Nat)(cl:Bool)(g:Nat->Nat){w9:HC}(e9:w9=⟨[.slcc 0 len, .bool cl],[(0,⟨false,100, .flts .f64 (2*len) g,0⟩)], .tup [.bool (a9 len cl && !(dcF g len len).2), .agg [.flt .f64 (pick (a9 len cl) (rlo g 0 len)), .flt .f64 (pick (a9 len cl) (rlo g 1 len)), .flt .f64
 (pick (a9 len cl) (rhi g 0 len)), .flt .f64 (pick (a9 len cl) (rhi g 1 len))], .bool (a9 len cl&&fGt .f64 (cwF g len len) 0)],[],[],some (2*len=2*len/\len<=1000000/\(a9 len cl=true->ppOk g len))⟩){T1}(t1:T1=fun
 (i:Nat)=>((True/\len=len)/\cl=cl/\(True/\0=0)/\(dcF g len i).2=(dcF g len i).2/\(dcF g len i).1=(dcF g len i).1/\(True/\0=0)/\(True/\0=0)/\(True/\0=0)/\cwF g len i=cwF g len i/\(↑i:Int)=(↑i:Int)/\True))
 {T2}(t2:T2=λ(i:Nat)=>(fop BinOp.sub .f64 (fop BinOp.mul .f64 (fop BinOp.sub .f64 (lb g len 0 (i+1)) (la g 0 (i+1))) (fop BinOp.sub .f64 (lc g len 1 (i+1)) (lb g len 1 (i+1)))) (fop BinOp.mul .f64 (fop BinOp.sub .f64 (lb g len 1 (i+1))
 (la g 1 (i+1))) (fop BinOp.sub .f64 (lc g len 0 (i+1)) (lb g len 0 (i+1)))))) {T3}(t3:T3=λ(i:Nat)=>(2*len<=2*len/\∀(i:Nat),i<2*len->g i=g i)) {T4}(t4:T4=λ(i:Nat)(i':Nat)=>(102=102/\0=0/\rlo g 0 (i+1)=rlo g 0
 i'/\rlo g 1 (i+1)=rlo g 1 i'/\rhi g 0 (i+1)=rhi g 0 i'/\rhi g 1 (i+1)=rhi g 1 i'/\True)) {T5}(t5:T5=λ(i:Nat)=>((0<=(↑i:Int)/\(↑i:Int)<(↑len:Int))/\1<=2*len)) {T6}(t6:T6=λ(i:Nat)=>(100=100/\0=0/\lb g len 0 i
 = lb g len 0 i/\lb g len 1 i=lb g len 1 i/\True)) {T7}(t7:T7=λ(i:Nat)=>(100=100/\0=0/\lc g len 0 i=lc g len 0 i/\lc g len 1 i=lc g len 1 i/\True)) {T8}(t8:T8=(True/\0=0)) {T9}(t9:T9=λ(i:Nat)(i':Nat)=>(100=100/\0=0/\lb
 g len 0 (i+1)=lb g len 0 i'/\lb g len 1 (i+1)=lb g len 1 i'/\True)) {T10}(t10:T10=λ(i:Nat)(i':Nat)=>(100=100/\0=0/\lc g len 0 (i+1)=lc g len 0 i'/\lc g len 1 (i+1)=lc g len 1 i'/\True)) {T11}(t11:T11=λ(i:Nat)=>(102 =
 102/\0=0/\rlo g 0 (i+1)=rlo g 0 (i+1)/\rlo g 1 (i+1)=rlo g 1 (i+1)/\rhi g 0 (i+1)=rhi g 0 (i+1)/\rhi g 1 (i+1)=rhi g 1 (i+1)/\True)) {T12}(t12:T12=λ(i:Nat)(i':Nat)=>((True/\len=len)/\cl=cl/\T8/\(dcF g len
 i).2=(dcF g len i').2/\(dcF g len i).1=(dcF g len i').1/\T8/\T8/\T8/\cwF g len (i+1)=cwF g len i'/\wrap .i64 ((↑i:Int)+1)=(↑i':Int)/\True)) {T13}(t13:T13=λ(i:Nat)(i':Nat)=>(100=100/\0=0/\la g 0 (i+1)=la g
 0 i'/\la g 1 (i+1)=la g 1 i'/\True)) {T14}(t14:T14=λ(i:Nat)=>(100=100/\0=0/\la g 0 i=la g 0 i/\la g 1 i=la g 1 i/\True)) {T15}(t15:T15=((a9 len cl && !(dcF g len len).2)=false/\(0=pick (a9 len cl) (rlo g 0 len)/\0 =
 pick (a9 len cl) (rlo g 1 len)/\0=pick (a9 len cl) (rhi g 0 len)/\0=pick (a9 len cl) (rhi g 1 len)/\True)/\(a9 len cl&&fGt .f64 (cwF g len len) 0)=false/\True)) {T16}(t16:T16=λ(i:Nat)=>(0+toNat (↑i:Int)*2+1))
 {T17}(t17:T17=λ(i:Nat)=>(i<len/\a9 len cl=true)) {T18}(t18:T18=λ(i:Nat)=>(↑i:Int)) {T19}(t19:T19=λ(i:Nat)=>(100=100/\0=0/\la g 0 (i+1)=la g 0 (i+1)/\la g 1 (i+1)=la g 1 (i+1)/\True)) {T20}(t20:T20=fun
 (i:Nat)=>(fGt .f64 (T2 i) 0=false->∃(i':Nat),(i'<=len/\a9 len cl=true)/\len-i'<len-i/\(T12 i i')/\True/\(T3 i)/\True/\(T4 i i')/\True/\(T13 i i')/\True/\(T9 i i')/\True/\(T10 i i')/\True)) {T21}(t21:T21=fun
 (i:Nat)=>(dcF g len i)) {T22}(t22:T22=λ(i:Nat)=>(0+toNat (T18 i)*2+0)) {T23}(t23:T23=(True/\len=len)) {T24}(t24:T24=(↑len:Int)) {T25}(t25:T25=λ(i:Nat)=>(fop BinOp.sub .f64 (lb g len 0 (i+1)) (la g 0 (i+1))))
 {T26}(t26:T26=λ(i:Nat)(i':Nat)=>(T23/\cl=cl/\T8/\(dcF g len i').2=true/\(T21 i).1=(dcF g len i').1/\T8/\T8/\T8/\cwF g len (i+1)=cwF g len i'/\wrap .i64 ((T18 i)+1)=(↑i':Int)/\True)) {T27}(t27:T27=fun
 (i':Nat)=>(i'<=len/\a9 len cl=true)) {T28}(t28:T28=λ(i:Nat)=>(T23/\cl=cl/\T8/\(T21 i).2=(T21 i).2/\(T21 i).1=Prod.fst (T21 i)/\T8/\T8/\T8/\cwF g len i=cwF g len i/\(T18 i)=(T18 i)/\True)) {T29}(t29:T29=λ(i:Nat)=>(lb
 g len 1 (i+1))) {T30}(t30:T30=λ(i:Nat)=>(((0:Int)<=wrap .i64 ((T18 i)+1)/\wrap .i64 ((T18 i)+1)<T24)/\1<=2*len)) {T31}(t31:T31=(102=102/\0=0/\0=0/\0=0/\0=0/\0=0/\True)) {T32}(t32:T32=fun
 (i:Nat)=>(wrap .i64 ((T18 i)+1))) {T33}(t33:T33=λ(i:Nat)=>(fop BinOp.add .f64 (T29 i) (la g 1 (i+1)))) {T34}(t34:T34=(2*len<=2*len/\∀(i:Nat),i<2*len->g i=g i)) {T35}(t35:T35=(((0:Int)<=0/\0<T24)/\1<=2*len)):D6 G0 1 [(7,ppL len cl g)] [(2,ppK len cl g)] (l7 f102) (z6 f102.ntmps w9.args w9.heap 1) (A0 G0.E.T f102.results.toList λS v=>B3 1 w9 S v)=(
 ((cl=true->(decide (T24<3)=true->T15/\True)/\(decide (T24<(3:Int))=false->(decide (T24<2)=true->T15/\True)/\(decide (T24<(2:Int))=false->∃(_:Nat),a9 len cl=true/\(T23/\cl=cl/\T8/\True)/\True/\T34/\True
 /\T31/\True)))/\(cl=false->(decide (T24<2)=true->T15/\True)/\(decide (T24<2)=false->∃(_:Nat),a9 len cl=true/\(T23/\cl=cl/\T8/\True)/\True/\T34/\True/\T31/\True)))/\∀(_:Nat),a9 len cl=true->(∃(i:Nat),
 (i<=len/\a9 len cl=true)/\(T23/\cl=cl/\T8/\(T21 i).2=false/\(0:Int)=(T21 i).1/\T8/\T8/\T8/\0=cwF g len i/\0=(T18 i)/\True)/\True/\(T3 i)/\True/\(102=102/\0=0/\0=rlo g 0 i/\0=rlo g 1 i/\0=rhi g 0 i/\0 =
 rhi g 1 i/\True)/\True/\(100=100/\0=0/\0=la g 0 i/\0=la g 1 i/\True)/\True/\(100=100/\0=0/\0=lb g len 0 i/\0=lb g len 1 i/\True)/\True/\(100=100/\0=0/\0=lc g len 0 i/\0=lc g len 1 i/\True)/\True)/\∀(i :
 Nat),i<=len/\a9 len cl=true->(decide ((T18 i)<T24)=true->((((T18 i)==(0:Int))=true->(T5 i)/\0+toNat (T18 i)*2+2<=2*len/\(T5 i)/\0+toNat (T18 i)*2+2<=2*len/\true=true/\∃(_:Nat),(T17 i)/\(T1 i)
 /\True/\(T3 i)/\True/\(102=102/\0=0/\g (0+toNat (T18 i)*2)=rlo g 0 (i+1)/\g (T16 i)=rlo g 1 (i+1)/\g (0+toNat (T18 i)*2)=rhi g 0 (i+1)/\g (T16 i)=rhi g 1 (i+1)/\True)/\True/\(T14 i)/\True/\(T6 i)/\
 True/\(T7 i)/\True)/\(((T18 i)==(0:Int))=false->(T5 i)/\0<2*len/\0+toNat (T18 i)*2+0+1<=2*len/\true=true/\(fLt .f64 (g (T22 i)) (rlo g 0 i)=true->(T5 i)/\0<2*len/\0+toNat (T18 i)*2+0+1<=2*len
 /\(T5 i)/\0<2*len/\0+toNat (T18 i)*2+1+1<=2*len/\true=true/\(fLt .f64 (g (T16 i)) (rlo g 1 i)=true->(T5 i)/\0<2*len/\0+toNat (T18 i)*2+1+1<=2*len/\∃(_:Nat),(T17 i)/\(T1 i)/\True/\(T3 i)/\True
 /\(102=102/\0=0/\g (T22 i)=rlo g 0 (i+1)/\g (T16 i)=rlo g 1 (i+1)/\rhi g 0 i=rhi g 0 (i+1)/\rhi g 1 i=rhi g 1 (i+1)/\True)/\True/\(T14 i)/\True/\(T6 i)/\True/\(T7 i)/\True)/\(fLt .f64 (g (T16 i)) (rlo g 1 i)=false
 ->(T5 i)/\0<2*len/\0+toNat (T18 i)*2+1+1<=2*len/\true=true/\(fGt .f64 (g (T16 i)) (rhi g 1 i)=true->(T5 i)/\0<2*len/\0+toNat (T18 i)*2+1+1<=2*len/\∃(_:Nat),(T17 i)/\(T1 i)/\True/\(T3 i)/\True
 /\(102=102/\0=0/\g (T22 i)=rlo g 0 (i+1)/\rlo g 1 i=rlo g 1 (i+1)/\rhi g 0 i=rhi g 0 (i+1)/\g (T16 i)=rhi g 1 (i+1)/\True)/\True/\(T14 i)/\True/\(T6 i)/\True/\(T7 i)/\True)/\(fGt .f64 (g (T16 i)) (rhi g 1 i)=false
 ->∃(_:Nat),(T17 i)/\(T28 i)/\True/\(T3 i)/\True/\(102=102/\0=0/\g (T22 i)=rlo g 0 (i+1)/\rlo g 1 i=rlo g 1 (i+1)/\rhi g 0 i=rhi g 0 (i+1)/\rhi g 1 i=rhi g 1 (i+1)/\True)/\True/\(T14 i)/\True/\(T6 i)/\True/\(T7
 i)/\True)))/\(fLt .f64 (g (T22 i)) (rlo g 0 i)=false->(T5 i)/\0<2*len/\0+toNat (T18 i)*2+0+1<=2*len/\true=true/\(fGt .f64 (g (T22 i)) (rhi g 0 i)=true->(T5 i)/\0<2*len/\0+toNat (T18 i)*2+0+1<=2 *
 len/\(T5 i)/\0<2*len/\0+toNat (T18 i)*2+1+1<=2*len/\true=true/\(fLt .f64 (g (T16 i)) (rlo g 1 i)=true->(T5 i)/\0<2*len/\0+toNat (T18 i)*2+1+1<=2*len/\∃(_:Nat),(T17 i)/\(T28 i)/\True/\(T3 i)/\
 True/\(102=102/\0=0/\rlo g 0 i=rlo g 0 (i+1)/\g (T16 i)=rlo g 1 (i+1)/\g (T22 i)=rhi g 0 (i+1)/\rhi g 1 i=rhi g 1 (i+1)/\True)/\True/\(T14 i)/\True/\(T6 i)/\True/\(T7 i)/\True)/\(fLt .f64 (g (T16 i)) (rlo g 1 i) =
 false->(T5 i)/\0<2*len/\0+toNat (T18 i)*2+1+1<=2*len/\true=true/\(fGt .f64 (g (T16 i)) (rhi g 1 i)=true->(((0:Int)<=(T18 i)/\(T18 i)<T24)/\1<=2*len)/\0<2*len/\0+toNat (T18 i)*2+1+1<=2*len/\
 ∃(_:Nat),(T17 i)/\(T1 i)/\True/\(T3 i)/\True/\(102=102/\0=0/\rlo g 0 i=rlo g 0 (i+1)/\rlo g 1 i=rlo g 1 (i+1)/\g (T22 i)=rhi g 0 (i+1)/\g (T16 i)=rhi g 1 (i+1)/\True)/\True/\(T14 i)/\True/\(T6 i)/\True/\(T7 i)
 /\True)/\(fGt .f64 (g (T16 i)) (rhi g 1 i)=false->∃(_:Nat),(T17 i)/\(T1 i)/\True/\(T3 i)/\True/\(102=102/\0=0/\rlo g 0 i=rlo g 0 (i+1)/\rlo g 1 i=rlo g 1 (i+1)/\g (T22 i)=rhi g 0 (i+1)/\rhi g 1 i=rhi g 1 (i+1)/\
 True)/\True/\(T14 i)/\True/\(T6 i)/\True/\(T7 i)/\True)))/\(fGt .f64 (g (T22 i)) (rhi g 0 i)=false->(T5 i)/\0<2*len/\0+toNat (T18 i)*2+1+1<=2*len/\true=true/\(fLt .f64 (g (T16 i)) (rlo g 1 i)=true->(T5 i)/\0 <
 2*len/\0+toNat (T18 i)*2+1+1<=2*len/\∃(_:Nat),(T17 i)/\(T1 i)/\True/\(T3 i)/\True/\(102=102/\0=0/\rlo g 0 i=rlo g 0 (i+1)/\g (T16 i)=rlo g 1 (i+1)/\rhi g 0 i=rhi g 0 (i+1)/\rhi g 1 i=rhi g 1 (i+1)
 /\True)/\True/\(T14 i)/\True/\(T6 i)/\True/\(T7 i)/\True)/\(fLt .f64 (g (T16 i)) (rlo g 1 i)=false->(T5 i)/\0<2*len/\0+toNat (T18 i)*2+1+1<=2*len/\true=true/\(fGt .f64 (g (T16 i)) (rhi g 1 i)=true->(T5 i)/\0 <
 2*len/\0+toNat (T18 i)*2+1+1<=2*len/\∃(_:Nat),(T17 i)/\(T1 i)/\True/\(T3 i)/\True/\(102=102/\0=0/\rlo g 0 i=rlo g 0 (i+1)/\rlo g 1 i=rlo g 1 (i+1)/\rhi g 0 i=rhi g 0 (i+1)/\g (T16 i)=rhi g 1 (i+1)
 /\True)/\True/\(T14 i)/\True/\(T6 i)/\True/\(T7 i)/\True)/\(fGt .f64 (g (T16 i)) (rhi g 1 i)=false->∃(_:Nat),(T17 i)/\(T1 i)/\True/\(T3 i)/\True/\(102=102/\0=0/\rlo g 0 i=rlo g 0 (i+1)/\rlo g 1 i=rlo g 1 (i+1)/\rhi
 g 0 i=rhi g 0 (i+1)/\rhi g 1 i=rhi g 1 (i+1)/\True)/\True/\(T14 i)/\True/\(T6 i)/\True/\(T7 i)/\True))))))/\∀(_:Nat),i<len/\a9 len cl=true->((T5 i)/\0+toNat (T18 i)*2+2<=2*len/\∃(_:Nat),(T17 i)/\(T1
 i)/\True/\(T3 i)/\True/\(T11 i)/\True/\(100=100/\0=0/\g (0+toNat (T18 i)*2)=la g 0 (i+1)/\g (T16 i)=la g 1 (i+1)/\True)/\True/\(T6 i)/\True/\(T7 i)/\True)/\∀(_:Nat),i<len/\a9 len cl=true->((((T18 i) ==
 wrap .i64 (T24-1))=true->T35/\2<=2*len/\(((0:Int)<=(1:Int)/\1<T24)/\1<=2*len)/\4<=2*len/\∃(_:Nat),(T17 i)/\(T23/\cl=cl/\T8/\Prod.snd (T21 i)=(T21 i).2/\(T21 i).1=(T21 i).1/\T8/\T8/\T8/\cwF g len i
 = cwF g len i/\(T18 i)=(T18 i)/\True)/\True/\(T3 i)/\True/\(T11 i)/\True/\(T19 i)/\True/\(100=100/\0=0/\g 0=lb g len 0 (i+1)/\g 1=lb g len 1 (i+1)/\True)/\True/\(100=100/\0=0/\g 2=lc g len 0 (i+1)/\g 3=lc g
 len 1 (i+1)/\True)/\True)/\(((T18 i)==wrap .i64 (T24-1))=false->(((T18 i)==wrap .i64 (T24-2))=true->(T30 i)/\0+toNat (wrap .i64 ((T18 i)+(1:Int)))*2+2<=2*len/\T35/\2<=2*len/\∃(_ :
 Nat),(T17 i)/\(T1 i)/\True/\(T3 i)/\True/\(T11 i)/\True/\(T19 i)/\True/\(100=100/\0=0/\g (0+toNat (T32 i)*2)=lb g len 0 (i+1)/\g (0+toNat (T32 i)*2+1)=lb g len 1 (i+1)/\True)/\True/\(100=100/\0=0/\g
 0=lc g len 0 (i+1)/\g 1=lc g len 1 (i+1)/\True)/\True)/\(((T18 i)==wrap .i64 (T24-2))=false->(T30 i)/\0+toNat (T32 i)*2+2<=2*len/\(((0:Int)<=wrap .i64 ((T18 i)+2)/\wrap .i64 ((T18 i) +
 2)<T24)/\1<=2*len)/\0+toNat (wrap .i64 ((T18 i)+2))*2+2<=2*len/\∃(_:Nat),(T17 i)/\(T23/\cl=cl/\T8/\(T21 i).2=(T21 i).2/\Prod.fst (T21 i)=(T21 i).1/\T8/\T8/\T8/\cwF g len i=cwF g len i/\(T18 i) =
 (T18 i)/\True)/\True/\(T3 i)/\True/\(T11 i)/\True/\(T19 i)/\True/\(100=100/\0=0/\g (0+toNat (wrap .i64 ((T18 i)+(1:Int)))*2)=lb g len 0 (i+1)/\g (0+toNat (T32 i)*2+1)=lb g len 1 (i+1)/\True)/\
 True/\(100=100/\0=0/\g (0+toNat (wrap .i64 ((T18 i)+2))*2)=lc g len 0 (i+1)/\g (0+toNat (wrap .i64 ((T18 i)+2))*2+1)=lc g len 1 (i+1)/\True)/\True)))/\∀(_:Nat),i<len/\a9 len cl=true
 ->(fok BinOp.sub .f64 (lb g len 0 (i+1)) (la g 0 (i+1))/\fok BinOp.add .f64 (T29 i) (la g 1 (i+1))/\fok BinOp.mul .f64 (T25 i) (T33 i)/\fok BinOp.add .f64 (cwF g len i) (fop BinOp.mul .f64 (T25 i) (T33 i))/\∃(_:Nat),(T17 i)/\(T23/\cl
 = cl/\T8/\(T21 i).2=(T21 i).2/\(T21 i).1=(T21 i).1/\T8/\T8/\T8/\fop BinOp.add .f64 (cwF g len i) (fop BinOp.mul .f64 (T25 i) (T33 i))=cwF g len (i+1)/\(T18 i)=(T18 i)/\True)/\True/\(T3 i)/\True/\(T11 i)/\True/\(T19 i)/\True
 /\(100=100/\0=0/\lb g len 0 (i+1)=lb g len 0 (i+1)/\lb g len 1 (i+1)=lb g len 1 (i+1)/\True)/\True/\(100=100/\0=0/\lc g len 0 (i+1)=lc g len 0 (i+1)/\lc g len 1 (i+1)=lc g len 1 (i+1)/\True)/\True)/\∀(_ :
 Nat),i<len/\a9 len cl=true->((T21 i).2=true->∃(i':Nat),(T27 i')/\len-i'<len-i/\(T12 i i')/\True/\(T3 i)/\True/\(T4 i i')/\True/\(T13 i i')/\True/\(T9 i i')/\True/\(T10 i i')/\True)/\((T21 i).2=false->fok
 BinOp.sub .f64 (lb g len 0 (i+1)) (la g 0 (i+1))/\fok BinOp.sub .f64 (lc g len 1 (i+1)) (T29 i)/\fok BinOp.mul .f64 (T25 i) (fop BinOp.sub .f64 (lc g len 1 (i+1)) (T29 i))/\fok BinOp.sub .f64 (T29 i) (la g 1 (i+1))/\fok BinOp.sub .f64
 (lc g len 0 (i+1)) (lb g len 0 (i+1))/\fok BinOp.mul .f64 (fop BinOp.sub .f64 (T29 i) (la g 1 (i+1))) (fop BinOp.sub .f64 (lc g len 0 (i+1)) (lb g len 0 (i+1)))/\fok BinOp.sub .f64 (fop BinOp.mul .f64 (T25 i) (fop BinOp.sub .f64 (lc g len
 1 (i+1)) (T29 i))) (fop BinOp.mul .f64 (fop BinOp.sub .f64 (T29 i) (la g 1 (i+1))) (fop BinOp.sub .f64 (lc g len 0 (i+1)) (lb g len 0 (i+1))))/\(((T21 i).1==(0:Int))=true->(fLt .f64 (T2 i) 0=true->∃(i':Nat),(T27 i')/\len-i'
 < len-i/\(T23/\cl=cl/\T8/\(T21 i).2=(dcF g len i').2/\(-1:Int)=Prod.fst (dcF g len i')/\T8/\T8/\T8/\cwF g len (i+1)=cwF g len i'/\wrap .i64 ((T18 i)+(1:Int))=(↑i':Int)/\True)/\True/\(T3 i)/\True/\(T4 i i')
 /\True/\(T13 i i')/\True/\(T9 i i')/\True/\(T10 i i')/\True)/\(fLt .f64 (T2 i) 0=false->(fGt .f64 (T2 i) 0=true->∃(i':Nat),(T27 i')/\len-i'<len-i/\(T23/\cl=cl/\T8/\(T21 i).2=(dcF g len i').2/\(1:Int)=(dcF g len
 i').1/\T8/\T8/\T8/\cwF g len (i+1)=cwF g len i'/\wrap .i64 ((T18 i)+1)=(↑i':Int)/\True)/\True/\(T3 i)/\True/\(T4 i i')/\True/\(T13 i i')/\True/\(T9 i i')/\True/\(T10 i i')/\True)/\(T20 i)))/\(((T21 i).1==(0 :
 Int))=false->(fLt .f64 (T2 i) 0=true->(((T21 i).1==(1:Int))=true->∃(i':Nat),(T27 i')/\len-i'<len-i/\(T26 i i')/\True/\(T3 i)/\True/\(T4 i i')/\True/\(T13 i i')/\True/\(T9 i i')/\True/\(T10 i i')/\True)/\(((T21
 i).1==(1:Int))=false->∃(i':Nat),(T27 i')/\len-i'<len-i/\(T23/\cl=cl/\T8/\Prod.snd (T21 i)=(dcF g len i').2/\(T21 i).1=(dcF g len i').1/\T8/\T8/\T8/\cwF g len (i+1)=cwF g len i'/\wrap .i64 ((T18 i)+1) =
 (↑i':Int)/\True)/\True/\(T3 i)/\True/\(T4 i i')/\True/\(T13 i i')/\True/\(T9 i i')/\True/\(T10 i i')/\True))/\(fLt .f64 (T2 i) 0=false->(fGt .f64 (T2 i) 0=true->(((T21 i).1==(-1:Int))=true->∃(i':Nat),(T27 i')/\len -
 i'<len-i/\(T26 i i')/\True/\(T3 i)/\True/\(T4 i i')/\True/\(T13 i i')/\True/\(T9 i i')/\True/\(T10 i i')/\True)/\((Prod.fst (T21 i)==(-1:Int))=false->∃(i':Nat),(T27 i')/\len-i'<len-i/\(T12 i i')/\True/\(T3 i)/\
 True/\(T4 i i')/\True/\(T13 i i')/\True/\(T9 i i')/\True/\(T10 i i')/\True))/\(T20 i)))))/\(decide ((T18 i)<T24)=false->true=true/\((!(T21 i).2)=(a9 len cl && !(dcF g len len).2)/\(rlo g 0 i=pick (a9 len cl) (rlo g 0 len)
 /\rlo g 1 i=pick (a9 len cl) (rlo g 1 len)/\rhi g 0 i=pick (a9 len cl) (rhi g 0 len)/\rhi g 1 i=pick (a9 len cl) (rhi g 1 len)/\True)/\fGt .f64 (cwF g len i) 0=(a9 len cl&&fGt .f64 (cwF g len len) 0)/\True)/\True)):=by subst e9 t1 t2 t3 t4 t5 t6 t7 t8 t9 t10 t11 t12 t13 t14 t15 t16 t17 t18 t19 t20 t21 t22 t23 t24 t25 t26 t27 t28 t29 t30 t31 t32 t33 t34 t35;kernel_rfl
theorem c2c:z8 prog 102 (z5 a8Z):=by
 refine q9 g0 func102 rfl (by kernel_rfl) λargs=>?_
 unfold a8Z;split;rotate_left;trivial;rename_i n len v;intro o0;try dsimp only
 split;rotate_left;trivial;rename_i m0 g hm0;try dsimp only
 split;rotate_left;trivial;rename_i cl hcl;intro(ho:m0=2*len/\len<=1000000/\(a9 len cl=true->ppOk g len));obtain⟨hsz0,ho⟩:=ho;subst hsz0;refine⟨?_,_,_,(b7o len cl g rfl rfl rfl rfl rfl rfl rfl rfl rfl rfl rfl rfl rfl rfl rfl rfl rfl rfl rfl rfl rfl rfl rfl rfl rfl rfl rfl rfl rfl rfl rfl rfl rfl rfl rfl rfl).mpr ?_⟩
 ·refine g9 rfl ⟨?_,⟨trivial,(w6 hm0).1,trivial⟩⟩;simp[l9,w8,y4,y6,nth,a8,E0 hcl]
 ·obtain⟨hlen,hok⟩:=ho;refine⟨⟨λhc=>⟨λh3=>?_,λh3=>⟨λh2=>?_,λh2=>?_⟩⟩,λhc=>⟨λh2=>?_,λh2=>?_⟩⟩,λ_ hb=>?_⟩
  ·have h3:=oT9 h3;have hb:a9 len cl=false:=by simp[a9,hc];omega
   simp[hb,pick]
  ·have h2:=oT9 h2;have hb:a9 len cl=false:=by simp[a9,hc];omega
   simp[hb,pick]
  ·have h2:=of_decide_eq_false h2;have h3:=of_decide_eq_false h3;have hb:a9 len cl=true:=by simp[a9,hc];omega
   refine⟨0,hb,?_⟩;simp
  ·have h2:=oT9 h2;have hb:a9 len cl=false:=by simp[a9,hc];omega
   simp[hb,pick]
  ·have h2:=of_decide_eq_false h2;have hb:a9 len cl=true:=by simp[a9,hc];omega
   refine⟨0,hb,?_⟩;simp
  have hbb:2<=len/\(cl=true->3<=len):=by unfold a9 at hb;exact oT9 hb
  have hl2:=hbb.1;replace hok:=hok hb;refine⟨⟨0,⟨by omega,hb⟩,by simp[dcF,cwF,rlo,rhi,la,lb,lc]⟩,λi hi=>⟨λhlt=>?_,λhlt=>?_⟩⟩
  ·have hlt:=oT9 hlt;have hil:i<len:=by omega
   have w1:IntKind.i64.wrap ((i:Int)+1)=((i+1:Nat):Int):=by rw[p8 (by omega) (by omega)];omega
   have w2:IntKind.i64.wrap ((i:Int)+2)=((i+2:Nat):Int):=by rw[p8 (by omega) (by omega)];omega
   have v1:IntKind.i64.wrap ((len:Int)-1)=((len-1:Nat):Int):=by rw[p8 (by omega) (by omega)];omega
   have v2:IntKind.i64.wrap ((len:Int)-2)=((len-2:Nat):Int):=by rw[p8 (by omega) (by omega)];omega
   have m0:i*2=2*i:=by omega
   have m1:(i+1)*2=2*(i+1):=by omega
   have m2:(i+2)*2=2*(i+2):=by omega
   obtain⟨hcw,hzc⟩:=hok i hil;simp only[w1,w2,v1,v2,tN9,Nat.zero_add,Nat.add_zero,m0,m1,m2,true_and,and_true,implies_true,Nat.le_refl];refine⟨⟨λh0=>?_,λh0=>?_⟩,λ_ _=>⟨?_,λ_ _=>⟨?_,λ_ _=>⟨?_,λ_ _=>?_⟩⟩⟩⟩
   ·have h0:i=0:=by simpa using h0
    subst h0;refine⟨by omega,by omega,by omega,by omega,0,⟨hil,hb⟩,?_⟩;simp[rlo,rhi,b1R,a6b]
   ·have h0:¬i=0:=by simpa using h0
    repeat' first
     | intro hx
     | apply And.intro
     | apply Exists.intro 0
    all_goals first
     | omega
     | simp[rlo,rhi,b1R,a6b, *]
   ·refine⟨by omega,by omega,0,⟨hil,hb⟩,?_⟩;simp[la]
   ·refine⟨λh1=>?_,λh1=>⟨λh2=>?_,λh2=>?_⟩⟩
    ·have h1:=eq_of_beq h1;have h1:i+1=len:=by omega
     refine⟨by omega,by omega,by omega,by omega,0,⟨hil,hb⟩,?_⟩;simp[lb,lc,nx,nx2,h1]
    ·have h1:=ne_of_beq_false h1;have h2:=eq_of_beq h2;have h1:¬i+1=len:=by omega
     have h2:i+2=len:=by omega
     refine⟨by omega,by omega,by omega,by omega,0,⟨hil,hb⟩,?_⟩;simp[lb,lc,nx,nx2,h1,h2]
    ·have h1:=ne_of_beq_false h1;have h2:=ne_of_beq_false h2;have h1:¬i+1=len:=by omega
     have h2:¬i+2=len:=by omega
     refine⟨by omega,by omega,by omega,by omega,0,⟨hil,hb⟩,?_⟩;simp[lb,lc,nx,nx2,h1,h2]
   ·obtain⟨k1,k2,k3,k4⟩:=hcw;refine⟨k1,k2,k3,k4,0,⟨hil,hb⟩,?_⟩;simp[cwF,b6T,la,lb]
   ·obtain⟨k1,k2,k3,k4,k5,k6,k7⟩:=hzc;refine⟨λhc=>?_,λhc=>⟨k1,k2,k3,k4,k5,k6,k7,⟨λhd=>⟨λz1=>?_,λz1=>⟨λz2=>?_,λz2=>?_⟩⟩,λhd=>⟨λz1=>⟨λhd1=>?_,λhd1=>?_⟩,λz1=>⟨λz2=>⟨λhd1=>?_,λhd1=>?_⟩,λz2=>?_⟩⟩⟩⟩⟩
    all_goals refine⟨i+1,⟨by omega,hb⟩,by omega,?_⟩
    all_goals try (replace hd1:=eq_of_beq hd1)
    all_goals try (replace hd1:=ne_of_beq_false hd1)
    all_goals try (replace hd:=eq_of_beq hd)
    all_goals try (replace hd:=ne_of_beq_false hd)
    all_goals try (change fLt .f64 (zcF g len i) 0=_ at z1)
    all_goals try (change fGt .f64 (zcF g len i) 0=_ at z2)
    all_goals simp[dcF,c2d, *]
  ·have hlt:=of_decide_eq_false hlt;have:i=len:=by omega
   subst this;simp[hb,pick]
def V9:b8->Option (Bool×Bool×Bool×Int×Nat×Nat×Nat×Nat×Nm×Nat)
 | .cells [a,b,c, .int .u8 k, .nili, .flt .f64 x, .flt .f64 y, .flt .f64 z, .flt .f64 w, .slcc p n]=>match a.toB with
  | some a=>match b.toB with
   | some b=>match c.toB with
    | some c=>some (a,b,c,k,x,y,z,w,p,n)
    | none=>none
   | none=>none
  | none=>none
 | _=>none
def L8(cl cw cv:Bool)(k:Int)(x y z w:Nat)(p:Nm)(n:Nat):b8:=.cells [.bool cl, .bool cw, .bool cv, .int .u8 k, .nili, .flt .f64 x, .flt .f64 y, .flt .f64 z, .flt .f64 w, .slcc p n]
theorem F0{σ:Sig}{c:b8}{cl cw cv:Bool}{k:Int}{x y z w:Nat}{p q:Nm}{n:Nat}(h:V9 c=some (cl,cw,cv,k,x,y,z,w,p,n))(hs:E9 (σ q) p):H2 σ c (L8 cl cw cv k x y z w q n):=by
 unfold V9 at h;split at h
 ·split at h
  ·rename_i ha;split at h
   ·rename_i hb;split at h
    ·rename_i hc;simp only[oI9,pI9]at h;obtain⟨rfl,rfl,rfl,rfl,rfl,rfl,rfl,rfl,rfl,rfl⟩:=h;show l9 σ _ _;simp[l9,w8,A1,A9,E0 ha,E0 hb,E0 hc,hs]
    ·cases h
   ·cases h
  ·cases h
 ·cases h
noncomputable def a9A:List SV->RdM
 | [.ptr s 0]=>.read s λo0=>(match V9 o0.c with
  | some (cl,cw,cv,k,x,y,z,w,p,n)=>.read p λo1=>(match w7 .f64 o1.c with
  | some (m1,g)=>.ret ⟨[.ptr 0 0],[(0,⟨false,150,L8 cl cw cv k x y z w 1 n,0⟩),(1,⟨false,100, .flts .f64 m1 g,0⟩)], .agg [.flt .f64 x, .flt .f64 y, .flt .f64 z, .flt .f64 w],[],[],some (m1=2*n/\True)⟩
  | none=>.fail)
  | none=>.fail)
 | _=>.fail
theorem b5t(cl cw cv:Bool)(k:Int)(x y z w:Nat)(_:Nm)(n:Nat)(g:Nat->Nat){w9:HC}(e9:w9=⟨[.ptr 0 0],[(0,⟨false,150,L8 cl cw cv k x y z w 1 n,0⟩),(1,⟨false,100, .flts .f64 (2*n) g,0⟩)], .agg [.flt .f64 x, .flt .f64 y, .flt .f64 z, .flt .f64 w],[],[],some (2*n=2*n/\True)⟩):D6 G0 2 [] [] (l7 f164) (z6 f164.ntmps w9.args w9.heap 2) (A0 G0.E.T f164.results.toList λS v=>B3 2 w9 S v)=(
 (x=x/\y=y/\z=z/\w=w/\True)/\True):=by subst e9;kernel_rfl
theorem c4f:z8 prog 164 (z5 a9A):=by
 refine q9 g0 func164 rfl (by kernel_rfl) λargs=>?_
 unfold a9A;split;rotate_left;trivial;rename_i s;intro o0;try dsimp only
 split;rotate_left;trivial;rename_i cl cw cv k x y z w p n hm0;intro o1;try dsimp only
 split;rotate_left;trivial;rename_i m1 g hm1;intro(ho:m1=2*n/\True);obtain⟨hsz1,ho⟩:=ho;subst hsz1;refine⟨?_,_,_,(b5t cl cw cv k x y z w p n g rfl).mpr ?_⟩
 ·refine g9 rfl ⟨?_,⟨trivial,F0 hm0 a8,⟨trivial,(w6 hm1).1,trivial⟩⟩⟩;simp[l9,w8,y4,y6,nth,a8]
 ·simp
def GPV:Ctx:=⟨⟨tys,[]⟩,[(162,A7 a8v)]⟩
theorem gPV:A5 prog GPV:=⟨⟨C0,FlatsOk.nil⟩,j8.cons (.pure c4h) j8.nil,by kernel_rfl⟩
def p7(n:Nat)(g:Nat->Nat):Bool:=decide (∀ i,i<n->a2L (g (2*i)) (g (2*i+1))=true)
noncomputable section
def a6T:List SV->RdM
 | [.ptr s 0]=>.read s λo0=>(match V9 o0.c with
  | some (cl,cw,cv,k,x,y,z,w,p,n)=>.read p λo1=>(match w7 .f64 o1.c with
  | some (m1,g)=>.ret ⟨[.ptr 0 0],[(0,⟨false,150,L8 cl cw cv k x y z w 1 n,0⟩),(1,⟨false,100, .flts .f64 m1 g,0⟩)], .tup [],[],[],some (m1=2*n/\k=0)⟩
  | none=>.fail)
  | none=>.fail)
 | _=>.fail
theorem b1Y(cl cw cv:Bool)(k:Int)(x y z w:Nat)(_:Nm)(n:Nat)(g:Nat->Nat){w9:HC}(e9:w9=⟨[.ptr 0 0],[(0,⟨false,150,L8 cl cw cv k x y z w 1 n,0⟩),(1,⟨false,100, .flts .f64 (2*n) g,0⟩)], .tup [],[],[],some (2*n=2*n/\k=0)⟩):D6 G0 2 [] [] (l7 f103) (z6 f103.ntmps w9.args w9.heap 2) (A0 G0.E.T f103.results.toList λS v=>B3 2 w9 S v)=(
 ((k==(1:Int))=true->False)/\((k==(1:Int))=false->((k==(2:Int))=true->False)/\((k==(2:Int))=false->True/\True))):=by subst e9;kernel_rfl
theorem b9L:z8 prog 103 (z5 a6T):=by
 refine q9 g0 func103 rfl (by kernel_rfl) λargs=>?_
 unfold a6T;split;rotate_left;trivial;rename_i s;intro o0;try dsimp only
 split;rotate_left;trivial;rename_i cl cw cv k x y z w p n hm0;intro o1;try dsimp only
 split;rotate_left;trivial;rename_i m1 g hm1;intro(ho:m1=2*n/\k=0);obtain⟨hsz1,ho⟩:=ho;subst hsz1;refine⟨?_,_,_,(b1Y cl cw cv k x y z w p n g rfl).mpr ?_⟩
 ·refine g9 rfl ⟨?_,⟨trivial,F0 hm0 a8,⟨trivial,(w6 hm1).1,trivial⟩⟩⟩;simp[l9,w8,y4,y6,nth,a8]
 ·exact⟨λh=>by simp[ho]at h,λ_=>⟨λh=>by simp[ho]at h,λ_=>⟨trivial,trivial⟩⟩⟩
def a3s:List SV->RdM
 | []=>.ret ⟨[],[], .ptr 0 0,[],[(0,⟨true,148, .cells [.int .u8 2, .int .i64 64],0⟩)],some (True)⟩
 | _=>.fail
theorem b2h{w9:HC}(e9:w9=⟨[],[], .ptr 0 0,[],[(0,⟨true,148, .cells [.int .u8 2, .int .i64 64],0⟩)],some (True)⟩):D6 G0 0 [] [] (l7 f97) (z6 f97.ntmps w9.args w9.heap 0) (A0 G0.E.T f97.results.toList λS v=>B3 0 w9 S v)=(
 (True/\0=0)/\True/\(148=148/\0=0/\(2:Int)=2/\(64:Int)=64/\True)/\True):=by subst e9;kernel_rfl
theorem b3q:z8 prog 97 (z5 a3s):=by
 refine q9 g0 func97 rfl (by kernel_rfl) λargs=>?_
 unfold a3s;split;rotate_left;trivial
 skip
 intro(ho:True);refine⟨?_,_,_,(b2h rfl).mpr ?_⟩
 ·refine g9 rfl ⟨?_,trivial⟩;simp[l9]
 ·simp
def GMS:Ctx:=⟨⟨tys,[]⟩,[(102,z5 a8Z),(103,z5 a6T),(97,z5 a3s)]⟩
theorem gMS:A5 prog GMS:=⟨⟨C0,FlatsOk.nil⟩,j8.cons c2c (j8.cons b9L (j8.cons b3q j8.nil)),by kernel_rfl⟩
def a0z:b8->Option (Int×Int)
 | .cells [.int .u8 k, .int .i64 m]=>some (k,m)
 | _=>none
def K7(k m:Int):b8:=.cells [.int .u8 k, .int .i64 m]
theorem H1{σ:Sig}{c:b8}{k m:Int}(h:a0z c=some (k,m)):H2 σ c (K7 k m):=by
 unfold a0z at h;split at h
 ·simp only[oI9,pI9]at h;obtain⟨rfl,rfl⟩:=h;show l9 σ _ _;simp[l9,w8,A1]
 ·cases h
def V6(len:Nat)(cl:Bool)(g:Nat->Nat)(p:Nm)(k:Int):List SV :=
 [.bool cl, .bool (a9 len cl&&fGt .f64 (cwF g len len) 0), .bool (a9 len cl && !(dcF g len len).2), .int .u8 k, .nili, .flt .f64 (pick (a9 len cl) (rlo g 0 len)), .flt .f64 (pick (a9 len cl) (rlo g 1 len)), .flt .f64 (pick (a9 len cl) (rhi g 0 len)), .flt .f64 (pick (a9 len cl) (rhi g 1 len)), .slcc p len]
def a9J:List SV->RdM
 | [.slcc n len, .tt,v, .ptr o 0]=>.read n λo0=>(match w7 .f64 o0.c with
  | some (m0,g)=>.read o λo1=>(match a0z o1.c with
  | some (k,m)=>(match v.toB with
  | some cl=>.ret ⟨[.slcc 0 len, .tt, .bool cl, .ptr 1 0],[(0,⟨false,100, .flts .f64 m0 g,0⟩),(1,⟨false,148,K7 k m,0⟩)], .agg (V6 len cl g 2 0),[],[(2,⟨true,100, .flts .f64 (2*len) g,2⟩)],some (m0=2*len/\k=0/\len<=1000000/\(a9 len cl=true->ppOk g len))⟩
  | none=>.fail)
  | none=>.fail)
  | none=>.fail)
 | _=>.fail
theorem b4V(len:Nat)(cl:Bool)(m:Int)(k:Int)(g:Nat->Nat){w9:HC}(e9:w9=⟨[.slcc 0 len, .tt, .bool cl, .ptr 1 0],[(0,⟨false,100, .flts .f64 (2*len) g,0⟩),(1,⟨false,148,K7 k m,0⟩)], .agg (V6 len cl g 2 0),[],[(2,⟨true,100, .flts .f64 (2*len) g,2⟩)],some (2*len=2*len/\k=0/\len
 <=1000000/\(a9 len cl=true->ppOk g len))⟩){T1}(t1:T1=(a9 len cl)){T2}(t2:T2=(100=100/\2=2/\2*len<=Int.toNat (↑len:Int)*2/\∀ (i:Nat),i<2*len->g i=g i)){T3}(t3:T3=(a9 len cl&&fGt .f64 (cwF g len len) 0))
 {T4}(t4:T4=(↑len:Int)) {T5}(t5:T5=(a9 len cl && !(dcF g len len).2)) {T6}(t6:T6=(rlo g 0 len)) {T7}(t7:T7=(rlo g 1 len)) {T8}(t8:T8=(rhi g 0 len)) {T9}(t9:T9=(rhi g 1 len)) {T10}(t10:T10=(True/\Int.toNat T4=len)):D6 GMS 2 [] [] (l7 f92) (z6 f92.ntmps w9.args w9.heap 2) (A0 GMS.E.T f92.results.toList λS v=>B3 2 w9 S v)=(
 (T4=T4/\0<=T4/\T4<=9223372036854775807/\T4*16<=(140737488355328:Int))/\(len=Int.toNat T4/\Int.toNat T4*2=Int.toNat T4*2/\2*len=Int.toNat T4*2)/\(2*len=2*len/\len<=1000000/\(a9 len cl=true->ppOk g len))/\
 ((m != (0:Int))=true->(decide (m<=T4)=true->(Int.toNat T4*2=2*Int.toNat T4/\k=(0:Int))/\(cl=cl/\T3=T3/\T5=T5/\k=(0:Int)/\True/\pick T1 T6=pick T1 T6/\pick T1 T7=pick T1 T7/\pick T1 T8=pick T1 T8/\pick T1
 T9=pick T1 T9/\T10/\True)/\True/\T2/\True)/\(decide (m<=T4)=false->(cl=cl/\T3=T3/\T5=T5/\(0:Int)=0/\True/\pick T1 T6=pick T1 T6/\pick T1 T7=pick T1 T7/\pick T1 T8=pick T1 T8/\pick T1 T9=pick T1 T9/\T10/\True)/\
 True/\T2/\True))/\((m != (0:Int))=false->(cl=cl/\T3=T3/\(a9 len cl && !Prod.snd (dcF g len len))=T5/\(0:Int)=0/\True/\pick T1 T6=pick T1 T6/\pick T1 T7=pick T1 T7/\pick T1 T8=pick T1 T8/\pick T1 T9=pick T1 T9/\
 T10/\True)/\True/\T2/\True)):=by subst e9 t1 t2 t3 t4 t5 t6 t7 t8 t9 t10;kernel_rfl
theorem c3e:z8 prog 92 (z5 a9J):=by
 refine q9 gMS func92 rfl (by kernel_rfl) λargs=>?_
 unfold a9J;split;rotate_left;trivial;rename_i n len v o;intro o0;try dsimp only
 split;rotate_left;trivial;rename_i m0 g hm0;intro o1;try dsimp only
 split;rotate_left;trivial;rename_i k m hm1;try dsimp only
 split;rotate_left;trivial;rename_i cl hcl;intro(ho:m0=2*len/\k=0/\len<=1000000/\(a9 len cl=true->ppOk g len));obtain⟨hsz0,ho⟩:=ho;subst hsz0;refine⟨?_,_,_,(b4V len cl m k g rfl rfl rfl rfl rfl rfl rfl rfl rfl rfl rfl).mpr ?_⟩
 ·refine g9 rfl ⟨?_,⟨trivial,(w6 hm0).1,⟨trivial,H1 hm1,trivial⟩⟩⟩;simp[l9,w8,y4,y6,nth,a8,E0 hcl]
 ·obtain⟨hk,hl,hok⟩:=ho;have e:len*2=2*len:=by omega
  have l1:(0:Int)<=len:=by omega
  have l2:(len:Int)<=9223372036854775807:=by omega
  have l3:(len:Int)*16<=140737488355328:=by omega
  subst hk;simp[e,l1,l2,l3,hl];exact hok
def GNL:Ctx:=⟨⟨tys,[]⟩,[(92,z5 a9J)]⟩
theorem gNL:A5 prog GNL:=⟨⟨C0,FlatsOk.nil⟩,j8.cons c3e j8.nil,by kernel_rfl⟩
end
noncomputable def b0I:List SV->RdM
 | [.int .i64 k, .int .i64 m]=>.ret ⟨[.int .i64 k, .int .i64 m],[], .ptr 0 0,[],[(0,⟨true,148, .cells [.int .u8 (IntKind.u8.wrap k), .int .i64 m],0⟩)],some (True)⟩
 | _=>.fail
theorem b9F(k m:Int){w9:HC}(e9:w9=⟨[.int .i64 k, .int .i64 m],[], .ptr 0 0,[],[(0,⟨true,148, .cells [.int .u8 (IntKind.u8.wrap k), .int .i64 m],0⟩)],some (True)⟩):D6 G0 0 [] [] (l7 f64) (z6 f64.ntmps w9.args w9.heap 0) (A0 G0.E.T f64.results.toList λS v=>B3 0 w9 S v)=(
 (True/\0=0)/\True/\(148=148/\0=0/\IntKind.wrap .u8 k=IntKind.wrap .u8 k/\m=m/\True)/\True):=by subst e9;kernel_rfl
theorem c3o:z8 prog 64 (z5 b0I):=by
 refine q9 g0 func64 rfl (by kernel_rfl) λargs=>?_
 unfold b0I;split;rotate_left;trivial;rename_i k m;intro(ho:True);refine⟨?_,_,_,(b9F k m rfl).mpr ?_⟩
 ·refine g9 rfl ⟨?_,trivial⟩;simp[l9,w8,A1]
 ·simp
def GPT:Ctx:=⟨⟨tys,[]⟩,[(75,A7 ptF)]⟩
theorem gPT:A5 prog GPT:=⟨⟨C0,FlatsOk.nil⟩,j8.cons (.pure pt) j8.nil,by kernel_rfl⟩
def fI(g:Nat->Int)(j:Nat):Nat:=ofI .f64 (g j)
def c9r(len:Nat)(g:Nat->Int):Fam:=⟨Nat,λi =>
 ⟨19,[(3, .slcc 1 i),(6, .slcc 0 len),(7, .int .i64 len),(8, .int .i64 i)],[(0,⟨false,23, .ints .i64 (2*len) g,0⟩),(1,⟨true,100, .flts .f64 (2*i) (fI g),2⟩)],2⟩,λi=>i<=len,λi=>len-i⟩
theorem b4J{i:Nat}{g:Nat->Nat}{x y:Nat}(hx:x=g (2*i))(hy:y=g (2*i+1)):∀ j,j<2*(i+1)->B5 (2*i) g [x,y] 0 j=g j:=by
 intro j hj;subst hx hy;unfold B5;split
 ·rfl
 ·have:j=2*i∨j=2*i+1:=by omega
  rcases this with rfl|rfl <;> simp
noncomputable def b6I:List SV->RdM
 | [.slcc n len]=>.read n λo0=>(match j9 .i64 o0.c with
  | some (m0,g)=>.ret ⟨[.slcc 0 len],[(0,⟨false,23, .ints .i64 m0 g,0⟩)], .slcc 1 len,[],[(1,⟨true,100, .flts .f64 (2*len) (fI g),2⟩)],some (m0=2*len/\len<=1000000)⟩
  | none=>.fail)
 | _=>.fail
theorem c4s(len:Nat)(g:Nat->Int){w9:HC}(e9:w9=⟨[.slcc 0 len],[(0,⟨false,23, .ints .i64 (2*len) g,0⟩)], .slcc 1 len,[],[(1,⟨true,100, .flts .f64 (2*len) (fI g),2⟩)],some (2*len=2*len/\len<=1000000)⟩){T1}(t1:T1=(↑len:Int)){T2}(t2:T2=λ(i:Nat)=>(↑i:Int))
 {T3}(t3:T3=λ(i:Nat)=>(2*len<=2*len/\∀(i:Nat),i<2*len->g i=g i)):D6 GPT 1 [(3,c9r len g)] [] (l7 f74) (z6 f74.ntmps w9.args w9.heap 1) (A0 GPT.E.T f74.results.toList λS v=>B3 1 w9 S v)=(
 (∃(i:Nat),i<=len/\(i=0/\(True/\len=len)/\T1=T1/\0=(T2 i)/\True)/\True/\(T3 i)/\True/\2*i=0/\True)/\∀(i:Nat),i<=len->(decide ((T2 i)<T1)=true->((0<=(T2 i)/\(T2 i)<T1)/\1<=2*len)/\0+Int.toNat (T2 i) *
 2+2<=2*len/\(2*i=i*2/\(i+1)*16<=140737488355328/\i+1<=9223372036854775807)/\∃(i':Nat),i'<=len/\len-i'<len-i/\((True/\i+1=i')/\(True/\len=len)/\T1=T1/\IntKind.wrap .i64 ((T2 i)+1)=(↑i':Int)/\
 True)/\True/\(T3 i)/\True/\(100=100/\2=2/\2*i'<=2*i+List.length [ofI .f64 (g (0+Int.toNat (T2 i)*2)),ofI .f64 (g (0+Int.toNat (T2 i)*2+1))]/\∀(i_1:Nat),i_1<2*i'->B5 (2*i) (fI g) [ofI .f64 (g (0+Int.toNat
 (T2 i)*2)),ofI .f64 (g (0+Int.toNat (T2 i)*2+1))] 0 i_1=fI g i_1)/\True)/\(decide ((T2 i)<T1)=false->(True/\i=len)/\True/\(100=100/\2=2/\2*len<=2*i/\∀(i:Nat),i<2*len->fI g i=fI g i)/\True)):=by subst e9 t1 t2 t3;kernel_rfl
theorem pts:z8 prog 74 (z5 b6I):=by
 refine q9 gPT func74 rfl (by kernel_rfl) λargs=>?_
 unfold b6I;split;rotate_left;trivial;rename_i n len;intro o0;try dsimp only
 split;rotate_left;trivial;rename_i m0 g hm0;intro(ho:m0=2*len/\len<=1000000);obtain⟨hsz0,ho⟩:=ho;subst hsz0;refine⟨?_,_,_,(c4s len g rfl rfl rfl rfl).mpr ?_⟩
 ·refine g9 rfl ⟨?_,⟨trivial,(j5 hm0).1,trivial⟩⟩;simp[l9,w8,y4,y6,nth,a8]
 ·refine⟨⟨0,by omega,by simp⟩,λi hi=>?_⟩;have e:i*2=2*i:=by omega
  simp only[tN9,Nat.zero_add,e,true_and,and_true,implies_true,Nat.le_refl];refine⟨λh=>?_,λh=>?_⟩
  ·have h:=oT9 h;have hw:IntKind.i64.wrap ((i:Int)+1)=((i+1:Nat):Int):=by rw[p8 (by omega) (by omega)];omega
   refine⟨by omega,by omega,by omega,i+1,by omega,by omega,⟨rfl,hw⟩,?_,b4J rfl rfl⟩;show 2*(i+1)<=2*i+2;omega
  ·have h:=of_decide_eq_false h;omega
def crn(g:Nat->Int)(len:Nat)(i:Int)(k:Nat):Int:=if i<len then g (2*i.toNat+k)else 0
noncomputable def a9R:List SV->RdM
 | [.agg [.int .i64 k, .slcc n len, .nils], .int .i64 i]=>.read n λo0=>(match j9 .i64 o0.c with
  | some (m0,g)=>.ret ⟨[.agg [.int .i64 k, .slcc 0 len, .nils], .int .i64 i],[(0,⟨false,23, .ints .i64 m0 g,0⟩)], .agg [.int .i64 (crn g len i 0), .int .i64 (crn g len i 1)],[],[],some (m0=2*len/\0<=i)⟩
  | none=>.fail)
 | _=>.fail
theorem b5n(k:Int)(len:Nat)(i:Int)(g:Nat->Int){w9:HC}(e9:w9=⟨[.agg [.int .i64 k, .slcc 0 len, .nils], .int .i64 i],[(0,⟨false,23, .ints .i64 (2*len) g,0⟩)], .agg [.int .i64 (crn g len i 0), .int .i64 (crn g len i 1)],[],[],some (2*len=2*len/\0<=i)⟩):D6 G0 1 [] [] (l7 f72) (z6 f72.ntmps w9.args w9.heap 1) (A0 G0.E.T f72.results.toList λS v=>B3 1 w9 S v)=(
 (decide (i<(↑len:Int))=true->(((0:Int)<=i/\i<(↑len:Int))/\1<=2*len)/\0+Int.toNat i*2+2<=2*len/\(g (0+Int.toNat i*2)=crn g len i 0/\g (0+Int.toNat i*2+1)=crn g len i 1/\True)/\True)/\(decide (i<(↑len :
 Int))=false->((0:Int)=crn g len i 0/\(0:Int)=crn g len i 1/\True)/\True)):=by subst e9;kernel_rfl
theorem c2Q:z8 prog 72 (z5 a9R):=by
 refine q9 g0 func72 rfl (by kernel_rfl) λargs=>?_
 unfold a9R;split;rotate_left;trivial;rename_i k n len i;intro o0;try dsimp only
 split;rotate_left;trivial;rename_i m0 g hm0;intro(ho:m0=2*len/\0<=i);obtain⟨hsz0,ho⟩:=ho;subst hsz0;refine⟨?_,_,_,(b5n k len i g rfl).mpr ?_⟩
 ·refine g9 rfl ⟨?_,⟨trivial,(j5 hm0).1,trivial⟩⟩;simp[l9,w8,A1,y4,y6,nth,a8]
 ·have e:0+i.toNat*2=2*i.toNat:=by omega
  refine⟨λh=>?_,λh=>?_⟩
  ·have h:=oT9 h;rw[e];simp[crn,h];omega
  ·have h:=of_decide_eq_false h;simp[crn,h]
def GCO:Ctx:=⟨⟨tys,[]⟩,[(80,A7 a9w)]⟩
theorem gCO:A5 prog GCO:=⟨⟨C0,FlatsOk.nil⟩,j8.cons (.pure c1v) j8.nil,by kernel_rfl⟩
def a3I:PF:=fun
 | [.agg [.flt .f64 a, .flt .f64 b, .flt .f64 c, .flt .f64 d]]=>some (.agg [.int .i64 (toI .f64 a .i64), .int .i64 (toI .f64 b .i64), .int .i64 (toI .f64 c .i64), .int .i64 (toI .f64 d .i64)],some (H3 .f64 a .i64/\H3 .f64 b .i64/\H3 .f64 c .i64/\H3 .f64 d .i64))
 | _=>none
theorem b1N(R:SV->Prop)(a b c d:Nat):D6 GCO 0 [] [] (l7 f65) (z6 f65.ntmps [.agg [.flt .f64 a, .flt .f64 b, .flt .f64 c, .flt .f64 d]] [] 0) (A0 GCO.E.T f65.results.toList λ_ v=>R v)=(
(H3 .f64 a .i64/\H3 .f64 b .i64)/\(H3 .f64 c .i64/\H3 .f64 d .i64)/\true=true/\R (SV.agg [SV.int .i64 (toI .f64 a .i64),SV.int .i64 (toI .f64 b .i64),SV.int .i64 (toI .f64 c .i64),SV.int
.i64 (toI .f64 d .i64)])):=by kernel_rfl
theorem b3u:F1 prog 65 a3I:=by
 refine E1 gCO func65 rfl (by kernel_rfl) ?_;intro args v p h hp;unfold a3I at h;split at h
 ·rename_i a b c d;injection h with h;injection h with h1 h2;subst h1 h2
  have hp:H3 .f64 a .i64/\H3 .f64 b .i64/\H3 .f64 c .i64/\H3 .f64 d .i64:=hp;refine⟨rfl,_,_,(b1N _ a b c d).mpr ?_⟩;simp[hp,eqv,a2J,A1]
 ·cases h
theorem fi{n:Int}(h:B9 n):FI (ofI .f64 n) n:=a3r (by unfold B9 at h;omega)
theorem a8y{op:BinOp}{x y r:Nat}(h:floatBits op .f64 x y=some r):fok op .f64 x y/\fop op .f64 x y=r:=by
 unfold fok fop;rw[h];exact⟨rfl,rfl⟩
theorem a4f{x y:Nat}{a b:Int}(hx:FI x a)(hy:FI y b)(h:(a*b).natAbs<2 ^ 53):fok .mul .f64 x y/\FI (fop .mul .f64 x y) (a*b):=by
 obtain⟨r,h1,h2⟩:=c3Y hx hy h;obtain⟨h3,h4⟩:=a8y (op:=.mul) h1;exact⟨h3,by rw[h4];exact h2⟩
def vld(x y:Int):Bool:=decide (-180<=x/\x<=180/\-90<=y/\y<=90)
theorem a9y{n:Int}{x:Nat}(e:FloatKind.f64.nearest n=x)(h:n.natAbs<2 ^ 53):FI x n:=by
 have:=a3r h;rw[e]at this;exact this
theorem b4M{x y:Int}(hx:B9 x)(hy:B9 y):a2L (ofI .f64 x) (ofI .f64 y)=vld x y:=by
 unfold a2L vld;rw[a3d (fi hx) (a9y (n := -180) (by decide) (by decide)),a2z (fi hx) (a9y (n:=180) (by decide) (by decide)),a3d (fi hy) (a9y (n := -90) (by decide) (by decide)),a2z (fi hy) (a9y (n:=90) (by decide) (by decide))];simp[Bool.and_assoc]
end Go.Proofs.Tryz.Sx
