/- Parts of a proof, in order: what each says stands at its head. No conditions. -/
import Derived.KernelRfl
import Derived.Test.YtfhkmkhcofodmaaM4
import Derived.Test.YtfhkmkhcofodmaaM3
namespace Go.Proofs.Try.Sx
open Go Go.Sx Go.Proofs Go.Fl Go.Geo
set_option maxRecDepth 100000
theorem fi{n:Int}(h:small n):FI (ofI .f64 n) n:=FI_ofInt (by unfold small at h;omega)
theorem toI_of{n:Int}(h:small n):toIok .f64 (ofI .f64 n) .i64/\toI .f64 (ofI .f64 n) .i64=n:=toI_FI (fi h) (by unfold small at h;omega)
theorem fop_of{op:BinOp}{x y r:Nat}(h:floatBits op .f64 x y=some r):fok op .f64 x y/\fop op .f64 x y=r:=by
 unfold fok fop;rw[h];exact⟨rfl,rfl⟩
theorem mul_of{x y:Nat}{a b:Int}(hx:FI x a)(hy:FI y b)(h:(a*b).natAbs<2 ^ 53):fok .mul .f64 x y/\FI (fop .mul .f64 x y) (a*b):=by
 obtain⟨r,h1,h2⟩:=FI_mul hx hy h;obtain⟨h3,h4⟩:=fop_of (op:=.mul) h1;exact⟨h3,by rw[h4];exact h2⟩
def vld(x y:Int):Bool:=decide (-180<=x/\x<=180/\-90<=y/\y<=90)
theorem fi_lit{n:Int}{x:Nat}(e:FloatKind.f64.nearest n=x)(h:n.natAbs<2 ^ 53):FI x n:=by
 have:=FI_ofInt h;rw[e]at this;exact this
theorem pvalid_of{x y:Int}(hx:small x)(hy:small y):pvalid (ofI .f64 x) (ofI .f64 y)=vld x y:=by
 unfold pvalid vld;rw[fge_I (fi hx) (fi_lit (n := -180) (by decide) (by decide)),fle_I (fi hx) (fi_lit (n:=180) (by decide) (by decide)),fge_I (fi hy) (fi_lit (n := -90) (by decide) (by decide)),fle_I (fi hy) (fi_lit (n:=90) (by decide) (by decide))];simp[Bool.and_assoc]
end Go.Proofs.Try.Sx

namespace Go.Fl
open Go.Sx Ieee
structure Rnd (P K E:Nat):Prop where
 up:2*(K*2 ^ E)<=2*P+2 ^ E
 dn:2*P<=2*(K*2 ^ E)+2 ^ E
 lo:E=0∨2 ^ 52*2 ^ E<=P
 hi:P<2 ^ 53*2 ^ E
 tie:2*(K*2 ^ E)=2*P+2 ^ E->K % 2=0
theorem zero_FI:FI 0 0:=⟨fin_zero,by rw[V_zero,Int.zero_mul]⟩
end Go.Fl

namespace Go.Proofs.Try.Sx
open Go Go.Sx Go.Proofs Go.Fl Go.Geo
set_option maxRecDepth 100000
def Whl(g:Nat->Nat)(z:Nat->Int)(m:Nat):Prop:=∀ j,j<m->FI (g j) (z j)/\(z j).natAbs<=4194304
def cwZ(z:Nat->Int)(len:Nat):Nat->Int
 | 0=>0
 | i+1=>cwZ z len i+(z (2*nx len i)-z (2*i))*(z (2*nx len i+1)+z (2*i+1))
def zcZ(z:Nat->Int)(len i:Nat):Int :=
 (z (2*nx len i)-z (2*i))*(z (2*nx2 len i+1)-z (2*nx len i+1))-(z (2*nx len i+1)-z (2*i+1))*(z (2*nx2 len i)-z (2*nx len i))
def dStepZ(d:Int)(c:Bool)(v:Int):Int×Bool :=
 if c=true then(d,c)else if d=0 then(if v<0 then(-1,c)else if 0<v then(1,c)else(d,c))
 else if v<0 then(d,decide (d=1))else if 0<v then(d,decide (d = -1))else(d,c)
def dcZ(z:Nat->Int)(len:Nat):Nat->Int×Bool
 | 0=>(0,false)
 | i+1=>dStepZ (dcZ z len i).1 (dcZ z len i).2 (zcZ z len i)
def loZ(z:Nat->Int)(k:Nat):Nat->Int
 | 0=>0
 | i+1=>if i=0∨z (2*i+k)<loZ z k i then z (2*i+k)else loZ z k i
def hiZ(z:Nat->Int)(k:Nat):Nat->Int
 | 0=>0
 | i+1=>if i=0 then z (2*i+k)else if z (2*i+k)<loZ z k i then hiZ z k i else if hiZ z k i<z (2*i+k)then z (2*i+k)else hiZ z k i
theorem add_F{x y:Nat}{a b:Int}(hx:FI x a)(hy:FI y b)(h:(a+b).natAbs<2 ^ 53):fok .add .f64 x y/\FI (fop .add .f64 x y) (a+b):=by
 obtain⟨r,h1,h2⟩:=FI_add hx hy h;obtain⟨h3,h4⟩:=fop_of (op:=.add) h1;exact⟨h3,by rw[h4];exact h2⟩
theorem sub_F{x y:Nat}{a b:Int}(hx:FI x a)(hy:FI y b)(h:(a-b).natAbs<2 ^ 53):fok .sub .f64 x y/\FI (fop .sub .f64 x y) (a-b):=by
 obtain⟨r,h1,h2⟩:=FI_sub hx hy h;obtain⟨h3,h4⟩:=fop_of (op:=.sub) h1;exact⟨h3,by rw[h4];exact h2⟩
theorem natAbs_mul_le{a b:Int}{m n:Nat}(ha:a.natAbs<=m)(hb:b.natAbs<=n):(a*b).natAbs<=m*n:=by
 rw[Int.natAbs_mul];exact Nat.mul_le_mul ha hb
theorem natAbs_sub_le{a b:Int}{m:Nat}(ha:a.natAbs<=m)(hb:b.natAbs<=m):(a-b).natAbs<=2*m:=by omega
theorem natAbs_add_le'{a b:Int}{m:Nat}(ha:a.natAbs<=m)(hb:b.natAbs<=m):(a+b).natAbs<=2*m:=by omega
theorem nx_lt{len i:Nat}(h:i<len):nx len i<len:=by unfold nx;split <;> omega
theorem nx2_lt{len i:Nat}(h:i<len)(h2:2<=len):nx2 len i<len:=by unfold nx2;split;omega;split <;> omega
section
variable {g:Nat->Nat} {z:Nat->Int} {len:Nat} (hl:len<=64) (hg:Whl g z (2*len))
include hg
theorem lo_F{k:Nat}(hk:k<2):∀ i,i<=len->FI (rlo g k i) (loZ z k i)/\(loZ z k i).natAbs<=4194304
 | 0,_=>⟨zero_FI,by simp[loZ]⟩
 | i+1,h=>by
  obtain⟨h1,h2⟩:=lo_F hk i (by omega);obtain⟨h3,h4⟩:=hg (2*i+k) (by omega);show FI (if i=0∨fLt .f64 (g (2*i+k)) (rlo g k i)=true then g (2*i+k)else rlo g k i) (if i=0∨z (2*i+k)<loZ z k i then z (2*i+k)else loZ z k i)/\(if i=0∨z (2*i+k)<loZ z k i then z (2*i+k)else loZ z k i).natAbs<=4194304;rw[flt_I h3 h1];by_cases hc:i=0∨z (2*i+k)<loZ z k i
  ·rw[if_pos hc,if_pos (by simpa using hc)];exact⟨h3,h4⟩
  ·rw[if_neg hc,if_neg (by simpa using hc)];exact⟨h1,h2⟩
theorem hi_F{k:Nat}(hk:k<2):∀ i,i<=len->FI (rhi g k i) (hiZ z k i)/\(hiZ z k i).natAbs<=4194304
 | 0,_=>⟨zero_FI,by simp[hiZ]⟩
 | i+1,h=>by
  obtain⟨h1,h2⟩:=hi_F hk i (by omega);obtain⟨h1',h2'⟩:=lo_F hg hk i (by omega);obtain⟨h3,h4⟩:=hg (2*i+k) (by omega);show FI (hiStep i (g (2*i+k)) (rlo g k i) (rhi g k i)) (hiZ z k (i+1))/\(hiZ z k (i+1)).natAbs<=4194304;unfold hiStep hiZ;rw[flt_I h3 h1',fgt_I h3 h1];by_cases c0:i=0
  ·rw[if_pos c0,if_pos c0];exact⟨h3,h4⟩
  rw[if_neg c0,if_neg c0];by_cases c1:z (2*i+k)<loZ z k i
  ·rw[if_pos c1,if_pos (decide_eq_true c1)];exact⟨h1,h2⟩
  rw[if_neg c1,if_neg (by simpa using c1)];by_cases c2:hiZ z k i<z (2*i+k)
  ·rw[if_pos c2,if_pos (decide_eq_true c2)];exact⟨h3,h4⟩
  ·rw[if_neg c2,if_neg (by simpa using c2)];exact⟨h1,h2⟩
theorem zc_F{i:Nat}(hi:i<len)(h2:2<=len):zcOk (g (2*i)) (g (2*i+1)) (g (2*nx len i)) (g (2*nx len i+1)) (g (2*nx2 len i)) (g (2*nx2 len i+1))/\
  FI (zcF g len i) (zcZ z len i):=by
 have n1:=nx_lt hi;have n2:=nx2_lt hi h2;obtain⟨fa,ba⟩:=hg (2*i) (by omega);obtain⟨fa',ba'⟩:=hg (2*i+1) (by omega);obtain⟨fb,bb⟩:=hg (2*nx len i) (by omega);obtain⟨fb',bb'⟩:=hg (2*nx len i+1) (by omega);obtain⟨fc,bc⟩:=hg (2*nx2 len i) (by omega);obtain⟨fc',bc'⟩:=hg (2*nx2 len i+1) (by omega);have s1:=natAbs_sub_le bb ba;have s2:=natAbs_sub_le bc' bb';have s3:=natAbs_sub_le bb' ba';have s4:=natAbs_sub_le bc bb;have p1:=natAbs_mul_le s1 s2;have p2:=natAbs_mul_le s3 s4;obtain⟨k1,e1⟩:=sub_F fb fa (by omega);obtain⟨k2,e2⟩:=sub_F fc' fb' (by omega);obtain⟨k3,e3⟩:=sub_F fb' fa' (by omega)
 obtain⟨k4,e4⟩:=sub_F fc fb (by omega);obtain⟨k5,e5⟩:=mul_of e1 e2 (by omega);obtain⟨k6,e6⟩:=mul_of e3 e4 (by omega);obtain⟨k7,e7⟩:=sub_F e5 e6 (by omega);exact⟨⟨k1,k2,k5,k3,k4,k6,k7⟩,e7⟩
include hl in
theorem cw_F:∀ i,i<=len->FI (cwF g len i) (cwZ z len i)/\(cwZ z len i).natAbs<=i*70368744177664/\
  (i<len->cwOk (cwF g len i) (g (2*i)) (g (2*i+1)) (g (2*nx len i)) (g (2*nx len i+1))/\FI (cwF g len (i+1)) (cwZ z len (i+1))/\(cwZ z len (i+1)).natAbs<=(i+1)*70368744177664)
 | i,h=>by
  have base:FI (cwF g len i) (cwZ z len i)/\(cwZ z len i).natAbs<=i*70368744177664:=by
   cases i with
   | zero=>exact⟨zero_FI,by simp[cwZ]⟩
   | succ j=>exact((cw_F j (by omega)).2.2 (by omega)).2
  refine⟨base.1,base.2,λhi=>?_⟩;have n1:=nx_lt hi;obtain⟨fa,ba⟩:=hg (2*i) (by omega);obtain⟨fa',ba'⟩:=hg (2*i+1) (by omega);obtain⟨fb,bb⟩:=hg (2*nx len i) (by omega);obtain⟨fb',bb'⟩:=hg (2*nx len i+1) (by omega);have s1:=natAbs_sub_le bb ba;have s2:=natAbs_add_le' bb' ba';have p1:=natAbs_mul_le s1 s2;obtain⟨k1,e1⟩:=sub_F fb fa (by omega);obtain⟨k2,e2⟩:=add_F fb' fa' (by omega);obtain⟨k3,e3⟩:=mul_of e1 e2 (by omega);obtain⟨k4,e4⟩:=add_F base.1 e3 (by omega);exact⟨⟨k1,k2,k3,k4⟩,e4,by show (cwZ z len i+_).natAbs<=_;omega⟩
include hl in
theorem ppOk_F(h2:2<=len):ppOk g len:=λi hi=>⟨((cw_F hl hg i (by omega)).2.2 hi).1,(zc_F hg hi h2).1⟩
theorem dc_F(h2:2<=len):∀ i,i<=len->dcF g len i=dcZ z len i
 | 0,_=>rfl
 | i+1,h=>by
  show dStep (dcF g len i).1 (dcF g len i).2 (zcF g len i)=dStepZ (dcZ z len i).1 (dcZ z len i).2 (zcZ z len i);rw[dc_F h2 i (by omega)];have hz:=(zc_F hg (show i<len by omega) h2).2;unfold dStep dStepZ;rw[flt_I hz zero_FI,fgt_I hz zero_FI];simp only[decide_eq_true_eq]
include hl in
theorem cwgt_F:fGt .f64 (cwF g len len) 0=decide (0<cwZ z len len):=fgt_I (cw_F hl hg len (Nat.le_refl _)).1 zero_FI
end
theorem loZ_le{z:Nat->Int}{k:Nat}:∀ {i j:Nat},j<i->loZ z k i<=z (2*j+k)
 | 0,_,h=>by omega
 | i+1,j,h=>by
  unfold loZ;split
  ·rename_i hc;by_cases e:j=i
   ·subst e;exact Int.le_refl _
   ·rcases hc with rfl|hc
    ·omega
    ·exact Int.le_trans (Int.le_of_lt hc) (loZ_le (by omega))
  ·rename_i hc;by_cases e:j=i
   ·subst e;omega
   ·exact loZ_le (by omega)
theorem hiZ_ge{z:Nat->Int}{k:Nat}:∀ {i j:Nat},j<i->z (2*j+k)<=hiZ z k i
 | 0,_,h=>by omega
 | i+1,j,h=>by
  have hl:=λ(hi:0<i)=>loZ_le (z:=z) (k:=k) (i:=i) (j:=0) hi
  have hh:=λ(hi:0<i)=>hiZ_ge (z:=z) (k:=k) (i:=i) (j:=0) hi
  unfold hiZ;split
  ·have:j=i:=by omega
   subst this;exact Int.le_refl _
  ·have hl:=hl (by omega);have hh:=hh (by omega);by_cases e:j=i
   ·subst e;split
    ·omega
    ·split <;> omega
   ·have h3:=hiZ_ge (z:=z) (k:=k) (i:=i) (j:=j) (by omega);split
    ·exact h3
    ·split
     ·omega
     ·exact h3
theorem updC_at(b:Nat):∀(vs:List Value)(c:Nat)(F:Nat->Nat->Value)(b' c':Nat),updC F b c vs b' c'=if b'=b/\c<=c'/\c'<c+vs.length then vs.getD (c'-c) (.bool false)else F b' c'
 | [],c,F,b',c'=>by
  have:¬(b'=b/\c<=c'/\c'<c+([]:List Value).length):=by simp only[List.length_nil];omega
  rw[if_neg this];rfl
 | v :: r,c,F,b',c'=>by
  show updC (updN F b c v) b (c+1) r b' c'=_;rw[updC_at b r (c+1)];by_cases h:b'=b/\c+1<=c'/\c'<c+1+r.length
  ·have h2:b'=b/\c<=c'/\c'<c+(v :: r).length:=⟨h.1,by omega,by simp only[List.length_cons];omega⟩;rw[if_pos h,if_pos h2,show c'-c=(c'-(c+1))+1 by omega];rfl
  ·rw[if_neg h];by_cases h1:b'=b/\c'=c
   ·obtain⟨rfl,rfl⟩:=h1;have h2:b'=b'/\c'<=c'/\c'<c'+(v :: r).length:=⟨rfl,Nat.le_refl _,by simp only[List.length_cons];omega⟩;rw[if_pos h2];simp[updN]
   ·have h2:¬(b'=b/\c<=c'/\c'<c+(v :: r).length):=by
     simp only[List.length_cons];rintro⟨e1,e2,e3⟩;by_cases e:c'=c
     ·exact h1 ⟨e1,e⟩
     ·exact h ⟨e1,by omega,by omega⟩
    rw[if_neg h2];simp only[updN];rw[if_neg h1]
theorem updC_off{b c:Nat}{vs:List Value}{F:Nat->Nat->Value}{b' c':Nat}(h:b'≠b∨c'<c∨c+vs.length<=c'):updC F b c vs b' c'=F b' c':=by
 rw[updC_at,if_neg];rintro⟨h1,h2,h3⟩;omega
theorem updN_off{b c:Nat}{v:Value}{F:Nat->Nat->Value}{b' c':Nat}(h:b'≠b∨c'≠c):updN F b c v b' c'=F b' c':=by
 unfold updN;rw[if_neg];rintro⟨h1,h2⟩;omega
theorem updN_eq{b c:Nat}{v:Value}{F:Nat->Nat->Value}:updN F b c v b c=v:=by simp[updN]
def fz(v:Value)(n:Int):Prop:=v=.float .f64 (fltV v)/\FI (fltV v) n/\n.natAbs<=4194304
theorem fz.flt{v:Value}{n:Int}(h:fz v n):isFlt .f64 v:=h.1
theorem fz.lt{v w:Value}{n m:Int}(h1:fz v n)(h2:fz w m):fLt .f64 (fltV v) (fltV w)=decide (n<m):=flt_I h1.2.1 h2.2.1
theorem fz.gt{v w:Value}{n m:Int}(h1:fz v n)(h2:fz w m):fGt .f64 (fltV v) (fltV w)=decide (m<n):=fgt_I h1.2.1 h2.2.1
theorem fz.sub{v w:Value}{n m:Int}(h1:fz v n)(h2:fz w m):fok .sub .f64 (fltV v) (fltV w)/\FI (fop .sub .f64 (fltV v) (fltV w)) (n-m)/\(n-m).natAbs<=8388608:=by
 have a:=h1.2.2;have b:=h2.2.2;obtain⟨h3,h4⟩:=sub_F h1.2.1 h2.2.1 (by omega);exact⟨h3,h4,by omega⟩
structure Bx where
 x0:Int
 y0:Int
 x1:Int
 y1:Int
deriving DecidableEq
def Bx.lo(B:Bx)(k:Nat):Int:=if k=0 then B.x0 else B.y0
def Bx.hi(B:Bx)(k:Nat):Int:=if k=0 then B.x1 else B.y1
def isBox(F:Nat->Nat->Value)(b c:Nat)(B:Bx):Prop:=fz (F b (c+1)) B.x0/\fz (F b (c+2)) B.y0/\fz (F b (c+3)) B.x1/\fz (F b (c+4)) B.y1
theorem isBox.lo{F:Nat->Nat->Value}{b c:Nat}{B:Bx}(h:isBox F b c B){k:Nat}(hk:k<2):fz (F b (c+1+k)) (B.lo k):=by
 unfold Bx.lo
 match k,hk with
 | 0,_=>exact h.1
 | 1,_=>exact h.2.1
theorem isBox.hi{F:Nat->Nat->Value}{b c:Nat}{B:Bx}(h:isBox F b c B){k:Nat}(hk:k<2):fz (F b (c+3+k)) (B.hi k):=by
 unfold Bx.hi
 match k,hk with
 | 0,_=>exact h.2.2.1
 | 1,_=>exact h.2.2.2
def hasB(A B:Bx):Prop:=A.x0<=B.x0/\A.y0<=B.y0/\B.x1<=A.x1/\B.y1<=A.y1
instance (A B:Bx):Decidable (hasB A B):=by unfold hasB;infer_instance
def joinB(A B:Bx):Bx:=⟨if B.x0<A.x0 then B.x0 else A.x0,if B.y0<A.y0 then B.y0 else A.y0,if A.x1<B.x1 then B.x1 else A.x1,if A.y1<B.y1 then B.y1 else A.y1⟩
theorem joinB_has(A B:Bx)(h:hasB A B):joinB A B=A:=by
 unfold hasB at h;cases A;cases B;simp only[joinB,Bx.mk.injEq]at h ⊢;refine⟨if_neg (by omega),if_neg (by omega),if_neg (by omega),if_neg (by omega)⟩
def tight(B:Bx)(l:List Bx):Prop:=(∀ a∈l,hasB B a)/\(l≠[]->(∃ a∈l,a.x0=B.x0)/\(∃ a∈l,a.y0=B.y0)/\(∃ a∈l,a.x1=B.x1)/\(∃ a∈l,a.y1=B.y1))
theorem tight_one(B:Bx):tight B [B]:=⟨λa ha=>by simp at ha;subst ha;exact⟨Int.le_refl _,Int.le_refl _,Int.le_refl _,Int.le_refl _⟩,λ_=>⟨⟨B,by simp⟩,⟨B,by simp⟩,⟨B,by simp⟩,⟨B,by simp⟩⟩⟩
theorem tight_perm{B:Bx}{l l':List Bx}(h:l.Perm l')(ht:tight B l):tight B l':=by
 refine⟨λa ha=>ht.1 a (h.mem_iff.2 ha),λhn=>?_⟩;have hn':l≠[]:=λe=>hn (by rw[e]at h;exact h.nil_eq.symm)
 obtain⟨⟨a,h1,h2⟩,⟨b,h3,h4⟩,⟨c,h5,h6⟩,⟨d,h7,h8⟩⟩:=ht.2 hn';exact⟨⟨a,h.mem_iff.1 h1,h2⟩,⟨b,h.mem_iff.1 h3,h4⟩,⟨c,h.mem_iff.1 h5,h6⟩,⟨d,h.mem_iff.1 h7,h8⟩⟩
theorem tight_add{B C:Bx}{l:List Bx}(hn:l≠[])(ht:tight B l):tight (joinB B C) (l++[C]):=by
 obtain⟨h0,h⟩:=ht;obtain⟨⟨a,h1,h2⟩,⟨b,h3,h4⟩,⟨c,h5,h6⟩,⟨d,h7,h8⟩⟩:=h hn;refine⟨λx hx=>?_,λ_=>⟨?_,?_,?_,?_⟩⟩
 ·rcases List.mem_append.1 hx with hx|hx
  ·have:=h0 x hx;unfold hasB at this ⊢;simp only[joinB];refine⟨?_,?_,?_,?_⟩ <;> split <;> omega
  ·simp at hx;subst hx;unfold hasB;simp only[joinB];refine⟨?_,?_,?_,?_⟩ <;> split <;> omega
 ·by_cases e:C.x0<B.x0
  ·exact⟨C,by simp,by simp[joinB,e]⟩
  ·exact⟨a,by simp[h1],by simp[joinB,e,h2]⟩
 ·by_cases e:C.y0<B.y0
  ·exact⟨C,by simp,by simp[joinB,e]⟩
  ·exact⟨b,by simp[h3],by simp[joinB,e,h4]⟩
 ·by_cases e:B.x1<C.x1
  ·exact⟨C,by simp,by simp[joinB,e]⟩
  ·exact⟨c,by simp[h5],by simp[joinB,e,h6]⟩
 ·by_cases e:B.y1<C.y1
  ·exact⟨C,by simp,by simp[joinB,e]⟩
  ·exact⟨d,by simp[h7],by simp[joinB,e,h8]⟩
noncomputable def zI(v:Value):Int:=V (fltV v) / 2 ^ U1
theorem fz.zI{v:Value}{n:Int}(h:fz v n):zI v=n:=by
 unfold Go.Proofs.Try.Sx.zI;rw[h.2.1.2];exact Int.mul_ediv_cancel _ (by have:=pow_pos' U1;omega)
noncomputable def bxOf(F:Nat->Nat->Value)(b c:Nat):Bx:=⟨zI (F b (c+1)),zI (F b (c+2)),zI (F b (c+3)),zI (F b (c+4))⟩
theorem isBox.bxOf{F:Nat->Nat->Value}{b c:Nat}{B:Bx}(h:isBox F b c B):bxOf F b c=B:=by
 obtain⟨h1,h2,h3,h4⟩:=h;cases B;simp only[Go.Proofs.Try.Sx.bxOf,h1.zI,h2.zI,h3.zI,h4.zI]
def okR(q:RM)(b c:Nat):Prop:=q.D b/\c+5<=q.S b/\isBox q.F b c (bxOf q.F b c)
theorem okR.mk'{q:RM}{b c:Nat}{B:Bx}(hD:q.D b)(hS:c+5<=q.S b)(h:isBox q.F b c B):okR q b c:=⟨hD,hS,by rw[h.bxOf];exact h⟩
def sameBut(q q':RM)(W:Nat->Nat->Prop):Prop:=q'.D=q.D/\q'.S=q.S/\∀ b c,¬W b c->q'.F b c=q.F b c
theorem sameBut.refl(q:RM)(W:Nat->Nat->Prop):sameBut q q W:=⟨rfl,rfl,λ_ _ _=>rfl⟩
theorem sameBut.trans{q q' q'':RM}{W W' W'':Nat->Nat->Prop}(h:sameBut q q' W)(h':sameBut q' q'' W')(h1:∀ b c,W b c->W'' b c)(h2:∀ b c,W' b c->W'' b c):sameBut q q'' W'' :=
 ⟨h'.1.trans h.1,h'.2.1.trans h.2.1,λb c hw=>(h'.2.2 b c λhw'=>hw (h2 b c hw')).trans (h.2.2 b c λhw'=>hw (h1 b c hw'))⟩
structure En where
 v:Value
 B:Bx
structure isNd (q:RM) (b:Nat) (l:List En):Prop where
 D:q.D b
 S:q.S b=86
 n:q.F b 0=.int .i64 (l.length:Nat)
 le:l.length<=17
 v:∀ j e,l[j]? = some e->q.F b (1+5*j)=e.v
 o:∀(j:Nat)(e:En),l[j]? = some e->e.v.oneCell'=true
 B:∀ j e,l[j]? = some e->isBox q.F b (1+5*j) e.B
theorem isNd.okR{q:RM}{b:Nat}{l:List En}(h:isNd q b l){j:Nat}{e:En}(hj:l[j]? = some e):okR q b (1+5*j):=by
 refine okR.mk' h.D ?_ (h.B j e hj);have:=(List.getElem?_eq_some_iff.1 hj).1;have:=h.le;rw[h.S];omega
theorem isNd.same{q q':RM}{b:Nat}{l:List En}(h:isNd q b l)(hD:q'.D b)(hS:q'.S b=q.S b)(hF:∀ c,q'.F b c=q.F b c):isNd q' b l where
 D:=hD
 S:=hS.trans h.S
 n:=(hF 0).trans h.n
 le:=h.le
 v:=λj e hj=>(hF _).trans (h.v j e hj)
 o:=h.o
 B:=λj e hj=>by
  obtain⟨h1,h2,h3,h4⟩:=h.B j e hj;exact⟨by rw[hF];exact h1,by rw[hF];exact h2,by rw[hF];exact h3,by rw[hF];exact h4⟩
theorem isNd.push{q q':RM}{b:Nat}{l:List En}(h:isNd q b l)(hl:l.length<17)(hD:q'.D b)(hS:q'.S b=q.S b){e:En}(ho:e.v.oneCell'=true)(hn:q'.F b 0=.int .i64 (l.length+1:Nat))
  (hv:q'.F b (1+5*l.length)=e.v) (hB:isBox q'.F b (1+5*l.length) e.B) (hF:∀ c,1<=c->c<1+5*l.length->q'.F b c=q.F b c):isNd q' b (l++[e]) where
 D:=hD
 S:=hS.trans h.S
 n:=by rw[hn];simp
 le:=by simp;omega
 v:=λj x hj=>by
  by_cases hc:j<l.length
  ·rw[List.getElem?_append_left hc]at hj;rw[hF _ (by omega) (by omega)];exact h.v j x hj
  ·have hjl:j=l.length:=by
    have:=(List.getElem?_eq_some_iff.1 hj).1;simp at this;omega
   subst hjl;simp at hj;subst hj;exact hv
 o:=λj x hj=>by
  rcases List.mem_append.1 (List.mem_of_getElem? hj)with h1|h1
  ·obtain⟨i,hi,h2⟩:=List.getElem_of_mem h1;exact h.o i x (by rw[List.getElem?_eq_getElem hi,h2])
  ·simp at h1;subst h1;exact ho
 B:=λj x hj=>by
  by_cases hc:j<l.length
  ·rw[List.getElem?_append_left hc]at hj;obtain⟨h1,h2,h3,h4⟩:=h.B j x hj;exact⟨by rw[hF _ (by omega) (by omega)];exact h1,by rw[hF _ (by omega) (by omega)];exact h2,by rw[hF _ (by omega) (by omega)];exact h3,by rw[hF _ (by omega) (by omega)];exact h4⟩
  ·have hjl:j=l.length:=by
    have:=(List.getElem?_eq_some_iff.1 hj).1;simp at this;omega
   subst hjl;simp at hj;subst hj;exact hB
def swapR(l:List En)(i:Nat):List En:=(match l.getLast? with|some e=>l.set i e|none=>l).dropLast
theorem swapR_perm{l:List En}{i:Nat}{e:En}(h:l[i]? = some e):l.Perm (e :: swapR l i):=by
 obtain⟨hi,rfl⟩:=List.getElem?_eq_some_iff.1 h;rcases List.eq_nil_or_concat l with rfl|⟨m,x,hm⟩
 ·simp at hi
 ·have hm:l=m++[x]:=by simpa using hm
  subst hm;simp only[swapR,List.getLast?_concat];by_cases hc:i<m.length
  ·rw[List.set_append_left _ _ hc,List.dropLast_concat,List.getElem_append_left hc];have h1:(m.set i x)=m.take i++x :: m.drop (i+1):=List.set_eq_take_append_cons_drop.trans (by rw[if_pos hc])
   have h2:m=m.take i++m[i] :: m.drop (i+1):=by
    conv=>lhs;rw[<-List.take_append_drop i m]
    rw[List.drop_eq_getElem_cons hc]
   rw[h1]
   conv=>lhs;rw[h2]
   rw[List.append_assoc];refine(List.perm_middle).trans (List.Perm.cons _ ?_);exact(List.Perm.append_left _ (List.perm_append_singleton x (m.drop (i+1))))
  ·have:i=m.length:=by simp at hi;omega
   subst this;simp
theorem swapR_length{l:List En}{i:Nat}(_:i<l.length):(swapR l i).length=l.length-1:=by
 unfold swapR;split <;> simp
theorem swapR_get{l:List En}{i j:Nat}(hi:i<l.length)(hj:j<l.length-1):(swapR l i)[j]? = if j=i then l[l.length-1]? else l[j]? := by
 rcases List.eq_nil_or_concat l with rfl|⟨m,x,hm⟩
 ·simp at hi
 ·have hm:l=m++[x]:=by simpa using hm
  subst hm;simp only[List.length_append,List.length_cons,List.length_nil,Nat.zero_add,Nat.add_sub_cancel]at hi hj ⊢;simp only[swapR,List.getLast?_concat,List.getElem?_dropLast,List.length_set,List.length_append,List.length_cons,List.length_nil,Nat.zero_add,Nat.add_sub_cancel,hj,if_true];rw[List.getElem?_set];by_cases hc:i=j
  ·subst hc;simp[hi]
  ·rw[if_neg hc,if_neg (λe=>hc e.symm)]
structure Kid where
 b:Nat
 fp:List Nat
 its:List (Int×Bx)
 B:Bx
 n:Nat
def leafE(x:Int×Bx):En:=⟨.iface 3 (.int .i64 x.1),x.2⟩
def kidE(k:Kid):En:=⟨.iface 134 (.pointer (some ⟨k.b,0,none⟩)),k.B⟩
def isTr(q:RM):Nat->Kid->Prop
 | 0,k=>k.fp=[k.b]/\k.n=k.its.length/\isNd q k.b (k.its.map leafE)/\tight k.B (k.its.map (·.2))
 | h+1,k=>∃ ks:List Kid,k.n=ks.length/\1<=k.n/\k.fp=k.b :: ks.flatMap (·.fp)/\k.its=ks.flatMap (·.its)/\isNd q k.b (ks.map kidE)/\tight k.B (ks.map (·.B))/\∀ x∈ks,isTr q h x/\1<=x.n/\x.n<=16
theorem isTr.nd{q:RM}:∀ {h:Nat} {k:Kid},isTr q h k->∃ l:List En,isNd q k.b l/\l.length=k.n/\tight k.B (l.map (·.B))
 | 0,k,⟨_,h2,h3,h4⟩=>⟨_,h3,by simp[h2],by simpa [List.map_map,leafE,Function.comp_def]using h4⟩
 | h+1,k,⟨ks,h1,_,_,_,h5,h6,_⟩=>⟨_,h5,by simp[h1],by simpa [List.map_map,kidE,Function.comp_def]using h6⟩
theorem isTr.fp0{q:RM}:∀ {h:Nat} {k:Kid},isTr q h k->k.b∈k.fp
 | 0,k,⟨h1,_⟩=>by rw[h1];simp
 | h+1,k,⟨ks,_,_,h3,_⟩=>by rw[h3];simp
theorem isTr.D{q:RM}:∀ {h:Nat} {k:Kid},isTr q h k->∀ b∈k.fp,q.D b
 | 0,k,⟨h1,_,h3,_⟩,b,hb=>by rw[h1]at hb;simp at hb;subst hb;exact h3.D
 | h+1,k,⟨ks,_,_,h3,_,h5,_,h7⟩,b,hb=>by
  rw[h3]at hb;rcases List.mem_cons.1 hb with rfl|hb
  ·exact h5.D
  ·obtain⟨x,hx,hb⟩:=List.mem_flatMap.1 hb;exact(h7 x hx).1.D b hb
theorem isTr.same{q q':RM}:∀ {h:Nat} {k:Kid},isTr q h k->(∀ b∈k.fp,q'.D b/\q'.S b=q.S b/\∀ c,q'.F b c=q.F b c)->isTr q' h k
 | 0,k,⟨h1,h2,h3,h4⟩,hs=>⟨h1,h2,h3.same (hs k.b (by rw[h1];simp)).1 (hs k.b (by rw[h1];simp)).2.1 (hs k.b (by rw[h1];simp)).2.2,h4⟩
 | h+1,k,⟨ks,h1,h2,h3,h4,h5,h6,h7⟩,hs=>⟨ks,h1,h2,h3,h4,h5.same (hs k.b (by rw[h3];simp)).1 (hs k.b (by rw[h3];simp)).2.1 (hs k.b (by rw[h3];simp)).2.2,h6,
   λx hx=>⟨(h7 x hx).1.same λb hb=>hs b (by rw[h3];exact List.mem_cons_of_mem _ (List.mem_flatMap.2 ⟨x,hx,hb⟩)),(h7 x hx).2⟩⟩
def X0:RCtx:=⟨G0,[],[],[],[]⟩
theorem x0:RCtxOk Try.prog X0:=⟨g0,RGamOk.nil⟩
noncomputable def rHasBC:List SV->RRd (Unit)
 | [.pb n rb rc, .pb n1 bb bc]=>.read n λo0=>(match rawOf o0 with
  | some (ts,q)=>.ret ⟨[.pb 0 rb rc, .pb 0 bb bc],[(0,rwO ts q)],some (n=n1/\(okR q rb rc/\okR q bb bc)),λ_i=>True,λ_i=>⟨[],[], .bool (decide (hasB (bxOf q.F rb rc) (bxOf q.F bb bc))),[(0,rwO ts (q))],[],none⟩⟩
  | none=>.fail)
 | _=>.fail
theorem vc_rHasB(R:Option Ob->SV->Prop)(ts:List Nat)(q:RM)(rb rc bb bc:Nat){T1}(t1:T1=(Option.some (Ob.mk true 0 (Cont.raw ts (RM.D q) q.2 q.3) 0))){T2}(t2:T2=((0:Int)<=0/\(0:Int)<2)){T3}(t3:T3=((0:Int)<=1/\(1:Int)<2)){T4}(t4:T4=((0:Int)<=2/\(2:Int)<2)){T5}(t5:T5=(q.3 bb (bc+1+0))){T6}(t6:T6=(q.3
 rb (rc+1+0))){T7}(t7:T7=(q.3 bb (bc+1+1))){T8}(t8:T8=(q.3 rb (rc+1+1))){T9}(t9:T9=(q.3 bb (bc+1+2))){T10}(t10:T10=(q.3 rb (rc+1+2))){T11}(t11:T11=(q.1 rb/\rc+1+2<q.2 rb/\isFlt .f64 T10)){T12}(t12:T12=(q.1 bb/\bc+1+0
 < q.2 bb/\isFlt .f64 T5)){T13}(t13:T13=(q.1 rb/\rc+1+0<q.2 rb/\isFlt .f64 T6)){T14}(t14:T14=(q.1 bb/\bc+1+1<q.2 bb/\isFlt .f64 T7)){T15}(t15:T15=(q.1 rb/\rc+1+1<q.2 rb/\isFlt .f64 T8)){T16}(t16:T16=(q.1 bb/\bc+1+2<q.2
 bb/\isFlt .f64 T9)):runG X0 1 [(2, .iter 3)] [] (codeOf Try.f64) (init Try.f64.ntmps [.pb 0 rb rc, .pb 0 bb bc] [(0,rwO ts q)] 1) (endK X0.G.E.T Try.f64.results.toList λS v=>R (Go.Sx.look S.H 0) v)=(
 (true=true->(fLt .f64 (fltV T5) (fltV T6)=true->T2/\T12/\T2/\T13/\fLt .f64 (fltV T5) (fltV T6)=true/\true=true/\R T1 SV.ff)/\(fLt .f64 (fltV T5) (fltV T6)=false->T2/\T12/\T2/\T13/\fLt .f64 (fltV T5) (fltV T6)=false/\T2/\
 (q.1 bb/\bc+3+0<q.2 bb/\isFlt .f64 (q.3 bb (bc+3+0)))/\T2/\(q.1 rb/\rc+3+0<q.2 rb/\isFlt .f64 (q.3 rb (rc+3+0)))/\true=true/\(fGt .f64 (fltV (q.3 bb (bc+3+0))) (fltV (q.3 rb (rc+3+0)))=true->R T1 SV.ff)/\(fGt
 .f64 (fltV (q.3 bb (bc+3+0))) (fltV (q.3 rb (rc+3+0)))=false->(true=true->(fLt .f64 (fltV T7) (fltV T8)=true->T3/\T14/\T3/\T15/\fLt .f64 (fltV T7) (fltV T8)=true/\true=true/\R T1 SV.ff)/\(fLt .f64 (fltV T7) (fltV T8) =
 false->T3/\T14/\((0:Int)<=1/\(1:Int)<(2:Int))/\T15/\fLt .f64 (fltV T7) (fltV T8)=false/\((0:Int)<=(1:Int)/\(1:Int)<2)/\(q.1 bb/\bc+3+1<q.2 bb/\isFlt .f64 (q.3 bb (bc+3+1)))/\T3/\(q.1 rb/\rc+3+1<q.2 rb
 /\isFlt .f64 (q.3 rb (rc+3+1)))/\true=true/\(fGt .f64 (fltV (q.3 bb (bc+3+1))) (fltV (q.3 rb (rc+3+1)))=true->R T1 SV.ff)/\(fGt .f64 (fltV (q.3 bb (bc+3+1))) (fltV (q.3 rb (rc+3+1)))=false->(false=true->(fLt .f64
 (fltV T9) (fltV T10)=true->T4/\T16/\((0:Int)<=(2:Int)/\(2:Int)<2)/\T11/\fLt .f64 (fltV T9) (fltV T10)=true/\true=true/\R T1 SV.ff)/\(fLt .f64 (fltV T9) (fltV T10)=false->T4/\T16/\T4/\T11/\fLt .f64 (fltV T9) (fltV T10) =
 false/\((0:Int)<=2/\(2:Int)<(2:Int))/\(q.1 bb/\bc+3+2<q.2 bb/\isFlt .f64 (q.3 bb (bc+3+2)))/\T4/\(q.1 rb/\rc+3+2<q.2 rb/\isFlt .f64 (q.3 rb (rc+3+2)))/\true=true/\(fGt .f64 (fltV (q.3 bb (bc+3+2))) (fltV
 (q.3 rb (rc+3+2)))=true->R T1 SV.ff)/\(fGt .f64 (fltV (q.3 bb (bc+3+2))) (fltV (q.3 rb (rc+3+2)))=false->False)))/\(false=false->R T1 SV.tt))))/\(true=false->R T1 SV.tt))))/\(true=false->R T1 SV.tt)):=by subst t1 t2 t3 t4 t5 t6 t7 t8 t9 t10 t11 t12 t13 t14 t15 t16;kernel_rfl
theorem rHasB:RConOk Try.prog 64 (rconR (Unit) ⟨()⟩ rHasBC):=by
 refine rcon_raw x0 Try.func64 rfl (by kernel_rfl) λargs=>?_
 unfold rHasBC;split
 ·rename_i n rb rc n1 bb bc;intro o0;try dsimp only;split
  ·rename_i ts q hm0;intro ho;replace ho:n=n1/\(okR q rb rc/\okR q bb bc):=ho;obtain⟨heq0,ho⟩:=ho;subst heq0;refine⟨?_,Nat.succ_pos _,ts,λ(_i:Unit)=>q,λ(_i:Unit)=>.bool (decide (hasB (bxOf q.F rb rc) (bxOf q.F bb bc))),λ_=>rfl,?_,_,_,(vc_rHasB (RPost 1 ts (λ(_i:Unit)=>True) (λ(_i:Unit)=>q) (λ(_i:Unit)=>.bool (decide (hasB (bxOf q.F rb rc) (bxOf q.F bb bc))))) ts q rb rc bb bc rfl rfl rfl rfl rfl rfl rfl rfl rfl rfl rfl rfl rfl rfl rfl rfl).mpr ?_⟩
   ·refine okFlag_mk rfl ⟨λ_=>rfl,?_,⟨trivial,obR_rawOf hm0,trivial⟩⟩;simp[eqvRL,eqvR,sgSig,fsts,nth,sameN_self]
   ·intro _i _;rfl
   ·obtain⟨⟨d1,s1,b1⟩,⟨d2,s2,b2⟩⟩:=ho;have e0:=(b2.lo (k:=0) (by omega)).lt (b1.lo (k:=0) (by omega));have e1:=(b2.lo (k:=1) (by omega)).lt (b1.lo (k:=1) (by omega));have e2:=(b2.hi (k:=0) (by omega)).gt (b1.hi (k:=0) (by omega));have e3:=(b2.hi (k:=1) (by omega)).gt (b1.hi (k:=1) (by omega));have f0:=(b2.lo (k:=0) (by omega)).flt;have f1:=(b2.lo (k:=1) (by omega)).flt;have f2:=(b2.hi (k:=0) (by omega)).flt;have f3:=(b2.hi (k:=1) (by omega)).flt;have g0:=(b1.lo (k:=0) (by omega)).flt;have g1:=(b1.lo (k:=1) (by omega)).flt;have g2:=(b1.hi (k:=0) (by omega)).flt
    have g3:=(b1.hi (k:=1) (by omega)).flt;have hR:∀ b:Bool,b=decide (hasB (bxOf q.F rb rc) (bxOf q.F bb bc))->∀ v,eqvR (tauSig 1 []) v (.bool b)->RPost 1 ts (λ_i:Unit=>True) (λ_i=>q) (λ_i=>.bool (decide (hasB (bxOf q.F rb rc) (bxOf q.F bb bc)))) (some ⟨true,0, .raw ts q.D q.S q.F,0⟩) v:=λb hb v hv=>⟨(),trivial,rfl,by subst hb;exact hv⟩
    generalize RPost 1 ts (λ_i:Unit=>True) (λ_i=>q) (λ_i=>.bool (decide (hasB (bxOf q.F rb rc) (bxOf q.F bb bc))))=R at hR ⊢;have hff:¬hasB (bxOf q.F rb rc) (bxOf q.F bb bc)->R (some ⟨true,0, .raw ts q.D q.S q.F,0⟩) .ff:=λh=>hR false (decide_eq_false h).symm _ rfl
    have htt:hasB (bxOf q.F rb rc) (bxOf q.F bb bc)->R (some ⟨true,0, .raw ts q.D q.S q.F,0⟩) .tt:=λh=>hR true (decide_eq_true h).symm _ rfl
    clear hR;simp only[Bx.lo,Bx.hi,if_true,show ¬(1=0)from by omega,if_false]at e0 e1 e2 e3;simp only[e0,e1,e2,e3,f0,f1,f2,f3,g0,g1,g2,g3,d1,d2,true_and,and_true];unfold hasB at hff htt;grind
  ·trivial
 ·trivial
def joinP(i j:Nat)(A B:Bx):Bx:=⟨if 0<i/\B.x0<A.x0 then B.x0 else A.x0,if 1<i/\B.y0<A.y0 then B.y0 else A.y0,if 0<j/\A.x1<B.x1 then B.x1 else A.x1,if 1<j/\A.y1<B.y1 then B.y1 else A.y1⟩
def rW(rb rc:Nat):Nat->Nat->Prop:=λb c=>b=rb/\rc+1<=c/\c<rc+5
def apart(rb rc bb bc:Nat):Prop:=rb≠bb∨rc+5<=bc∨bc+5<=rc
def exI(q:RM)(rb rc bb bc i j:Nat)(q':RM):Prop:=sameBut q q' (rW rb rc)/\isBox q'.F rb rc (joinP i j (bxOf q.F rb rc) (bxOf q.F bb bc))
def exSt(ts:List Nat)(rb rc bb bc i:Nat)(q:RM):St:=⟨57,[(0, .pb 0 rb rc),(1, .pb 0 bb bc),(4, .int .i64 i)],[(0,rwO ts q)],1⟩
def exL(ts:List Nat)(q:RM)(rb rc bb bc:Nat):LFam :=
 ⟨⟨Nat×RM,λp=>exSt ts rb rc bb bc p.1 p.2,λp=>p.1<=2/\exI q rb rc bb bc p.1 p.1 p.2,λp=>2-p.1⟩,λp=>[(5,⟨RM,λq'=>exSt ts rb rc bb bc p.1 q',λq'=>p.1<2/\exI q rb rc bb bc (p.1+1) p.1 q',λ_=>0⟩)]⟩
theorem isBox_iff{F:Nat->Nat->Value}{b c:Nat}{B:Bx}:isBox F b c B↔∀ k,k<2->fz (F b (c+1+k)) (B.lo k)/\fz (F b (c+3+k)) (B.hi k) :=
 ⟨λh k hk=>⟨h.lo hk,h.hi hk⟩,λh=>⟨(h 0 (by omega)).1,(h 1 (by omega)).1,(h 0 (by omega)).2,(h 1 (by omega)).2⟩⟩
theorem joinP_lo(i j k:Nat)(A B:Bx)(hk:k<2):(joinP i j A B).lo k=if k<i/\B.lo k<A.lo k then B.lo k else A.lo k:=by
 match k,hk with
 | 0,_=>rfl
 | 1,_=>rfl
theorem joinP_hi(i j k:Nat)(A B:Bx)(hk:k<2):(joinP i j A B).hi k=if k<j/\A.hi k<B.hi k then B.hi k else A.hi k:=by
 match k,hk with
 | 0,_=>rfl
 | 1,_=>rfl
theorem joinP_two(A B:Bx):joinP 2 2 A B=joinB A B:=by
 unfold joinP joinB;simp
theorem joinP_zero(A B:Bx):joinP 0 0 A B=A:=by
 cases A;simp[joinP]
section
variable {q q':RM} {rb rc bb bc i j:Nat} (h1:okR q rb rc) (h2:okR q bb bc) (ha:apart rb rc bb bc) (h:exI q rb rc bb bc i j q')
include h1 h2 ha h
theorem exI.rd{k:Nat}(hk:k<2):fz (q'.F bb (bc+1+k)) ((bxOf q.F bb bc).lo k)/\fz (q'.F bb (bc+3+k)) ((bxOf q.F bb bc).hi k)/\fz (q'.F rb (rc+1+k)) ((joinP i j (bxOf q.F rb rc) (bxOf q.F bb bc)).lo k)/\fz (q'.F rb (rc+3+k)) ((joinP i j (bxOf q.F rb rc) (bxOf q.F bb bc)).hi k):=by
 have _:=h1;have off:∀ c,bc+1<=c->c<bc+5->q'.F bb c=q.F bb c:=λc c1 c2=>h.1.2.2 bb c (by unfold apart at ha;unfold rW;omega)
 refine⟨?_,?_,h.2.lo hk,h.2.hi hk⟩
 ·rw[off _ (by omega) (by omega)];exact h2.2.2.lo hk
 ·rw[off _ (by omega) (by omega)];exact h2.2.2.hi hk
theorem exI.dom:q'.D bb/\q'.D rb/\bc+5<=q'.S bb/\rc+5<=q'.S rb:=by
 have _:=ha;rw[h.1.1,h.1.2.1];exact⟨h2.1,h1.1,h2.2.1,h1.2.1⟩
theorem exI.lo1(hi:i<2)(hlt:fLt .f64 (fltV (q'.F bb (bc+1+i))) (fltV (q'.F rb (rc+1+i)))=true) :
  exI q rb rc bb bc (i+1) j ⟨q'.D,q'.S,updN q'.F rb (rc+1+i) (.float .f64 (fltV (q'.F bb (bc+1+i))))⟩:=by
 obtain⟨r1,r2,r3,r4⟩:=exI.rd h1 h2 ha h hi;rw[r1.lt r3,joinP_lo _ _ _ _ _ hi,if_neg (by omega),decide_eq_true_eq]at hlt;refine⟨⟨h.1.1,h.1.2.1,λb c hw=>(updN_off (by unfold rW at hw;omega)).trans (h.1.2.2 b c hw)⟩,isBox_iff.2 λk hk=>?_⟩;obtain⟨t1,t2⟩:=isBox_iff.1 h.2 k hk;rw[joinP_lo _ _ _ _ _ hk]at t1 ⊢;rw[joinP_hi _ _ _ _ _ hk]at t2 ⊢;refine⟨?_,?_⟩
 ·by_cases e:k=i
  ·subst e;show fz (updN q'.F rb (rc+1+k) _ rb (rc+1+k)) _;rw[updN_eq,if_pos ⟨by omega,hlt⟩,<-r1.1];exact r1
  ·show fz (updN q'.F rb (rc+1+i) _ rb (rc+1+k)) _;rw[updN_off (by omega)];have:(k<i+1/\(bxOf q.F bb bc).lo k<(bxOf q.F rb rc).lo k)↔(k<i/\(bxOf q.F bb bc).lo k<(bxOf q.F rb rc).lo k):=by omega
   simp only[this];exact t1
 ·show fz (updN q'.F rb (rc+1+i) _ rb (rc+3+k)) _;rw[updN_off (by omega)];exact t2
theorem exI.lo0(hi:i<2)(hlt:fLt .f64 (fltV (q'.F bb (bc+1+i))) (fltV (q'.F rb (rc+1+i)))=false):exI q rb rc bb bc (i+1) j q':=by
 obtain⟨r1,r2,r3,r4⟩:=exI.rd h1 h2 ha h hi;rw[r1.lt r3,joinP_lo _ _ _ _ _ hi,if_neg (by omega),decide_eq_false_iff_not]at hlt;refine⟨h.1,isBox_iff.2 λk hk=>?_⟩;obtain⟨t1,t2⟩:=isBox_iff.1 h.2 k hk;rw[joinP_lo _ _ _ _ _ hk]at t1 ⊢;rw[joinP_hi _ _ _ _ _ hk]at t2 ⊢;refine⟨?_,t2⟩
 have:(k<i+1/\(bxOf q.F bb bc).lo k<(bxOf q.F rb rc).lo k)↔(k<i/\(bxOf q.F bb bc).lo k<(bxOf q.F rb rc).lo k):=by
  by_cases e:k=i
  ·subst e;omega
  ·omega
 simp only[this];exact t1
theorem exI.hi1(hi:j<2)(hlt:fGt .f64 (fltV (q'.F bb (bc+3+j))) (fltV (q'.F rb (rc+3+j)))=true) :
  exI q rb rc bb bc i (j+1) ⟨q'.D,q'.S,updN q'.F rb (rc+3+j) (.float .f64 (fltV (q'.F bb (bc+3+j))))⟩:=by
 obtain⟨r1,r2,r3,r4⟩:=exI.rd h1 h2 ha h hi;rw[r2.gt r4,joinP_hi _ _ _ _ _ hi,if_neg (by omega),decide_eq_true_eq]at hlt;refine⟨⟨h.1.1,h.1.2.1,λb c hw=>(updN_off (by unfold rW at hw;omega)).trans (h.1.2.2 b c hw)⟩,isBox_iff.2 λk hk=>?_⟩;obtain⟨t1,t2⟩:=isBox_iff.1 h.2 k hk;rw[joinP_lo _ _ _ _ _ hk]at t1 ⊢;rw[joinP_hi _ _ _ _ _ hk]at t2 ⊢;refine⟨?_,?_⟩
 ·show fz (updN q'.F rb (rc+3+j) _ rb (rc+1+k)) _;rw[updN_off (by omega)];exact t1
 ·by_cases e:k=j
  ·subst e;show fz (updN q'.F rb (rc+3+k) _ rb (rc+3+k)) _;rw[updN_eq,if_pos ⟨by omega,hlt⟩,<-r2.1];exact r2
  ·show fz (updN q'.F rb (rc+3+j) _ rb (rc+3+k)) _;rw[updN_off (by omega)];have:(k<j+1/\(bxOf q.F rb rc).hi k<(bxOf q.F bb bc).hi k)↔(k<j/\(bxOf q.F rb rc).hi k<(bxOf q.F bb bc).hi k):=by omega
   simp only[this];exact t2
theorem exI.hi0(hi:j<2)(hlt:fGt .f64 (fltV (q'.F bb (bc+3+j))) (fltV (q'.F rb (rc+3+j)))=false):exI q rb rc bb bc i (j+1) q':=by
 obtain⟨r1,r2,r3,r4⟩:=exI.rd h1 h2 ha h hi;rw[r2.gt r4,joinP_hi _ _ _ _ _ hi,if_neg (by omega),decide_eq_false_iff_not]at hlt;refine⟨h.1,isBox_iff.2 λk hk=>?_⟩;obtain⟨t1,t2⟩:=isBox_iff.1 h.2 k hk;rw[joinP_lo _ _ _ _ _ hk]at t1 ⊢;rw[joinP_hi _ _ _ _ _ hk]at t2 ⊢;refine⟨t1,?_⟩
 have:(k<j+1/\(bxOf q.F rb rc).hi k<(bxOf q.F bb bc).hi k)↔(k<j/\(bxOf q.F rb rc).hi k<(bxOf q.F bb bc).hi k):=by
  by_cases e:k=j
  ·subst e;omega
  ·omega
 simp only[this];exact t2
end
noncomputable def rJoinC:List SV->RRd (RM)
 | [.pb n rb rc, .pb n1 bb bc]=>.read n λo0=>(match rawOf o0 with
  | some (ts,q)=>.ret ⟨[.pb 0 rb rc, .pb 0 bb bc],[(0,rwO ts q)],some (n=n1/\(okR q rb rc/\okR q bb bc/\apart rb rc bb bc)),λi=>exI q rb rc bb bc 2 2 i,λi=>⟨[],[], .tup [],[(0,rwO ts (i))],[],none⟩⟩
  | none=>.fail)
 | _=>.fail
theorem vc_rJoin(R:Option Ob->SV->Prop)(ts:List Nat)(q:RM)(rb rc bb bc:Nat){T1}(t1:T1=λ(i:Nat×RM)=>(↑(i.1):Int)){T2}(t2:T2=λ(i:Nat×RM)=>((i.2).3 bb (bc+1+Int.toNat (T1 i)*1))){T3}(t3:T3=(True/\rb=rb/\rc=rc)){T4}(t4:T4=(True/\bb=bb/\bc=bc)){T5}(t5:T5=λ(i:Nat×RM) (j:RM)=>(j.3 bb (bc+3 +
 Int.toNat (T1 i)*1))){T6}(t6:T6=λ(pq:Nat×RM)=>(pq.1<=2/\exI q rb rc bb bc (pq.1) (pq.1) (pq.2))){T7}(t7:T7=λ(i:Nat×RM)=>((i.2).3 rb (rc+1+Int.toNat (T1 i)*1))){T8}(t8:T8=λ(i:Nat×RM)=>(rc+3+Int.toNat (T1 i) *
 1)){T9}(t9:T9=λ(i:Nat×RM)=>(0<=(T1 i)/\(T1 i)<2)):runG X0 1 [(1,exL ts q rb rc bb bc)] [] (codeOf Try.f59) (init Try.f59.ntmps [.pb 0 rb rc, .pb 0 bb bc] [(0,rwO ts q)] 1) (endK X0.G.E.T Try.f59.results.toList λS v=>R (Go.Sx.look S.H 0) v)=(
 (∃(pq:Nat×RM),(T6 pq)/\(T3/\T4/\0=(↑(pq.1):Int)/\True)/\True/\(0=0/\0=0/\ts=ts/\q.3=(pq.2).3/\q.2=(pq.2).2/\RM.D q=RM.D (pq.2))/\True)/\∀(i:Nat×RM),i.1<=2/\exI q rb rc bb bc (i.1) (i.1) (i.2)->(decide ((T1
 i)<2)=true->((T9 i)/\((i.2).1 bb/\bc+1+Int.toNat (T1 i)*1<(Prod.snd i).2 bb/\isFlt .f64 (T2 i))/\(T9 i)/\((i.2).1 rb/\rc+1+Int.toNat (T1 i)*1<(i.2).2 rb/\isFlt .f64 (T7 i))/\true=true/\(fLt .f64 (fltV (T2 i)) (fltV (T7
 i))=true->(T9 i)/\((i.2).1 bb/\bc+1+Int.toNat (T1 i)*1<(i.2).2 bb/\isFlt .f64 (T2 i))/\(T9 i)/\((i.2).1 rb/\rc+1+Int.toNat (T1 i)*1+1<=(i.2).2 rb)/\true=true/\∃(pq:RM),(i.1<2/\exI q rb rc bb bc (i.1+1) (i.1) pq)
 /\(T3/\T4/\(T1 i)=(T1 i)/\True)/\True/\(0=0/\0=0/\ts=ts/\updN (i.2).3 rb (rc+1+Int.toNat (T1 i)*1) (Value.float .f64 (fltV (T2 i)))=pq.3/\(i.2).2=pq.2/\RM.D (i.2)=RM.D pq)/\True)/\(fLt .f64 (fltV (T2 i)) (fltV (T7 i))
 = false->∃(pq:RM),(i.1<2/\exI q rb rc bb bc (i.1+1) (i.1) pq)/\(T3/\T4/\(T1 i)=(T1 i)/\True)/\True/\(0=0/\0=0/\ts=ts/\(i.2).3=pq.3/\(i.2).2=pq.2/\RM.D (i.2)=RM.D pq)/\True))/\∀(j:RM),i.1<2/\exI q rb rc bb
 bc (i.1+1) (i.1) j->((0:Int)<=(T1 i)/\(T1 i)<2)/\(j.1 bb/\bc+3+Int.toNat (T1 i)*1<j.2 bb/\isFlt .f64 (T5 i j))/\((0:Int)<=(T1 i)/\(T1 i)<2)/\(j.1 rb/\rc+3+Int.toNat (T1 i)*1<j.2 rb/\isFlt .f64 (j.3 rb (T8 i)))/\
 true=true/\(fGt .f64 (fltV (T5 i j)) (fltV (j.3 rb (T8 i)))=true->(0<=(T1 i)/\(T1 i)<(2:Int))/\(j.1 bb/\bc+3+Int.toNat (T1 i)*1<j.2 bb/\isFlt .f64 (T5 i j))/\(0<=(T1 i)/\(T1 i)<(2:Int))/\(j.1 rb/\rc+3+Int.toNat (T1
 i)*1+1<=j.2 rb)/\true=true/\∃(pq:Nat×RM),(T6 pq)/\2-pq.1<2-i.1/\(T3/\T4/\IntKind.wrap .i64 ((T1 i)+1)=(↑(pq.1):Int)/\True)/\True/\(0=0/\0=0/\ts=ts/\updN j.3 rb (T8 i) (Value.float .f64 (fltV (T5 i j))) =
 (pq.2).3/\j.2=(pq.2).2/\RM.D j=RM.D (pq.2))/\True)/\(fGt .f64 (fltV (T5 i j)) (fltV (j.3 rb (T8 i)))=false->∃(pq:Nat×RM),(T6 pq)/\2-pq.1<2-i.1/\(T3/\T4/\IntKind.wrap .i64 ((T1 i)+1)=(↑(pq.1):Int)/\True)/\True/\(0 =
 0/\0=0/\ts=ts/\j.3=(pq.2).3/\j.2=(pq.2).2/\RM.D j=RM.D (pq.2))/\True))/\(decide ((T1 i)<2)=false->R (Option.some (Ob.mk true 0 (Cont.raw ts (RM.D (i.2)) (i.2).2 (i.2).3) 0)) (SV.tup []))):=by subst t1 t2 t3 t4 t5 t6 t7 t8 t9;kernel_rfl
theorem rJoin:RConOk Try.prog 59 (rconR (RM) ⟨default⟩ rJoinC):=by
 refine rcon_raw x0 Try.func59 rfl (by kernel_rfl) λargs=>?_
 unfold rJoinC;split
 ·rename_i n rb rc n1 bb bc;intro o0;try dsimp only;split
  ·rename_i ts q hm0;intro ho;replace ho:n=n1/\(okR q rb rc/\okR q bb bc/\apart rb rc bb bc):=ho;obtain⟨heq0,ho⟩:=ho;subst heq0;refine⟨?_,Nat.succ_pos _,ts,λ(i:RM)=>i,λ(i:RM)=>.tup [],λ_=>rfl,?_,_,_,(vc_rJoin (RPost 1 ts (λ(i:RM)=>exI q rb rc bb bc 2 2 i) (λ(i:RM)=>i) (λ(i:RM)=>.tup [])) ts q rb rc bb bc rfl rfl rfl rfl rfl rfl rfl rfl rfl).mpr ?_⟩
   ·refine okFlag_mk rfl ⟨λ_=>rfl,?_,⟨trivial,obR_rawOf hm0,trivial⟩⟩;simp[eqvRL,eqvR,sgSig,fsts,nth,sameN_self]
   ·intro i _;rfl
   ·obtain⟨o1,o2,hap⟩:=ho;have hw:∀ i:Nat,i<2->IntKind.wrap .i64 ((i:Int)+1)=((i+1:Nat):Int):=λi hi=>by rw[wrap64 (by omega) (by omega)];omega
    refine⟨⟨(0,q),⟨by show 0<=2;omega,sameBut.refl _ _,by rw[joinP_zero];exact o1.2.2⟩,(by and_intros <;> first|trivial|rfl|(rw[wrap64 (by omega) (by omega)];first|rfl|omega))⟩,?_⟩;rintro⟨i,q'⟩ ⟨hi,hq⟩;replace hi:i<=2:=hi;replace hq:exI q rb rc bb bc i i q':=hq;simp only[true_and,and_true,eq_self,Int.toNat_natCast,Nat.mul_one,decide_eq_true_eq,decide_eq_false_iff_not];refine⟨λhlt=>⟨?_,?_⟩,λhge=>?_⟩
    ·have hi2:i<2:=by omega
     obtain⟨m1,m2,m3,m4⟩:=exI.dom o1 o2 hap hq;obtain⟨r1,r2,r3,r4⟩:=exI.rd o1 o2 hap hq hi2;refine⟨⟨by omega,by omega⟩,⟨m1,by omega,r1.flt⟩,⟨by omega,by omega⟩,⟨m2,by omega,r3.flt⟩,λhc=>⟨⟨by omega,by omega⟩,⟨m1,by omega,r1.flt⟩,⟨by omega,by omega⟩,⟨m2,by omega⟩,⟨_,_,_⟩,⟨hi2,exI.lo1 o1 o2 hap hq hi2 hc⟩,(by and_intros <;> first|trivial|rfl|(rw[wrap64 (by omega) (by omega)];first|rfl|omega))⟩,λhc=>⟨q',⟨hi2,exI.lo0 o1 o2 hap hq hi2 hc⟩,(by and_intros <;> first|trivial|rfl|(rw[wrap64 (by omega) (by omega)];first|rfl|omega))⟩⟩
    ·rintro q2 ⟨hi2,hq2⟩;obtain⟨m1,m2,m3,m4⟩:=exI.dom o1 o2 hap hq2;obtain⟨r1,r2,r3,r4⟩:=exI.rd o1 o2 hap hq2 hi2;simp only[hw i hi2]
     refine⟨⟨by omega,by omega⟩,⟨m1,by omega,r2.flt⟩,⟨by omega,by omega⟩,⟨m2,by omega,r4.flt⟩,λhc=>⟨⟨by omega,by omega⟩,⟨m1,by omega,r2.flt⟩,⟨by omega,by omega⟩,⟨m2,by omega⟩,(i+1,⟨_,_,_⟩),⟨by show i+1<=2;omega,exI.hi1 o1 o2 hap hq2 hi2 hc⟩,by show 2-(i+1)<2-i;omega,(by and_intros <;> first|trivial|rfl|(rw[wrap64 (by omega) (by omega)];first|rfl|omega))⟩,λhc=>⟨(i+1,q2),⟨by show i+1<=2;omega,exI.hi0 o1 o2 hap hq2 hi2 hc⟩,by show 2-(i+1)<2-i;omega,(by and_intros <;> first|trivial|rfl|(rw[wrap64 (by omega) (by omega)];first|rfl|omega))⟩⟩
    ·have e:i=2:=by omega
     subst e;exact⟨q',hq,rfl,trivial⟩
  ·trivial
 ·trivial
end Go.Proofs.Try.Sx

namespace Go.Sx
open Go.RowKit
def detR(R:RCon)(i:R.ι):Con:=λargs rd nm=>match R.c i args rd nm with
 | some (e,_)=>some e
 | none=>none
theorem detR_ok{P:Program}{f:Nat}{R:RCon}(h:RConOk P f R)(i:R.ι)(hi:∀ j,j=i):ConOk P f (detR R i) where
 calls:=by
  intro W0 Fr U H ρ w nm args e hH hbd hn hc ho;unfold detR at hc;split at hc
  ·rename_i e' p he;simp only[Option.some.injEq]at hc;subst hc;refine(h.calls hH hbd hn λj=>by rw[hi j];exact⟨e',p,he,ho⟩).mono ?_;rintro en w' ⟨j,e2,p2,h1,h2,h3⟩;rw[hi j,he]at h1;simp only[Option.some.injEq,Prod.mk.injEq]at h1;obtain⟨rfl,rfl⟩:=h1;exact h3
  ·cases hc
 loc:=by
  intro args rd rd' nm e hc hr;unfold detR at hc ⊢;split at hc
  ·rename_i e' p he;simp only[Option.some.injEq]at hc;subst hc;rw[h.loc he hr]
  ·cases hc
end Go.Sx

namespace Go.Proofs.Try.Sx
open Go Go.Sx Go.Proofs Go.Fl Go.Geo
set_option maxRecDepth 100000
noncomputable def rAxisC:List SV->RRd (Nat×Nat)
 | [.pb n rb rc]=>.read n λo0=>(match rawOf o0 with
  | some (ts,q)=>.ret ⟨[.pb 0 rb rc],[(0,rwO ts q)],some ((okR q rb rc)),λi=>i.1<2,λi=>⟨[],[], .tup [.int .i64 (i.1:Nat), .flt .f64 i.2],[(0,rwO ts (q))],[],none⟩⟩
  | none=>.fail)
 | _=>.fail
theorem vc_rAxis(R:Option Ob->SV->Prop)(ts:List Nat)(q:RM)(rb rc:Nat){T1}(t1:T1=(false=false->(fGt .f64 (fop BinOp.sub .f64 (fltV (q.3 rb (rc+3+2))) (fltV (q.3 rb (rc+1+2)))) (fop BinOp.sub .f64 (fltV (q.3 rb (rc+3+1))) (fltV (q.3 rb (rc+1+1))))=true->False)/\(fGt .f64 (fop BinOp.sub .f64 (fltV
 (q.3 rb (rc+3+2))) (fltV (q.3 rb (rc+1+2)))) (fop BinOp.sub .f64 (fltV (q.3 rb (rc+3+1))) (fltV (q.3 rb (rc+1+1))))=false->False))){T2}(t2:T2=(fGt .f64 (fop BinOp.sub .f64 (fltV (q.3 rb (rc+3+1))) (fltV (q.3 rb (rc+1+1))))
 (fop BinOp.sub .f64 (fltV (q.3 rb (rc+3+0))) (fltV (q.3 rb (rc+1+0))))=false->(false=true->((0:Int)<=2/\(2:Int)<2)/\(q.1 rb/\rc+3+2<q.2 rb/\isFlt .f64 (q.3 rb (rc+3+2)))/\((0:Int)<=2/\(2:Int)<2)/\(q.1 rb
 /\rc+1+2<q.2 rb/\isFlt .f64 (q.3 rb (rc+1+2)))/\fok BinOp.sub .f64 (fltV (q.3 rb (rc+3+2))) (fltV (q.3 rb (rc+1+2)))/\true=true/\(false=true->False)/\(false=false->(fGt .f64 (fop BinOp.sub .f64 (fltV (q.3 rb (rc+3 +
 2))) (fltV (q.3 rb (rc+1+2)))) (fop BinOp.sub .f64 (fltV (q.3 rb (rc+3+0))) (fltV (q.3 rb (rc+1+0))))=true->False)/\(fGt .f64 (fop BinOp.sub .f64 (fltV (q.3 rb (rc+3+2))) (fltV (q.3 rb (rc+1+2)))) (fop BinOp.sub .f64 (fltV
 (q.3 rb (rc+3+0))) (fltV (q.3 rb (rc+1+0))))=false->False)))/\(false=false->R (Option.some (Ob.mk true 0 (Cont.raw ts (RM.D q) q.2 q.3) 0)) (SV.tup [SV.int .i64 (0:Int),SV.flt .f64 (fop BinOp.sub .f64 (fltV (q.3 rb (rc+3+0)))
 (fltV (q.3 rb (rc+1+0))))])))){T3}(t3:T3=(false=false->R (Option.some (Ob.mk true 0 (Cont.raw ts (RM.D q) q.2 q.3) 0)) (SV.tup [SV.int .i64 (1:Int),SV.flt .f64 (fop BinOp.sub .f64 (fltV (q.3 rb (rc+3+1))) (fltV (q.3 rb (rc+1 +
 1))))]))){T4}(t4:T4=(false=true->((0:Int)<=2/\(2:Int)<2)/\(q.1 rb/\rc+3+2<q.2 rb/\isFlt .f64 (q.3 rb (rc+3+2)))/\((0:Int)<=2/\(2:Int)<2)/\(q.1 rb/\rc+1+2<q.2 rb/\isFlt .f64 (q.3 rb (rc+1+2)))/\fok
 BinOp.sub .f64 (fltV (q.3 rb (rc+3+2))) (fltV (q.3 rb (rc+1+2)))/\true=true/\(false=true->False)/\T1)){T5}(t5:T5=(false=true->((0:Int)<=(2:Int)/\(2:Int)<2)/\(q.1 rb/\rc+3+2<q.2 rb/\isFlt .f64 (q.3 rb (rc+3 +
 2)))/\((0:Int)<=2/\(2:Int)<2)/\(q.1 rb/\rc+1+2<q.2 rb/\isFlt .f64 (q.3 rb (rc+1+2)))/\fok BinOp.sub .f64 (fltV (q.3 rb (rc+3+2))) (fltV (q.3 rb (rc+1+2)))/\true=true/\(false=true->False)/\T1)){T6}(t6:T6=(fop
 BinOp.sub .f64 (fltV (q.3 rb (rc+3+0))) (fltV (q.3 rb (rc+1+0))))){T7}(t7:T7=(Option.some (Ob.mk true 0 (Cont.raw ts (RM.D q) q.2 q.3) 0))){T8}(t8:T8=(fop BinOp.sub .f64 (fltV (q.3 rb (rc+3+1))) (fltV (q.3 rb (rc+1 +
 1))))){T9}(t9:T9=(q.1 rb/\rc+3+1<q.2 rb/\isFlt .f64 (q.3 rb (rc+3+1)))){T10}(t10:T10=(q.1 rb/\rc+1+1<q.2 rb/\isFlt .f64 (q.3 rb (rc+1+1)))){T11}(t11:T11=((0:Int)<=1/\(1:Int)<2)){T12}(t12:T12=(q.3 rb (rc+3 +
 2))){T13}(t13:T13=(q.3 rb (rc+1+2))){T14}(t14:T14=(SV.tup [SV.int .i64 (0:Int),SV.flt .f64 0])){T15}(t15:T15=(true=false->R T7 (SV.tup [SV.int .i64 (0:Int),SV.flt .f64 T6]))){T16}(t16:T16=((0:Int)<=2/\(2:Int) <
 2)){T17}(t17:T17=(fltV (q.3 rb (rc+3+1)))){T18}(t18:T18=(fltV (q.3 rb (rc+1+1)))){T19}(t19:T19=(q.1 rb/\rc+3+2<q.2 rb/\isFlt .f64 T12)){T20}(t20:T20=(q.1 rb/\rc+1+2<q.2 rb/\isFlt .f64 T13)):runG X0 1 [(3, .iter 3)] [] (codeOf Try.f66) (init Try.f66.ntmps [.pb 0 rb rc] [(0,rwO ts q)] 1) (endK X0.G.E.T Try.f66.results.toList λS v=>R (Go.Sx.look S.H 0) v)=(
 (true=true->((0:Int)<=0/\(0:Int)<2)/\(q.1 rb/\rc+3+0<q.2 rb/\isFlt .f64 (q.3 rb (rc+3+0)))/\((0:Int)<=0/\(0:Int)<2)/\(q.1 rb/\rc+1+0<q.2 rb/\isFlt .f64 (q.3 rb (rc+1+0)))/\fok BinOp.sub .f64 (fltV (q.3
 rb (rc+3+0))) (fltV (q.3 rb (rc+1+0)))/\true=true/\(true=true->(true=true->T11/\T9/\T11/\T10/\fok BinOp.sub .f64 T17 T18/\true=true/\(false=true->T5/\T3)/\(false=false->(fGt .f64 T8 T6=true->(false=true->((0 :
 Int)<=2/\(2:Int)<(2:Int))/\T19/\T16/\T20/\fok BinOp.sub .f64 (fltV T12) (fltV T13)/\true=true/\(false=true->False)/\T1)/\T3)/\T2))/\T15)/\(true=false->(fGt .f64 T6 0=true->(true=true->T11/\T9/\T11/\T10/\fok
 BinOp.sub .f64 T17 T18/\true=true/\(false=true->T4/\T3)/\(false=false->(fGt .f64 T8 T6=true->T5/\T3)/\T2))/\T15)/\(fGt .f64 T6 0=false->(true=true->T11/\T9/\((0:Int)<=1/\(1:Int)<(2:Int))/\T10/\fok BinOp.sub .f64
 T17 T18/\true=true/\(false=true->T4/\T3)/\(false=false->(fGt .f64 T8 0=true->T4/\T3)/\(fGt .f64 T8 0=false->(false=true->T16/\T19/\T16/\T20/\fok BinOp.sub .f64 (fltV T12) (fltV T13)/\true=true/\(false=true->False)/\
 (false=false->(fGt .f64 (fop BinOp.sub .f64 (fltV T12) (fltV T13)) 0=true->False)/\(fGt .f64 (fop BinOp.sub .f64 (fltV T12) (fltV T13)) 0=false->False)))/\(false=false->R T7 T14))))/\(true=false->R T7 T14))))/\(true=false->R T7
 T14)):=by subst t1 t2 t3 t4 t5 t6 t7 t8 t9 t10 t11 t12 t13 t14 t15 t16 t17 t18 t19 t20;kernel_rfl
theorem rAxis:RConOk Try.prog 66 (rconR (Nat×Nat) ⟨default⟩ rAxisC):=by
 refine rcon_raw x0 Try.func66 rfl (by kernel_rfl) λargs=>?_
 unfold rAxisC;split
 ·rename_i n rb rc;intro o0;try dsimp only;split
  ·rename_i ts q hm0;intro ho;replace ho:(okR q rb rc):=ho;refine⟨?_,Nat.succ_pos _,ts,λ(i:Nat×Nat)=>q,λ(i:Nat×Nat)=>.tup [.int .i64 (i.1:Nat), .flt .f64 i.2],λ_=>rfl,?_,_,_,(vc_rAxis (RPost 1 ts (λ(i:Nat×Nat)=>i.1<2) (λ(i:Nat×Nat)=>q) (λ(i:Nat×Nat)=>.tup [.int .i64 (i.1:Nat), .flt .f64 i.2])) ts q rb rc rfl rfl rfl rfl rfl rfl rfl rfl rfl rfl rfl rfl rfl rfl rfl rfl rfl rfl rfl rfl).mpr ?_⟩
   ·refine okFlag_mk rfl ⟨λ_=>rfl,?_,⟨trivial,obR_rawOf hm0,trivial⟩⟩;simp[eqvRL,eqvR,sgSig,fsts,nth,sameN_self]
   ·intro i _;rfl
   ·obtain⟨d1,s1,b1⟩:=ho;have f0:=(b1.lo (k:=0) (by omega)).flt;have f1:=(b1.lo (k:=1) (by omega)).flt;have f2:=(b1.hi (k:=0) (by omega)).flt;have f3:=(b1.hi (k:=1) (by omega)).flt;have g0:=((b1.hi (k:=0) (by omega)).sub (b1.lo (k:=0) (by omega))).1;have g1:=((b1.hi (k:=1) (by omega)).sub (b1.lo (k:=1) (by omega))).1
    have hR:∀(a:Int)(x:Nat),0<=a->a<2->RPost 1 ts (λi:Nat×Nat=>i.1<2) (λ_=>q) (λi=>.tup [.int .i64 (i.1:Nat), .flt .f64 i.2]) (some ⟨true,0, .raw ts q.D q.S q.F,0⟩) (.tup [.int .i64 a, .flt .f64 x]):=λa x h1 h2=>⟨(a.toNat,x),by show a.toNat<2;omega,rfl,⟨by show a=((a.toNat:Nat):Int);omega,rfl,trivial⟩⟩
    generalize RPost 1 ts (λi:Nat×Nat=>i.1<2) (λ_=>q) (λi=>.tup [.int .i64 (i.1:Nat), .flt .f64 i.2])=R at hR ⊢;have h0:=λx=>hR 0 x (by decide) (by decide)
    have h1:=λx=>hR 1 x (by decide) (by decide)
    clear hR;simp only[f0,f1,f2,f3,g0,g1,d1,true_and,and_true];grind
  ·trivial
 ·trivial
noncomputable def ndOf(q:RM)(b:Nat):List En:=(List.range (intV (q.F b 0)).toNat).map λj=>⟨q.F b (1+5*j),bxOf q.F b (1+5*j)⟩
theorem isNd.of{q:RM}{b:Nat}{l:List En}(h:isNd q b l):ndOf q b=l:=by
 have hn:(intV (q.F b 0)).toNat=l.length:=by rw[h.n];rfl
 refine List.ext_getElem? λj=>?_
 simp only[ndOf,hn,List.getElem?_map];by_cases hj:j<l.length
 ·rw[List.getElem?_range hj,List.getElem?_eq_getElem hj];simp only[Option.map_some,Option.some.injEq];have h1:=h.v j _ (List.getElem?_eq_getElem hj);have h2:=h.B j _ (List.getElem?_eq_getElem hj);rw[h1,h2.bxOf]
 ·rw[List.getElem?_eq_none (by simpa using Nat.le_of_not_lt hj),List.getElem?_eq_none (by omega)];rfl
def kb(v:Value):Nat:=ptB (ifcV v)
def isRef(v:Value):Prop:=v=.iface 134 (.pointer (some ⟨kb v,0,none⟩))
theorem isRef.facts{v:Value}(h:isRef v):isIf 134 v/\isPt (ifcV v)/\ptB (ifcV v)=kb v/\ptC (ifcV v)=0:=by
 unfold isRef at h;refine⟨?_,?_,rfl,?_⟩
 ·unfold isIf;rw[h];rfl
 ·rw[h];rfl
 ·rw[h];rfl
def rcP(q:RM)(rb rc nb i:Nat)(q':RM):Prop:=sameBut q q' (rW rb rc)/\∃ B,isBox q'.F rb rc B/\tight B (((ndOf q nb).take i).map (·.B))
noncomputable def rcSt(ts:List Nat)(rb rc nb i:Nat)(q:RM):St:=⟨42,[(0, .pb 0 rb rc),(2, .pb 0 nb 0),(3, .int .i64 i)],[(0,rwO ts q)],1⟩
noncomputable def rcL(ts:List Nat)(q:RM)(rb rc:Nat):LFam :=
 ⟨⟨Nat×RM,λp=>rcSt ts rb rc (kb (q.F rb rc)) p.1 p.2,λp=>(1<=p.1/\p.1<=(ndOf q (kb (q.F rb rc))).length)/\rcP q rb rc (kb (q.F rb rc)) p.1 p.2,λp=>(ndOf q (kb (q.F rb rc))).length-p.1⟩,λ_=>[]⟩
def hangs(q:RM)(rb rc:Nat):Prop:=q.D rb/\rc+5<=q.S rb/\isRef (q.F rb rc)/\kb (q.F rb rc)≠rb/\isNd q (kb (q.F rb rc)) (ndOf q (kb (q.F rb rc)))
noncomputable def X1:RCtx:=⟨G0,[(59,rconR RM ⟨default⟩ rJoinC),(64,rconR Unit ⟨()⟩ rHasBC),(66,rconR (Nat×Nat) ⟨default⟩ rAxisC)],[],[],[]⟩
theorem x1:RCtxOk Try.prog X1:=⟨g0,RGamOk.cons rJoin (RGamOk.cons rHasB (RGamOk.cons rAxis RGamOk.nil))⟩
noncomputable def rCalcC:List SV->RRd (RM)
 | [.pb n rb rc]=>.read n λo0=>(match rawOf o0 with
  | some (ts,q)=>.ret ⟨[.pb 0 rb rc],[(0,rwO ts q)],some ((hangs q rb rc/\ndOf q (kb (q.F rb rc))≠[])),λi=>rcP q rb rc (kb (q.F rb rc)) (ndOf q (kb (q.F rb rc))).length i,λi=>⟨[],[], .tup [],[(0,rwO ts (i))],[],none⟩⟩
  | none=>.fail)
 | _=>.fail
theorem vc_rCalc(R:Option Ob->SV->Prop)(ts:List Nat)(q:RM)(rb rc:Nat){T1}(t1:T1=(ifcV (q.3 rb (rc+0)))){T2}(t2:T2=(updN q.3 rb (rc+1) (q.3 (ptB T1) (ptC T1+1+0+1)))){T3}(t3:T3=(kb (q.3 rb rc))){T4}(t4:T4=(q.3 (ptB T1) (ptC T1+1+0+1+1))){T5}(t5:T5=(updN T2 rb (rc+1+1) T4 (ptB T1) (ptC T1+1+0 +
 3+1))){T6}(t6:T6=λ(pq:Nat×RM)=>((1<=pq.1/\pq.1<=List.length (ndOf q T3))/\rcP q rb rc T3 (pq.1) (pq.2))){T7}(t7:T7=(updN T2 rb (rc+1+1) T4 (ptB T1) (ptC T1+1+0+3))){T8}(t8:T8=λ(i:Nat×RM)=>(↑(i.1):Int)):runG X1 1 [(4,rcL ts q rb rc)] [] (codeOf Try.f61) (init Try.f61.ntmps [.pb 0 rb rc] [(0,rwO ts q)] 1) (endK X1.G.E.T Try.f61.results.toList λS v=>R (Go.Sx.look S.H 0) v)=(
 (q.1 rb/\rc+0<q.2 rb)/\(isIf 134 (q.3 rb (rc+0))/\isPt T1)/\((0:Int)<=0/\(0:Int)<17)/\(q.1 (ptB T1)/\ptC T1+1+0+1+2<=q.2 (ptB T1))/\(((q.1 rb/\rc+1+2<=q.2 rb)/\Value.oneCell' (q.3 (ptB T1) (ptC T1+1+0+1)) =
 true)/\Value.oneCell' T4=true)/\((0:Int)<=0/\(0:Int)<17)/\(q.1 (ptB T1)/\ptC T1+1+0+3+2<=q.2 (ptB T1))/\(((q.1 rb/\rc+3+2<=q.2 rb)/\Value.oneCell' T7=true)/\Value.oneCell' T5=true)/\(∃(pq:Nat×RM),(T6 pq)/\
 ((True/\rb=rb/\rc=rc)/\(True/\ptB T1=kb (q.3 rb rc)/\ptC T1=0)/\1=(↑(pq.1):Int)/\True)/\True/\(0=0/\0=0/\ts=ts/\updN (updN (updN T2 rb (rc+1+1) T4) rb (rc+3) T7) rb (rc+3+1) T5=(pq.2).3/\q.2=(pq.2).2/\
 RM.D q=RM.D (pq.2))/\True)/\∀(i:Nat×RM),(1<=i.1/\i.1<=List.length (ndOf q T3))/\rcP q rb rc T3 (i.1) (i.2)->((i.2).1 T3/\0<(i.2).2 T3/\isInt .i64 ((i.2).3 T3 0))/\(decide ((T8 i)<intV ((i.2).3 T3 0))=true->(0<=(T8 i)/\(T8
 i)<(17:Int))/\∀(i_1:RM),(0=0/\okR (RM.mk (RM.D (i.2)) (i.2).2 (i.2).3) rb rc/\okR (RM.mk (RM.D (i.2)) (i.2).2 (Prod.snd i).3) T3 (1+Int.toNat (T8 i)*5)/\apart rb rc T3 (1+Int.toNat (T8 i)*5))/\(exI (RM.mk (RM.D (i.2)) (i.2).2
 (i.2).3) rb rc T3 (1+Int.toNat (T8 i)*5) 2 2 i_1->∃(pq:Nat×RM),(T6 pq)/\List.length (ndOf q T3)-pq.1<List.length (ndOf q T3)-i.1/\((True/\rb=rb/\rc=rc)/\(True/\kb (q.3 rb rc)=kb (q.3 rb rc)/\0=0)/\IntKind.wrap .i64
 ((T8 i)+1)=(↑(pq.1):Int)/\True)/\True/\(0=0/\0=0/\ts=ts/\i_1.3=(pq.2).3/\i_1.2=(pq.2).2/\RM.D i_1=RM.D (Prod.snd pq))/\True))/\(decide ((T8 i)<intV ((i.2).3 T3 0))=false->R (Option.some (Ob.mk true 0 (Cont.raw ts
 (RM.D (i.2)) (i.2).2 (i.2).3) 0)) (SV.tup []))):=by subst t1 t2 t3 t4 t5 t6 t7 t8;kernel_rfl
theorem rCalc:RConOk Try.prog 61 (rconR (RM) ⟨default⟩ rCalcC):=by
 refine rcon_raw x1 Try.func61 rfl (by kernel_rfl) λargs=>?_
 unfold rCalcC;split
 ·rename_i n rb rc;intro o0;try dsimp only;split
  ·rename_i ts q hm0;intro ho;replace ho:(hangs q rb rc/\ndOf q (kb (q.F rb rc))≠[]):=ho;refine⟨?_,Nat.succ_pos _,ts,λ(i:RM)=>i,λ(i:RM)=>.tup [],λ_=>rfl,?_,_,_,(vc_rCalc (RPost 1 ts (λ(i:RM)=>rcP q rb rc (kb (q.F rb rc)) (ndOf q (kb (q.F rb rc))).length i) (λ(i:RM)=>i) (λ(i:RM)=>.tup [])) ts q rb rc rfl rfl rfl rfl rfl rfl rfl rfl).mpr ?_⟩
   ·refine okFlag_mk rfl ⟨λ_=>rfl,?_,⟨trivial,obR_rawOf hm0,trivial⟩⟩;simp[eqvRL,eqvR,sgSig,fsts,nth,sameN_self]
   ·intro i _;rfl
   ·obtain⟨⟨d,s,hr,hne,hnd⟩,hnil⟩:=ho;obtain⟨f1,f2,f3,f4⟩:=hr.facts;have hoff:∀(F:Nat->Nat->Value)(c:Nat)(v:Value)(c':Nat),updN F rb c v (kb (q.F rb rc)) c'=F (kb (q.F rb rc)) c':=λ_ _ _ _=>updN_off (.inl hne)
    simp only[true_and,and_true,eq_self,Int.toNat_natCast,decide_eq_true_eq,decide_eq_false_iff_not,Int.reduceLT,Int.le_refl];simp only[Nat.add_zero,f3,f4,Nat.zero_add,Nat.reduceAdd,hoff,rcP];generalize kb (q.F rb rc)=nb at *;generalize ndOf q nb=l at *;have hle:=hnd.le;obtain⟨e0,r,hl⟩:∃ e0 r,l=e0 :: r:=by cases l with|nil=>exact absurd rfl hnil|cons a r=>exact⟨a,r,rfl⟩
    have h0:l[0]? = some e0:=by rw[hl];rfl
    have hS:=hnd.S;have hb0:=hnd.B 0 e0 h0;simp only[Nat.mul_zero,Nat.add_zero]at hb0;have c1:=hb0.1.flt;have c2:=hb0.2.1.flt;have c3:=hb0.2.2.1.flt;have c4:=hb0.2.2.2.flt;have one:∀ v,isFlt .f64 v->v.oneCell'=true:=λv h=>by rw[h];rfl
    refine⟨⟨d,by omega⟩,⟨f1,f2⟩,⟨hnd.D,by omega⟩,⟨⟨⟨d,by omega⟩,one _ c1⟩,one _ c2⟩,⟨hnd.D,by omega⟩,⟨⟨⟨d,by omega⟩,one _ c3⟩,one _ c4⟩,⟨(1,⟨q.D,q.S,updN (updN (updN (updN q.F rb (rc+1) (q.F nb 2)) rb (rc+1+1) (q.F nb 3)) rb (rc+3) (q.F nb 4)) rb (rc+3+1) (q.F nb 5)⟩),⟨⟨Nat.le_refl _,by rw[hl];simp⟩,⟨rfl,rfl,?_⟩,e0.B,?_,?_⟩,(by and_intros <;> first|trivial|rfl|(rw[wrap64 (by omega) (by omega)];first|rfl|omega))⟩,?_⟩
    ·intro b c hw;unfold rW at hw;show updN _ _ _ _ _ _=_;rw[updN_off (by omega),updN_off (by omega),updN_off (by omega),updN_off (by omega)]
    ·refine⟨?_,?_,?_,?_⟩
     ·simpa [updN]using hb0.1
     ·simpa [updN]using hb0.2.1
     ·simpa [updN]using hb0.2.2.1
     ·simpa [updN]using hb0.2.2.2
    ·rw[hl];exact tight_one _
    ·rintro⟨i,q'⟩ ⟨⟨hi1,hi2⟩,hs,B,hB,ht⟩;replace hi1:1<=i:=hi1;replace hi2:i<=l.length:=hi2;have hnd':isNd q' nb l:=hnd.same (by rw[hs.1];exact hnd.D) (by rw[hs.2.1]) (λc=>hs.2.2 nb c (by unfold rW;omega));have hS':=hnd'.S;have hn:intV (q'.F nb 0)=(l.length:Nat):=by rw[hnd'.n];rfl
     simp only[hn];refine⟨⟨hnd'.D,by omega,by rw[hnd'.n];rfl⟩,λhlt=>⟨⟨by omega,by omega⟩,λq2=>⟨⟨okR.mk' (by rw[hs.1];exact d) (by rw[hs.2.1];exact s) hB,?_, .inl (Ne.symm hne)⟩,λhe=>?_⟩⟩,λhge=>?_⟩
     ·have:=hnd'.okR (List.getElem?_eq_getElem (by omega:i<l.length));rw[Nat.mul_comm]at this;exact this
     ·have hj:i<l.length:=by omega
      have hB2:=hnd'.B i _ (List.getElem?_eq_getElem hj);rw[Nat.mul_comm]at hB2;obtain⟨hs2,hb2⟩:=he;refine⟨(i+1,q2),⟨⟨by show 1<=i+1;omega,by show i+1<=l.length;omega⟩,hs.trans hs2 (λ_ _ h=>h) (λ_ _ h=>h),joinB B l[i].B,?_,?_⟩,by show l.length-(i+1)<l.length-i;omega,(by and_intros <;> first|trivial|rfl|(rw[wrap64 (by omega) (by omega)];first|rfl|omega))⟩
      ·rw[joinP_two]at hb2;have e1:bxOf (RM.mk q'.D q'.S q'.F).F rb rc=B:=hB.bxOf;have e2:bxOf (RM.mk q'.D q'.S q'.F).F nb (1+i*5)=l[i].B:=hB2.bxOf;rw[e1,e2]at hb2;exact hb2
      ·have ht2:((l.take (i+1)).map (·.B))=(l.take i).map (·.B)++[l[i].B]:=by
        simp only[List.take_add_one,List.getElem?_eq_getElem hj,Option.toList,List.map_append,List.map_cons,List.map_nil]
       show tight (joinB B l[i].B) ((l.take (i+1)).map (·.B));rw[ht2];refine tight_add (λe=>?_) ht
       have h3:((l.take i).map (·.B)).length=0:=by
        have e:(l.take i).map (·.B)=[]:=e;rw[e];rfl
       rw[List.length_map,List.length_take]at h3;omega
     ·replace hge:¬(i:Int)<(l.length:Nat):=hge;have e:i=l.length:=by omega
      subst e;exact⟨q',⟨hs,B,hB,ht⟩,rfl,trivial⟩
  ·trivial
 ·trivial
def fb(x k:Nat):Prop:=∃ n:Int,FI x n/\n.natAbs<=8388608 ^ k
theorem fb_one:fb 4607182418800017408 0:=⟨1,one_FI,by decide⟩
theorem fb_sub{v w:Value}{n m:Int}(h1:fz v n)(h2:fz w m):fok .sub .f64 (fltV v) (fltV w)/\fb (fop .sub .f64 (fltV v) (fltV w)) 1 :=
 ⟨(h1.sub h2).1,_,(h1.sub h2).2.1,by simpa using (h1.sub h2).2.2⟩
theorem fb_mul{x y k:Nat}(h1:fb x k)(h2:fb y 1)(hk:k<=1):fok .mul .f64 x y/\fb (fop .mul .f64 x y) (k+1):=by
 obtain⟨n,a1,a2⟩:=h1;obtain⟨m,b1,b2⟩:=h2;have h:=natAbs_mul_le a2 b2;rw[<-Nat.pow_add]at h;have h3:8388608 ^ (k+1)<=8388608 ^ 2:=Nat.pow_le_pow_right (by decide) (by omega);obtain⟨c1,c2⟩:=mul_of a1 b1 (by omega);exact⟨c1,_,c2,h⟩
theorem fb_diff{x y:Nat}(h1:fb x 2)(h2:fb y 2):fok .sub .f64 x y:=by
 obtain⟨n,a1,a2⟩:=h1;obtain⟨m,b1,b2⟩:=h2;exact(sub_F a1 b1 (by omega)).1
noncomputable def chSt(ts:List Nat)(rb rc bb bc nb:Nat)(p:Nat×Int×Nat×Nat)(q:RM):St :=
 ⟨217,[(0, .pb 0 rb rc),(1, .pb 0 bb bc),(5, .int .i64 p.2.1),(6, .flt .f64 p.2.2.1),(7, .flt .f64 p.2.2.2),(8, .pb 0 nb 0),(9, .int .i64 p.1)],[(0,rwO ts q)],1⟩
noncomputable def chSi(ts:List Nat)(rb rc bb bc nb:Nat)(p:Nat×Int×Nat×Nat)(q:RM)(k:Nat×Nat×Nat):St :=
 ⟨217,[(0, .pb 0 rb rc),(1, .pb 0 bb bc),(5, .int .i64 p.2.1),(6, .flt .f64 p.2.2.1),(7, .flt .f64 p.2.2.2),(8, .pb 0 nb 0),(9, .int .i64 p.1),(10, .flt .f64 k.2.2),(13, .flt .f64 k.2.1),(14, .int .i64 k.1)],[(0,rwO ts q)],1⟩
noncomputable def chL(ts:List Nat)(q:RM)(rb rc bb bc:Nat):LFam :=
 ⟨⟨Nat×Int×Nat×Nat,λp=>chSt ts rb rc bb bc (kb (q.F rb rc)) p q,λp=>p.1<=(ndOf q (kb (q.F rb rc))).length/\(p.1=0/\p.2.1 = -1∨0<=p.2.1/\p.2.1<p.1),λp=>(ndOf q (kb (q.F rb rc))).length-p.1⟩,
  λp=>[(14,⟨Nat×Nat×Nat,λk=>chSi ts rb rc bb bc (kb (q.F rb rc)) p q k,λk=>k.1<=2/\fb k.2.1 k.1/\fb k.2.2 2,λk=>2-k.1⟩)]⟩
noncomputable def rChooseC:List SV->RRd (Nat)
 | [.pb n rb rc, .pb n1 bb bc]=>.read n λo0=>(match rawOf o0 with
  | some (ts,q)=>.ret ⟨[.pb 0 rb rc, .pb 0 bb bc],[(0,rwO ts q)],some (n=n1/\(hangs q rb rc/\okR q bb bc/\1<=(ndOf q (kb (q.F rb rc))).length)),λi=>i<(ndOf q (kb (q.F rb rc))).length,λi=>⟨[],[], .int .i64 (i:Nat),[(0,rwO ts (q))],[],none⟩⟩
  | none=>.fail)
 | _=>.fail
theorem vc_rChoose(R:Option Ob->SV->Prop)(ts:List Nat)(q:RM)(rb rc bb bc:Nat){T1}(t1:T1=(kb (q.3 rb rc))){T2}(t2:T2=λ(i_1:Nat×Nat×Nat)=>(↑(i_1.1):Int)){T3}(t3:T3=λ(i:Nat×Int×Nat×Nat)=>(↑(i.1):Int)){T4}(t4:T4=(0=0/\0=0/\ts=ts/\q.3=q.3/\q.2=q.2/\RM.D q=RM.D q)){T5}(t5:T5=λ(pq:Nat×Int×
 Nat×Nat)=>(pq.1<=List.length (ndOf q T1)/\(pq.1=0/\(pq.2).1=(-1:Int)∨(0:Int)<=(pq.2).1/\(pq.2).1<(↑(pq.1):Int)))){T6}(t6:T6=λ(i:Nat×Int×Nat×Nat) (i_1:Nat×Nat×Nat)=>(q.3 T1 (1+Int.toNat (T3 i)*5+1+Int.toNat
 (T2 i_1)*1))){T7}(t7:T7=(True/\kb (q.3 rb rc)=kb (q.3 rb rc)/\0=0)){T8}(t8:T8=λ(i:Nat×Int×Nat×Nat) (i_1:Nat×Nat×Nat)=>(q.3 T1 (1+Int.toNat (T3 i)*5+3+Int.toNat (T2 i_1)*1))){T9}(t9:T9=λ(i_1:Nat×Nat×Nat)=>(q.3 bb
 (bc+1+Int.toNat (T2 i_1)*1))){T10}(t10:T10=λ(i_1:Nat×Nat×Nat)=>(q.3 bb (bc+3+Int.toNat (T2 i_1)*1))){T11}(t11:T11=λ(i:Nat×Int×Nat×Nat) (i_1:Nat×Nat×Nat) (pq:Nat×Int×Nat×Nat)=>((True/\rb=rb/\rc=rc)/\(True
 /\bb=bb/\bc=bc)/\(T3 i)=(pq.2).1/\fop BinOp.sub .f64 ((i_1.2).1) ((i_1.2).2)=((pq.2).2).1/\(i_1.2).2=((pq.2).2).2/\T7/\IntKind.wrap .i64 ((T3 i)+1)=(↑(pq.1):Int)/\True)){T12}(t12:T12=(True/\rb=rb/\rc =
 rc)){T13}(t13:T13=(True/\bb=bb/\bc=bc)){T14}(t14:T14=λ(pq:Nat×Nat×Nat)=>(pq.1<=2/\fb ((pq.2).1) (pq.1)/\fb ((pq.2).2) 2)){T15}(t15:T15=λ(i_1:Nat×Nat×Nat)=>(q.1 bb/\bc+1+Int.toNat (T2 i_1)*1<q.2 bb/\isFlt .f64 (T9
 i_1))){T16}(t16:T16=λ(i_1:Nat×Nat×Nat)=>(0<=(T2 i_1)/\(T2 i_1)<2)){T17}(t17:T17=λ(i:Nat×Int×Nat×Nat) (i_1:Nat×Nat×Nat)=>(q.1 T1/\1+Int.toNat (T3 i)*5+3+Int.toNat (T2 i_1)*1<q.2 T1/\isFlt .f64 (T8 i
 i_1))){T18}(t18:T18=λ(i:Nat×Int×Nat×Nat)=>(0<=(T3 i)/\(T3 i)<17)){T19}(t19:T19=λ(i_1:Nat×Nat×Nat)=>(q.1 bb/\bc+3+Int.toNat (T2 i_1)*1<q.2 bb/\isFlt .f64 (T10 i_1))){T20}(t20:T20=λ(i:Nat×Int×Nat×Nat) (i_1:Nat×
 Nat×Nat)=>(q.1 T1/\1+Int.toNat (T3 i)*5+1+Int.toNat (T2 i_1)*1<q.2 T1/\isFlt .f64 (T6 i i_1))){T21}(t21:T21=λ(i:Nat×Int×Nat×Nat) (i_1:Nat×Nat×Nat) (pq:Nat×Nat×Nat)=>(T12/\T13/\(i.2).1=(i.2).1/\((i.2).2).1 =
 ((i.2).2).1/\((i.2).2).2=((i.2).2).2/\T7/\(T3 i)=(T3 i)/\(i_1.2).2=(pq.2).2/\fop BinOp.mul .f64 ((i_1.2).1) (fop BinOp.sub .f64 (fltV (T8 i i_1)) (fltV (T9 i_1)))=(pq.2).1/\IntKind.wrap .i64 ((T2 i_1)+1)=(↑(pq.1):Int)/\
 True)){T22}(t22:T22=λ(i:Nat×Int×Nat×Nat)=>(fop BinOp.sub .f64 (fltV (q.3 T1 (1+Int.toNat (T3 i)*5+3+0))) (fltV (q.3 T1 (1+Int.toNat (T3 i)*5+1+0))))){T23}(t23:T23=λ(i:Nat×Int×Nat×Nat)=>(fop BinOp.sub .f64 (fltV (q.3
 T1 (1+Int.toNat (T3 i)*5+3+1))) (fltV (q.3 T1 (1+Int.toNat (T3 i)*5+1+1))))){T24}(t24:T24=λ(i_1:Nat×Nat×Nat)=>(fop BinOp.sub .f64 ((i_1.2).1) ((i_1.2).2))){T25}(t25:T25=(ndOf q T1)){T26}(t26:T26=λ(i:Nat×Int×Nat×Nat)
 (i_1:Nat×Nat×Nat)=>(q.3 T1 (1+Int.toNat (T3 i)*5+1+Int.toNat (↑(Prod.fst i_1):Int)*1))){T27}(t27:T27=λ(i:Nat×Int×Nat×Nat) (i_1:Nat×Nat×Nat)=>(fLt .f64 ((i_1.2).2) (((i.2).2).2)=true->∃ (pq:Nat×Int×Nat×Nat),
 (T5 pq)/\List.length T25-pq.1<List.length T25-i.1/\(T11 i i_1 pq)/\True/\T4/\True)){T28}(t28:T28=λ(i_1:Nat×Nat×Nat)=>(fop BinOp.sub .f64 (fltV (T10 i_1)) (fltV (T9 i_1)))){T29}(t29:T29=λ(i:Nat×Int×Nat×Nat) (i_1:Nat×Nat×
 Nat) (pq:Nat×Int×Nat×Nat)=>(T12/\T13/\(T3 i)=(pq.2).1/\fop BinOp.sub .f64 ((i_1.2).1) ((i_1.2).2)=((pq.2).2).1/\Prod.snd (i_1.2)=((pq.2).2).2/\T7/\IntKind.wrap .i64 ((T3 i)+1)=(↑(pq.1):Int)/\True)){T30}(t30:T30=λ(i_1:Nat
 ×Nat×Nat)=>((0:Int)<=(T2 i_1)/\(T2 i_1)<2)){T31}(t31:T31=λ(i:Nat×Int×Nat×Nat) (i_1:Nat×Nat×Nat)=>(fop BinOp.sub .f64 (fltV (T10 i_1)) (fltV (T6 i i_1)))){T32}(t32:T32=λ(i:Nat×Int×Nat×Nat) (i_1:Nat×Nat×Nat)=>(q.1 T1
 /\1+Int.toNat (T3 i)*5+1+Int.toNat (↑(Prod.fst i_1):Int)*1<q.2 T1/\isFlt .f64 (T6 i i_1))){T33}(t33:T33=λ(i_1:Nat×Nat×Nat)=>(fltV (T9 i_1))){T34}(t34:T34=λ(pq:Nat×Nat×Nat)=>(↑(pq.1):Int)):runG X0 1 [(4,chL ts q rb rc bb bc),(8, .iter 2)] [] (codeOf Try.f65) (init Try.f65.ntmps [.pb 0 rb rc, .pb 0 bb bc] [(0,rwO ts q)] 1) (endK X0.G.E.T Try.f65.results.toList λS v=>R (Go.Sx.look S.H 0) v)=(
 (q.1 rb/\rc+0<q.2 rb)/\(isIf 134 (q.3 rb (rc+0))/\isPt (ifcV (q.3 rb (rc+0))))/\(∃(pq:Nat×Int×Nat×Nat),(T5 pq)/\(T12/\T13/\(-1:Int)=Prod.fst (pq.2)/\0=((pq.2).2).1/\0=((pq.2).2).2/\(True/\ptB (ifcV (q.3 rb (rc +
 0)))=kb (q.3 rb rc)/\ptC (ifcV (q.3 rb (rc+0)))=0)/\0=(↑(pq.1):Int)/\True)/\True/\T4/\True)/\∀(i:Nat×Int×Nat×Nat),i.1<=List.length T25/\(i.1=0/\(i.2).1=(-1:Int)∨(0:Int)<=(i.2).1/\(i.2).1<(T3 i))->(q.1 T1/\
 0<q.2 T1/\isInt .i64 (q.3 T1 0))/\(decide ((T3 i)<intV (q.3 T1 0))=true->((0:Int)<=(T3 i)/\(T3 i)<17)/\((0:Int)<=0/\(0:Int)<2)/\(q.1 T1/\1+Int.toNat (T3 i)*5+3+0<q.2 T1/\isFlt .f64 (q.3 T1 (1+Int.toNat (T3 i) *
 5+3+0)))/\(T18 i)/\((0:Int)<=0/\(0:Int)<2)/\(q.1 T1/\1+Int.toNat (T3 i)*5+1+0<q.2 T1/\isFlt .f64 (q.3 T1 (1+Int.toNat (T3 i)*5+1+0)))/\fok BinOp.sub .f64 (fltV (q.3 T1 (1+Int.toNat (T3 i)*5+3+0))) (fltV
 (q.3 T1 (1+Int.toNat (T3 i)*5+1+0)))/\true=true/\(true=true->(T18 i)/\((0:Int)<=1/\(1:Int)<2)/\(q.1 T1/\1+Int.toNat (T3 i)*5+3+1<q.2 T1/\isFlt .f64 (q.3 T1 (1+Int.toNat (T3 i)*5+3+1)))/\(T18 i)/\((0 :
 Int)<=1/\(1:Int)<(2:Int))/\(q.1 T1/\1+Int.toNat (T3 i)*5+1+1<q.2 T1/\isFlt .f64 (q.3 T1 (1+Int.toNat (T3 i)*5+1+1)))/\fok BinOp.sub .f64 (fltV (q.3 T1 (1+Int.toNat (T3 i)*5+3+1))) (fltV (q.3 T1 (1+Int.toNat (T3
 i)*5+1+1)))/\fok BinOp.mul .f64 (T22 i) (T23 i)/\true=true/\(false=true->(T18 i)/\((0:Int)<=2/\(2:Int)<2)/\(q.1 T1/\1+Int.toNat (T3 i)*5+3+2<q.2 T1/\isFlt .f64 (q.3 T1 (1+Int.toNat (T3 i)*5+3+2)))/\(T18 i)
 /\((0:Int)<=2/\(2:Int)<2)/\(q.1 T1/\1+Int.toNat (T3 i)*5+1+2<q.2 T1/\isFlt .f64 (q.3 T1 (1+Int.toNat (T3 i)*5+1+2)))/\fok BinOp.sub .f64 (fltV (q.3 T1 (1+Int.toNat (T3 i)*5+3+2))) (fltV (q.3 T1 (1+Int.toNat (T3
 i)*5+1+2)))/\fok BinOp.mul .f64 (fop BinOp.mul .f64 (T22 i) (T23 i)) (fop BinOp.sub .f64 (fltV (q.3 T1 (1+Int.toNat (T3 i)*5+3+2))) (fltV (q.3 T1 (1+Int.toNat (T3 i)*5+1+2))))/\true=true/\False)/\(false=false->(∃(pq :
 Nat×Nat×Nat),(T14 pq)/\(T12/\T13/\(i.2).1=(i.2).1/\(Prod.snd (i.2)).1=((i.2).2).1/\((i.2).2).2=((i.2).2).2/\T7/\(T3 i)=(T3 i)/\fop BinOp.mul .f64 (T22 i) (T23 i)=(pq.2).2/\4607182418800017408=(pq.2).1/\0=(↑(Prod.fst pq) :
 Int)/\True)/\True/\T4/\True)/\∀(j:Nat×Nat×Nat),j.1<=2/\fb ((j.2).1) (j.1)/\fb ((j.2).2) 2->(∃(pq:Nat×Nat×Nat),(T14 pq)/\(T12/\T13/\(i.2).1=(i.2).1/\((i.2).2).1=((i.2).2).1/\((i.2).2).2=((i.2).2).2/\T7/\(T3 i) =
 (T3 i)/\(j.2).2=(pq.2).2/\(j.2).1=(pq.2).1/\(↑(Prod.fst j):Int)=(T34 pq)/\True)/\True/\T4/\True)/\∀(i_1:Nat×Nat×Nat),i_1.1<=2/\fb ((i_1.2).1) (i_1.1)/\fb ((i_1.2).2) 2->(decide ((T2 i_1)<2)=true->(T16 i_1)/\(T19 i_1)
 /\(T18 i)/\(T30 i_1)/\(T17 i i_1)/\true=true/\(fGt .f64 (fltV (T10 i_1)) (fltV (T8 i i_1))=true->(T30 i_1)/\(T15 i_1)/\(T18 i)/\(T16 i_1)/\(q.1 T1/\1+Int.toNat (T3 i)*5+1+Int.toNat (T2 i_1)*1<q.2 T1/\isFlt .f64 (T26 i i_1))
 /\true=true/\(fLt .f64 (T33 i_1) (fltV (T6 i i_1))=true->(T16 i_1)/\(T19 i_1)/\(T16 i_1)/\(T15 i_1)/\fok BinOp.sub .f64 (fltV (T10 i_1)) (T33 i_1)/\fok BinOp.mul .f64 ((i_1.2).1) (T28 i_1)/\true=true/\∃(pq:Nat×Nat×Nat),(T14 pq)
 /\2-pq.1<2-i_1.1/\(T12/\T13/\(i.2).1=(i.2).1/\((i.2).2).1=((i.2).2).1/\((Prod.snd i).2).2=((i.2).2).2/\T7/\(T3 i)=(T3 i)/\(i_1.2).2=(pq.2).2/\fop BinOp.mul .f64 ((i_1.2).1) (T28 i_1)=(pq.2).1/\IntKind.wrap .i64 ((T2 i_1) +
 1)=(T34 pq)/\True)/\True/\T4/\True)/\(fLt .f64 (T33 i_1) (fltV (T26 i i_1))=false->(T16 i_1)/\(T19 i_1)/\(T18 i)/\(T16 i_1)/\(T20 i i_1)/\fok BinOp.sub .f64 (fltV (T10 i_1)) (fltV (T6 i i_1))/\fok BinOp.mul .f64 ((i_1.2).1) (T31 i
 i_1)/\true=true/\∃(pq:Nat×Nat×Nat),(T14 pq)/\2-pq.1<2-i_1.1/\(T12/\T13/\(i.2).1=(i.2).1/\((i.2).2).1=((i.2).2).1/\((i.2).2).2=((i.2).2).2/\T7/\(T3 i)=(T3 i)/\(i_1.2).2=(pq.2).2/\fop BinOp.mul .f64 ((i_1.2).1)
 (T31 i i_1)=(pq.2).1/\IntKind.wrap .i64 ((T2 i_1)+1)=(T34 pq)/\True)/\True/\T4/\True))/\(fGt .f64 (fltV (T10 i_1)) (fltV (q.3 T1 (1+Int.toNat (T3 i)*5+3+Int.toNat (↑(Prod.fst i_1):Int)*1)))=false->(T16 i_1)/\(T15 i_1)/\
 (T18 i)/\(T16 i_1)/\(T20 i i_1)/\true=true/\(fLt .f64 (T33 i_1) (fltV (T6 i i_1))=true->(T18 i)/\(T16 i_1)/\(T17 i i_1)/\(T16 i_1)/\(T15 i_1)/\fok BinOp.sub .f64 (fltV (T8 i i_1)) (T33 i_1)/\fok BinOp.mul .f64 (Prod.fst (i_1.2)) (fop
 BinOp.sub .f64 (fltV (T8 i i_1)) (T33 i_1))/\true=true/\∃(pq:Nat×Nat×Nat),(T14 pq)/\2-pq.1<2-i_1.1/\(T21 i i_1 pq)/\True/\T4/\True)/\(fLt .f64 (T33 i_1) (fltV (T6 i i_1))=false->(T18 i)/\(0<=(T2 i_1)/\(T2 i_1)<(2 :
 Int))/\(T17 i i_1)/\(T18 i)/\(T30 i_1)/\(T20 i i_1)/\fok BinOp.sub .f64 (fltV (T8 i i_1)) (fltV (T6 i i_1))/\fok BinOp.mul .f64 ((i_1.2).1) (fop BinOp.sub .f64 (fltV (T8 i i_1)) (fltV (T6 i i_1)))/\true=true/\∃(pq:Nat×Nat×Nat),(T14
 pq)/\2-pq.1<2-i_1.1/\(T12/\T13/\(i.2).1=(i.2).1/\((i.2).2).1=((i.2).2).1/\((i.2).2).2=((i.2).2).2/\T7/\(T3 i)=(T3 i)/\(i_1.2).2=(pq.2).2/\fop BinOp.mul .f64 ((i_1.2).1) (fop BinOp.sub .f64 (fltV (T8 i i_1)) (fltV (T6 i
 i_1)))=(pq.2).1/\IntKind.wrap .i64 ((T2 i_1)+1)=(T34 pq)/\True)/\True/\T4/\True)))/\(decide ((T2 i_1)<2)=false->fok BinOp.sub .f64 ((i_1.2).1) ((Prod.snd i_1).2)/\(((i.2).1==(-1:Int))=true->∃(pq:Nat×Int×Nat×Nat),(T5
 pq)/\List.length T25-pq.1<List.length T25-i.1/\(T29 i i_1 pq)/\True/\T4/\True)/\(((i.2).1==(-1:Int))=false->(fLt .f64 (fop BinOp.sub .f64 ((i_1.2).1) (Prod.snd (i_1.2))) (((i.2).2).1)=true->∃(pq:Nat×Int×Nat×Nat),(T5
 pq)/\List.length T25-pq.1<List.length T25-i.1/\(T29 i i_1 pq)/\True/\T4/\True)/\(fLt .f64 (T24 i_1) (((Prod.snd i).2).1)=false->(fEq .f64 (T24 i_1) (((i.2).2).1)=true->(T27 i i_1)/\(fLt .f64 ((i_1.2).2) (((i.2).2).2)=false->∃
 (pq:Nat×Int×Nat×Nat),(T5 pq)/\List.length T25-pq.1<List.length T25-i.1/\(T12/\T13/\(i.2).1=(pq.2).1/\(Prod.snd (i.2)).1=((pq.2).2).1/\((i.2).2).2=((pq.2).2).2/\T7/\IntKind.wrap .i64 ((T3 i)+1)=(↑(pq.1):Int)/\True)
 /\True/\T4/\True))/\(fEq .f64 (T24 i_1) (((i.2).2).1)=false->∃(pq:Nat×Int×Nat×Nat),(T5 pq)/\List.length T25-pq.1<List.length T25-i.1/\(T12/\T13/\(i.2).1=(pq.2).1/\((i.2).2).1=((pq.2).2).1/\(Prod.snd (i.2)).2 =
 ((pq.2).2).2/\T7/\IntKind.wrap .i64 ((T3 i)+1)=(↑(pq.1):Int)/\True)/\True/\T4/\True))))))/\(true=false->(∃(pq:Nat×Nat×Nat),(T14 pq)/\(T12/\T13/\(i.2).1=(i.2).1/\((i.2).2).1=((i.2).2).1/\((i.2).2).2=((i.2).2).2/\T7
 /\(T3 i)=(T3 i)/\fop BinOp.sub .f64 (fltV (q.3 T1 (1+Int.toNat (T3 i)*5+3+0))) (fltV (q.3 T1 (1+Int.toNat (T3 i)*5+1+0)))=(pq.2).2/\4607182418800017408=(pq.2).1/\0=(T34 pq)/\True)/\True/\T4/\True)/\∀(j:Nat×Nat×
 Nat),j.1<=2/\fb ((j.2).1) (j.1)/\fb ((j.2).2) 2->(∃(pq:Nat×Nat×Nat),(T14 pq)/\(T12/\T13/\(i.2).1=(i.2).1/\(Prod.snd (i.2)).1=((i.2).2).1/\((i.2).2).2=((i.2).2).2/\T7/\(T3 i)=(T3 i)/\(j.2).2=(pq.2).2/\(j.2).1=(pq.2).1
 /\(↑(j.1):Int)=(T34 pq)/\True)/\True/\T4/\True)/\∀(i_1:Nat×Nat×Nat),i_1.1<=2/\fb ((i_1.2).1) (i_1.1)/\fb ((i_1.2).2) 2->(decide ((T2 i_1)<2)=true->(T16 i_1)/\(T19 i_1)/\(T18 i)/\(T16 i_1)/\(T17 i i_1)/\true=true/\
 (fGt .f64 (fltV (T10 i_1)) (fltV (T8 i i_1))=true->(T16 i_1)/\(T15 i_1)/\(T18 i)/\(T16 i_1)/\(T20 i i_1)/\true=true/\(fLt .f64 (T33 i_1) (fltV (T6 i i_1))=true->(T30 i_1)/\(T19 i_1)/\(T30 i_1)/\(T15 i_1)/\fok BinOp.sub .f64 (fltV
 (T10 i_1)) (T33 i_1)/\fok BinOp.mul .f64 ((Prod.snd i_1).1) (T28 i_1)/\true=true/\∃(pq:Nat×Nat×Nat),(T14 pq)/\2-pq.1<2-i_1.1/\(T12/\T13/\(i.2).1=(i.2).1/\((i.2).2).1=((i.2).2).1/\((i.2).2).2=((i.2).2).2/\T7/\(T3 i) =
 (T3 i)/\(i_1.2).2=(pq.2).2/\fop BinOp.mul .f64 ((i_1.2).1) (T28 i_1)=(pq.2).1/\IntKind.wrap .i64 ((T2 i_1)+1)=(T34 pq)/\True)/\True/\T4/\True)/\(fLt .f64 (T33 i_1) (fltV (T6 i i_1))=false->(0<=(T2 i_1)/\(↑(Prod.fst i_1):Int) <
 2)/\(T19 i_1)/\(T18 i)/\(T16 i_1)/\(T32 i i_1)/\fok BinOp.sub .f64 (fltV (T10 i_1)) (fltV (T6 i i_1))/\fok BinOp.mul .f64 ((i_1.2).1) (T31 i i_1)/\true=true/\∃(pq:Nat×Nat×Nat),(pq.1<=2/\fb ((pq.2).1) (Prod.fst pq)/\fb ((pq.2).2)
 2)/\2-pq.1<2-i_1.1/\(T12/\T13/\(i.2).1=(i.2).1/\(Prod.snd (i.2)).1=((i.2).2).1/\((i.2).2).2=((i.2).2).2/\T7/\(T3 i)=(T3 i)/\(i_1.2).2=(pq.2).2/\fop BinOp.mul .f64 ((i_1.2).1) (T31 i i_1)=(pq.2).1/\IntKind.wrap .i64 ((T2
 i_1)+1)=(T34 pq)/\True)/\True/\T4/\True))/\(fGt .f64 (fltV (T10 i_1)) (fltV (T8 i i_1))=false->(0<=(T2 i_1)/\(↑(Prod.fst i_1):Int)<2)/\(T15 i_1)/\(T18 i)/\(T16 i_1)/\(T32 i i_1)/\true=true/\(fLt .f64 (T33 i_1) (fltV (T6 i
 i_1))=true->(T18 i)/\(T16 i_1)/\(T17 i i_1)/\(T16 i_1)/\(T15 i_1)/\fok BinOp.sub .f64 (fltV (T8 i i_1)) (T33 i_1)/\fok BinOp.mul .f64 ((i_1.2).1) (fop BinOp.sub .f64 (fltV (T8 i i_1)) (T33 i_1))/\true=true/\∃(pq:Nat×Nat×Nat),(T14
 pq)/\2-pq.1<2-i_1.1/\(T21 i i_1 pq)/\True/\T4/\True)/\(fLt .f64 (T33 i_1) (fltV (T26 i i_1))=false->(T18 i)/\(T16 i_1)/\(T17 i i_1)/\(T18 i)/\(T16 i_1)/\(T20 i i_1)/\fok BinOp.sub .f64 (fltV (T8 i i_1)) (fltV (T6 i i_1))/\fok
 BinOp.mul .f64 ((i_1.2).1) (fop BinOp.sub .f64 (fltV (T8 i i_1)) (fltV (T6 i i_1)))/\true=true/\∃(pq:Nat×Nat×Nat),(T14 pq)/\2-pq.1<2-i_1.1/\(T12/\T13/\(i.2).1=Prod.fst (i.2)/\((i.2).2).1=((i.2).2).1/\((i.2).2).2 =
 ((i.2).2).2/\T7/\(T3 i)=(T3 i)/\(i_1.2).2=(pq.2).2/\fop BinOp.mul .f64 ((i_1.2).1) (fop BinOp.sub .f64 (fltV (T8 i i_1)) (fltV (T26 i i_1)))=(pq.2).1/\IntKind.wrap .i64 ((T2 i_1)+1)=(T34 pq)/\True)/\True/\T4/\True)))/\(decide ((T2
 i_1)<2)=false->fok BinOp.sub .f64 ((i_1.2).1) ((i_1.2).2)/\(((i.2).1==(-1:Int))=true->∃(pq:Nat×Int×Nat×Nat),(T5 pq)/\List.length T25-pq.1<List.length T25-i.1/\(T11 i i_1 pq)/\True/\T4/\True)/\(((i.2).1==(-1 :
 Int))=false->(fLt .f64 (T24 i_1) (((i.2).2).1)=true->∃(pq:Nat×Int×Nat×Nat),(T5 pq)/\List.length T25-pq.1<List.length T25-i.1/\(T11 i i_1 pq)/\True/\T4/\True)/\(fLt .f64 (T24 i_1) (((i.2).2).1)=false->(fEq .f64 (T24 i_1)
 (((i.2).2).1)=true->(T27 i i_1)/\(fLt .f64 (Prod.snd (i_1.2)) (((i.2).2).2)=false->∃(pq:Nat×Int×Nat×Nat),(T5 pq)/\List.length T25-pq.1<List.length T25-i.1/\(T12/\T13/\(i.2).1=(pq.2).1/\((i.2).2).1=((pq.2).2).1/\
 ((i.2).2).2=(Prod.snd (pq.2)).2/\T7/\IntKind.wrap .i64 ((T3 i)+1)=(↑(pq.1):Int)/\True)/\True/\T4/\True))/\(fEq .f64 (T24 i_1) (((i.2).2).1)=false->∃(pq:Nat×Int×Nat×Nat),(T5 pq)/\List.length T25-pq.1<List.length T25 -
 i.1/\(T12/\T13/\(i.2).1=(pq.2).1/\((i.2).2).1=((pq.2).2).1/\((i.2).2).2=((pq.2).2).2/\T7/\IntKind.wrap .i64 ((T3 i)+1)=(↑(pq.1):Int)/\True)/\True/\T4/\True))))))/\(decide ((T3 i)<intV (q.3 T1 0))=false->R (Option.some
 (Ob.mk true 0 (Cont.raw ts (RM.D q) q.2 q.3) 0)) (SV.int .i64 ((i.2).1)))):=by subst t1 t2 t3 t4 t5 t6 t7 t8 t9 t10 t11 t12 t13 t14 t15 t16 t17 t18 t19 t20 t21 t22 t23 t24 t25 t26 t27 t28 t29 t30 t31 t32 t33 t34;kernel_rfl
theorem rChoose:RConOk Try.prog 65 (rconR (Nat) ⟨default⟩ rChooseC):=by
 refine rcon_raw x0 Try.func65 rfl (by kernel_rfl) λargs=>?_
 unfold rChooseC;split
 ·rename_i n rb rc n1 bb bc;intro o0;try dsimp only;split
  ·rename_i ts q hm0;intro ho;replace ho:n=n1/\(hangs q rb rc/\okR q bb bc/\1<=(ndOf q (kb (q.F rb rc))).length):=ho;obtain⟨heq0,ho⟩:=ho;subst heq0;refine⟨?_,Nat.succ_pos _,ts,λ(i:Nat)=>q,λ(i:Nat)=>.int .i64 (i:Nat),λ_=>rfl,?_,_,_,(vc_rChoose (RPost 1 ts (λ(i:Nat)=>i<(ndOf q (kb (q.F rb rc))).length) (λ(i:Nat)=>q) (λ(i:Nat)=>.int .i64 (i:Nat))) ts q rb rc bb bc rfl rfl rfl rfl rfl rfl rfl rfl rfl rfl rfl rfl rfl rfl rfl rfl rfl rfl rfl rfl rfl rfl rfl rfl rfl rfl rfl rfl rfl rfl rfl rfl rfl rfl).mpr ?_⟩
   ·refine okFlag_mk rfl ⟨λ_=>rfl,?_,⟨trivial,obR_rawOf hm0,trivial⟩⟩;simp[eqvRL,eqvR,sgSig,fsts,nth,sameN_self]
   ·intro i _;rfl
   ·obtain⟨⟨d,s,hr,hne,hnd⟩,⟨d2,s2,b2⟩,hl1⟩:=ho;obtain⟨f1,f2,f3,f4⟩:=hr.facts;simp only[true_and,and_true,eq_self,Int.toNat_natCast,Nat.mul_one,decide_eq_true_eq,decide_eq_false_iff_not,true_implies,false_implies,Bool.false_eq_true,reduceCtorEq,Int.reduceLE,Int.reduceLT,Int.le_refl];simp only[Nat.add_zero,f3,f4];generalize kb (q.F rb rc)=nb at *;generalize ndOf q nb=l at *;have hle:=hnd.le;have hS:=hnd.S;have hn:intV (q.F nb 0)=(l.length:Nat):=by rw[hnd.n];rfl
    refine⟨⟨d,by omega⟩,⟨f1,f2⟩,⟨(0,-1,0,0),⟨Nat.zero_le _, .inl ⟨rfl,rfl⟩⟩,(by and_intros <;> first|trivial|rfl|(rw[wrap64 (by omega) (by omega)];first|rfl|omega))⟩,?_⟩;rintro⟨i,j,x6,x7⟩ ⟨hi,hj⟩;dsimp only at hi hj ⊢;simp only[hn,hnd.D,d2,true_and];refine⟨⟨by omega,by rw[hnd.n];rfl⟩,λhlt=>?_,λhge=>?_⟩
    ·have hi2:i<l.length:=by omega
     have hb:=hnd.B i _ (List.getElem?_eq_getElem hi2);rw[Nat.mul_comm]at hb;have a0:=hb.lo (k:=0) (by omega);have a1:=hb.lo (k:=1) (by omega);have a2:=hb.hi (k:=0) (by omega);have a3:=hb.hi (k:=1) (by omega);simp only[Nat.add_zero]at a0 a2;obtain⟨m1,m2⟩:=fb_sub a2 a0;obtain⟨m3,m4⟩:=fb_sub a3 a1;obtain⟨m5,m6⟩:=fb_mul m2 m4 (by omega);have hr17:(0:Int)<=i/\(i:Int)<17:=by omega
     simp only[a0.flt,a1.flt,a2.flt,a3.flt,m1,m3,m5,and_true,true_and];refine⟨hr17,by omega,hr17,by omega,hr17,by omega,hr17,by omega,⟨(0,_,_),⟨Nat.zero_le _,fb_one,m6⟩,(by and_intros <;> first|trivial|rfl|(rw[wrap64 (by omega) (by omega)];first|rfl|omega))⟩,?_⟩;rintro⟨k0,x0,y0⟩ ⟨hk0,hx0,hy0⟩;dsimp only at hk0 hx0 hy0 ⊢;refine⟨⟨(k0,x0,y0),⟨hk0,hx0,hy0⟩,(by and_intros <;> first|trivial|rfl|(rw[wrap64 (by omega) (by omega)];first|rfl|omega))⟩,?_⟩;rintro⟨k,x,y⟩ ⟨hk,hx,hy⟩;dsimp only at hk hx hy ⊢;refine⟨λhk1=>?_,λhk1=>?_⟩
     ·have hk2:k<2:=by omega
      have b0:=b2.lo hk2;have b1:=b2.hi hk2;have c0:=hb.lo hk2;have c1:=hb.hi hk2;have n1:=fb_sub b1 b0;have n2:=fb_sub b1 c0;have n3:=fb_sub c1 b0;have n4:=fb_sub c1 c0;have hk3:(0:Int)<=k/\(k:Int)<2:=by omega
      simp only[b0.flt,b1.flt,c0.flt,c1.flt,n1.1,n2.1,n3.1,n4.1,(fb_mul hx n1.2 (by omega)).1,(fb_mul hx n2.2 (by omega)).1,(fb_mul hx n3.2 (by omega)).1,(fb_mul hx n4.2 (by omega)).1,hk3.1,hk3.2,hr17.1,hr17.2,and_true,true_and]
      refine⟨by omega,by omega,λ_=>⟨by omega,by omega,λ_=>⟨by omega,by omega,(k+1,_,_),⟨by omega,(fb_mul hx n1.2 (by omega)).2,hy⟩,by show 2-(k+1)<2-k;omega,(by and_intros <;> first|trivial|rfl|(rw[wrap64 (by omega) (by omega)];first|rfl|omega))⟩,λ_=>⟨by omega,by omega,(k+1,_,_),⟨by omega,(fb_mul hx n2.2 (by omega)).2,hy⟩,by show 2-(k+1)<2-k;omega,(by and_intros <;> first|trivial|rfl|(rw[wrap64 (by omega) (by omega)];first|rfl|omega))⟩⟩,
       λ_=>⟨by omega,by omega,λ_=>⟨by omega,by omega,(k+1,_,_),⟨by omega,(fb_mul hx n3.2 (by omega)).2,hy⟩,by show 2-(k+1)<2-k;omega,(by and_intros <;> first|trivial|rfl|(rw[wrap64 (by omega) (by omega)];first|rfl|omega))⟩,λ_=>⟨by omega,by omega,(k+1,_,_),⟨by omega,(fb_mul hx n4.2 (by omega)).2,hy⟩,by show 2-(k+1)<2-k;omega,(by and_intros <;> first|trivial|rfl|(rw[wrap64 (by omega) (by omega)];first|rfl|omega))⟩⟩⟩
     ·have hk2:k=2:=by omega
      subst hk2;refine⟨fb_diff hx hy,λ_=>⟨(i+1,(i:Int),_,_),⟨by show i+1<=l.length;omega, .inr ⟨by show (0:Int)<=i;omega,by show (i:Int)<((i+1:Nat):Int);omega⟩⟩,by show l.length-(i+1)<l.length-i;omega,(by and_intros <;> first|trivial|rfl|(rw[wrap64 (by omega) (by omega)];first|rfl|omega))⟩,λhj1=>?_⟩;have hj2:j≠-1:=λe=>by rw[e]at hj1;exact absurd hj1 (by decide)
      exact⟨λ_=>⟨(i+1,(i:Int),_,_),⟨by show i+1<=l.length;omega, .inr ⟨by show (0:Int)<=i;omega,by show (i:Int)<((i+1:Nat):Int);omega⟩⟩,by show l.length-(i+1)<l.length-i;omega,(by and_intros <;> first|trivial|rfl|(rw[wrap64 (by omega) (by omega)];first|rfl|omega))⟩,λ_=>⟨λ_=>⟨λ_=>⟨(i+1,(i:Int),_,_),⟨by show i+1<=l.length;omega, .inr ⟨by show (0:Int)<=i;omega,by show (i:Int)<((i+1:Nat):Int);omega⟩⟩,by show l.length-(i+1)<l.length-i;omega,(by and_intros <;> first|trivial|rfl|(rw[wrap64 (by omega) (by omega)];first|rfl|omega))⟩,λ_=>⟨(i+1,j,_,_),⟨by show i+1<=l.length;omega, .inr ⟨by show (0:Int)<=j;omega,by show j<((i+1:Nat):Int);omega⟩⟩,by show l.length-(i+1)<l.length-i;omega,(by and_intros <;> first|trivial|rfl|(rw[wrap64 (by omega) (by omega)];first|rfl|omega))⟩⟩,λ_=>⟨(i+1,j,_,_),⟨by show i+1<=l.length;omega, .inr ⟨by show (0:Int)<=j;omega,by show j<((i+1:Nat):Int);omega⟩⟩,by show l.length-(i+1)<l.length-i;omega,(by and_intros <;> first|trivial|rfl|(rw[wrap64 (by omega) (by omega)];first|rfl|omega))⟩⟩⟩
    ·have e:i=l.length:=by omega
     subst e;refine⟨j.toNat,?_,rfl,?_⟩
     ·show j.toNat<l.length;omega
     ·show j=((j.toNat:Nat):Int);omega
  ·trivial
 ·trivial
def okP2(q:RM)(b c:Nat):Prop:=q.D b/\c+2<=q.S b/\fz (q.F b c) (zI (q.F b c))/\fz (q.F b (c+1)) (zI (q.F b (c+1)))
theorem okP2.mk'{q:RM}{b c:Nat}{x y:Int}(hD:q.D b)(hS:c+2<=q.S b)(h1:fz (q.F b c) x)(h2:fz (q.F b (c+1)) y):okP2 q b c:=⟨hD,hS,by rw[h1.zI];exact h1,by rw[h2.zI];exact h2⟩
def fW(rb rc:Nat):Nat->Nat->Prop:=λb c=>b=rb/\rc<=c/\c<rc+5
def fitF(q:RM)(mb mc xb xc rb rc:Nat)(v:Value):RM:=⟨q.D,q.S,updN (updN (updN (updN (updN q.F rb (rc+1) (q.F mb mc)) rb (rc+3) (q.F xb xc)) rb (rc+1+1) (q.F mb (mc+1))) rb (rc+3+1) (q.F xb (xc+1))) rb rc v⟩
def fitP(q:RM)(mb mc xb xc rb rc:Nat)(v:Value)(q':RM):Prop :=
 sameBut q q' (fW rb rc)/\isBox q'.F rb rc ⟨zI (q.F mb mc),zI (q.F mb (mc+1)),zI (q.F xb xc),zI (q.F xb (xc+1))⟩/\q'.F rb rc=v
def fitO(q:RM)(mb mc l xb xc l1 rb rc:Nat):Prop:=(l=2/\l1=2)/\okP2 q mb mc/\okP2 q xb xc/\(mb≠rb/\xb≠rb)/\q.D rb/\rc+5<=q.S rb
theorem fit_main{q:RM}{mb mc l xb xc l1 rb rc:Nat}{v:Value}(ho:fitO q mb mc l xb xc l1 rb rc) :
  fitP q mb mc xb xc rb rc v (fitF q mb mc xb xc rb rc v):=by
 obtain⟨_,⟨d1,s1,a0,a1⟩,⟨d2,s2,b0,b1⟩,⟨n1,n2⟩,d,s⟩:=ho;refine⟨⟨rfl,rfl,λb c hw=>?_⟩,⟨?_,?_,?_,?_⟩,updN_eq⟩
 ·unfold fW at hw;show updN _ _ _ _ _ _=_;rw[updN_off (by omega),updN_off (by omega),updN_off (by omega),updN_off (by omega),updN_off (by omega)]
 ·simpa [fitF,updN]using a0
 ·simpa [fitF,updN]using a1
 ·simpa [fitF,updN]using b0
 ·simpa [fitF,updN]using b1
noncomputable def rFitIC:List SV->RRd (Unit)
 | [.slb n mb mc l k, .slb n1 xb xc l1 k1, .ifc t (.int .i64 v), .pb n2 rb rc]=>.read n λo0=>(match rawOf o0 with
  | some (ts,q)=>.ret ⟨[.slb 0 mb mc l k, .slb 0 xb xc l1 k1, .ifc t (.int .i64 v), .pb 0 rb rc],[(0,rwO ts q)],some (n=n1/\n=n2/\(fitO q mb mc l xb xc l1 rb rc)),λ_i=>True,λ_i=>⟨[],[], .tup [],[(0,rwO ts (fitF q mb mc xb xc rb rc (.iface t (.int .i64 v))))],[],none⟩⟩
  | none=>.fail)
 | _=>.fail
theorem vc_rFitI(R:Option Ob->SV->Prop)(ts:List Nat)(q:RM)(mb mc l k xb xc l1 k1 t:Nat)(v:Int)(rb rc:Nat){T1}(t1:T1=(Value.float .f64 (fltV (updN q.3 rb (rc+1+0) (Value.float .f64 (fltV (q.3 mb (mc+0)))) xb (xc+0))))){T2}(t2:T2=(updN q.3 rb (rc+1+0) (Value.float .f64 (fltV (q.3 mb (mc+0)))))){T3}(t3:T3=(Value.float .f64 (fltV (updN T2 rb
 (rc+3+0) T1 mb (mc+1))))){T4}(t4:T4=(Value.float .f64 (fltV (updN (updN T2 rb (rc+3+0) T1) rb (rc+1+1) T3 xb (xc+1))))){T5}(t5:T5=(updN (updN T2 rb (rc+3+0) T1) rb (rc+1+1) T3)){T6}(t6:T6=(q.1 rb/\rc+0+1<=q.2
 rb)){T7}(t7:T7=(Value.iface t (Value.int .i64 v))){T8}(t8:T8=(↑l:Int)){T9}(t9:T9=(↑l1:Int)):runG X0 1 [(7, .iter 3)] [] (codeOf Try.f50) (init Try.f50.ntmps [.slb 0 mb mc l k, .slb 0 xb xc l1 k1, .ifc t (.int .i64 v), .pb 0 rb rc] [(0,rwO ts q)] 1) (endK X0.G.E.T Try.f50.results.toList λS v=>R (Go.Sx.look S.H 0) v)=(
 ((T8 != T9)=true->False)/\((T8 != T9)=false->((T8 != (2:Int))=true->False)/\((T8 != (2:Int))=false->(true=true->((0:Int)<=0/\0<T8)/\(q.1 mb/\mc+0<q.2 mb/\isFlt .f64 (q.3 mb (mc+0)))/\((0:Int)<=0/\(0:Int) <
 2)/\(q.1 rb/\rc+1+0+1<=q.2 rb)/\true=true/\((0:Int)<=0/\0<T9)/\(q.1 xb/\xc+0<q.2 xb/\isFlt .f64 (updN q.3 rb (rc+1+0) (Value.float .f64 (fltV (q.3 mb (mc+0)))) xb (xc+0)))/\((0:Int)<=0/\(0:Int)<2)/\(q.1 rb
 /\rc+3+0+1<=q.2 rb)/\true=true/\(true=true->((0:Int)<=1/\1<T8)/\(q.1 mb/\mc+1<q.2 mb/\isFlt .f64 (updN T2 rb (rc+3+0) T1 mb (mc+1)))/\((0:Int)<=1/\(1:Int)<2)/\(q.1 rb/\rc+1+1+1<=q.2 rb)/\true=true
 /\((0:Int)<=1/\1<T9)/\(q.1 xb/\xc+1<q.2 xb/\isFlt .f64 (updN (updN T2 rb (rc+3+0) T1) rb (rc+1+1) T3 xb (xc+1)))/\((0:Int)<=1/\(1:Int)<2)/\(q.1 rb/\rc+3+1+1<=q.2 rb)/\true=true/\(false=true->((0:Int)
 <=2/\2<T8)/\(q.1 mb/\mc+2<q.2 mb/\isFlt .f64 (updN T5 rb (rc+3+1) T4 mb (mc+2)))/\((0:Int)<=2/\(2:Int)<2)/\(q.1 rb/\rc+1+2+1<=q.2 rb)/\true=true/\((0:Int)<=2/\2<T9)/\(q.1 xb/\xc+2<q.2 xb/\isFlt .f64
 (updN (updN T5 rb (rc+3+1) T4) rb (rc+1+2) (Value.float .f64 (fltV (updN T5 rb (rc+3+1) T4 mb (mc+2)))) xb (xc+2)))/\((0:Int)<=2/\(2:Int)<2)/\(q.1 rb/\rc+3+2+1<=q.2 rb)/\true=true/\False)/\(false=false->T6/\
 R (Option.some (Ob.mk true 0 (Cont.raw ts (RM.D q) q.2 (updN (updN T5 rb (rc+3+1) T4) rb (rc+0) T7)) 0)) (SV.tup [])))/\(true=false->T6/\R (Option.some (Ob.mk true 0 (Cont.raw ts (RM.D q) q.2 (updN (updN T2 rb (rc+3+0) T1) rb (rc+0)
 T7)) 0)) (SV.tup [])))/\(true=false->T6/\R (Option.some (Ob.mk true 0 (Cont.raw ts (RM.D q) q.2 (updN q.3 rb (rc+0) T7)) 0)) (SV.tup []))))):=by subst t1 t2 t3 t4 t5 t6 t7 t8 t9;kernel_rfl
theorem rFitI:RConOk Try.prog 50 (rconR (Unit) ⟨()⟩ rFitIC):=by
 refine rcon_raw x0 Try.func50 rfl (by kernel_rfl) λargs=>?_
 unfold rFitIC;split
 ·rename_i n mb mc l k n1 xb xc l1 k1 t v n2 rb rc;intro o0;try dsimp only;split
  ·rename_i ts q hm0;intro ho;replace ho:n=n1/\n=n2/\(fitO q mb mc l xb xc l1 rb rc):=ho;obtain⟨heq0,heq1,ho⟩:=ho;subst heq0;subst heq1;refine⟨?_,Nat.succ_pos _,ts,λ(_i:Unit)=>fitF q mb mc xb xc rb rc (.iface t (.int .i64 v)),λ(_i:Unit)=>.tup [],λ_=>rfl,?_,_,_,(vc_rFitI (RPost 1 ts (λ(_i:Unit)=>True) (λ(_i:Unit)=>fitF q mb mc xb xc rb rc (.iface t (.int .i64 v))) (λ(_i:Unit)=>.tup [])) ts q mb mc l k xb xc l1 k1 t v rb rc rfl rfl rfl rfl rfl rfl rfl rfl rfl).mpr ?_⟩
   ·refine okFlag_mk rfl ⟨λ_=>rfl,?_,⟨trivial,obR_rawOf hm0,trivial⟩⟩;simp[eqvRL,eqvR,kEq_self,sgSig,fsts,nth,sameN_self]
   ·intro _i _;rfl
   ·have hm:fitF q mb mc xb xc rb rc (.iface t (.int .i64 v))=fitF q mb mc xb xc rb rc (.iface t (.int .i64 v)):=rfl;obtain⟨⟨rfl,rfl⟩,⟨d1,s1,a0,a1⟩,⟨d2,s2,b0,b1⟩,⟨n1',n2'⟩,d,s⟩:=ho;have hoff1:∀(F:Nat->Nat->Value)(c:Nat)(v:Value)(c':Nat),updN F rb c v mb c'=F mb c':=λ_ _ _ _=>updN_off (.inl n1')
    have hoff2:∀(F:Nat->Nat->Value)(c:Nat)(v:Value)(c':Nat),updN F rb c v xb c'=F xb c':=λ_ _ _ _=>updN_off (.inl n2')
    have e0:Value.float .f64 (fltV (q.F mb mc))=q.F mb mc:=a0.1.symm;have e1:Value.float .f64 (fltV (q.F mb (mc+1)))=q.F mb (mc+1):=a1.1.symm;have e2:Value.float .f64 (fltV (q.F xb xc))=q.F xb xc:=b0.1.symm;have e3:Value.float .f64 (fltV (q.F xb (xc+1)))=q.F xb (xc+1):=b1.1.symm;have h2:(((2:Nat):Int) != (2:Int))=false:=rfl;have h3:(((2:Nat):Int) != ((2:Nat):Int))=false:=rfl;simp only[true_and,and_true,eq_self,true_implies,false_implies,Bool.false_eq_true,reduceCtorEq,Int.reduceLE,Int.reduceLT,Int.le_refl]
    simp only[Nat.add_zero,hoff1,hoff2,a0.flt,a1.flt,b0.flt,b1.flt,e0,e1,e2,e3,d,d1,d2,h2,h3,true_and,and_true,true_implies,false_implies,Bool.false_eq_true]
    and_intros
    all_goals first|omega|exact⟨(),trivial,rfl,trivial⟩
  ·trivial
 ·trivial
noncomputable def rFitPC:List SV->RRd (Unit)
 | [.slb n mb mc l k, .slb n1 xb xc l1 k1, .ifc t (.pb n3 pb pc), .pb n2 rb rc]=>.read n λo0=>(match rawOf o0 with
  | some (ts,q)=>.ret ⟨[.slb 0 mb mc l k, .slb 0 xb xc l1 k1, .ifc t (.pb 0 pb pc), .pb 0 rb rc],[(0,rwO ts q)],some (n=n1/\n=n2/\n=n3/\(fitO q mb mc l xb xc l1 rb rc)),λ_i=>True,λ_i=>⟨[],[], .tup [],[(0,rwO ts (fitF q mb mc xb xc rb rc (.iface t (.pointer (some ⟨pb,pc,none⟩)))))],[],none⟩⟩
  | none=>.fail)
 | _=>.fail
theorem vc_rFitP(R:Option Ob->SV->Prop)(ts:List Nat)(q:RM)(mb mc l k xb xc l1 k1 t pb pc rb rc:Nat){T1}(t1:T1=(Value.float .f64 (fltV (updN q.3 rb (rc+1+0) (Value.float .f64 (fltV (q.3 mb (mc+0)))) xb (xc+0))))){T2}(t2:T2=(updN q.3 rb (rc+1+0) (Value.float .f64 (fltV (q.3 mb (mc+0)))))){T3}(t3:T3=(Value.float .f64 (fltV (updN T2 rb
 (rc+3+0) T1 mb (mc+1))))){T4}(t4:T4=(Value.float .f64 (fltV (updN (updN T2 rb (rc+3+0) T1) rb (rc+1+1) T3 xb (xc+1))))){T5}(t5:T5=(updN (updN T2 rb (rc+3+0) T1) rb (rc+1+1) T3)){T6}(t6:T6=(Value.iface t (Value.pointer
 (Option.some (Addr.mk pb pc Option.none))))){T7}(t7:T7=(q.1 rb/\rc+0+1<=q.2 rb)){T8}(t8:T8=(↑l:Int)){T9}(t9:T9=(↑l1:Int)):runG X0 1 [(7, .iter 3)] [] (codeOf Try.f50) (init Try.f50.ntmps [.slb 0 mb mc l k, .slb 0 xb xc l1 k1, .ifc t (.pb 0 pb pc), .pb 0 rb rc] [(0,rwO ts q)] 1) (endK X0.G.E.T Try.f50.results.toList λS v=>R (Go.Sx.look S.H 0) v)=(
 ((T8 != T9)=true->False)/\((T8 != T9)=false->((T8 != (2:Int))=true->False)/\((T8 != (2:Int))=false->(true=true->((0:Int)<=0/\0<T8)/\(q.1 mb/\mc+0<q.2 mb/\isFlt .f64 (q.3 mb (mc+0)))/\((0:Int)<=0/\(0:Int) <
 2)/\(q.1 rb/\rc+1+0+1<=q.2 rb)/\true=true/\((0:Int)<=0/\0<T9)/\(q.1 xb/\xc+0<q.2 xb/\isFlt .f64 (updN q.3 rb (rc+1+0) (Value.float .f64 (fltV (q.3 mb (mc+0)))) xb (xc+0)))/\((0:Int)<=0/\(0:Int)<2)/\(q.1 rb
 /\rc+3+0+1<=q.2 rb)/\true=true/\(true=true->((0:Int)<=1/\1<T8)/\(q.1 mb/\mc+1<q.2 mb/\isFlt .f64 (updN T2 rb (rc+3+0) T1 mb (mc+1)))/\((0:Int)<=1/\(1:Int)<2)/\(q.1 rb/\rc+1+1+1<=q.2 rb)/\true=true
 /\((0:Int)<=1/\1<T9)/\(q.1 xb/\xc+1<q.2 xb/\isFlt .f64 (updN (updN T2 rb (rc+3+0) T1) rb (rc+1+1) T3 xb (xc+1)))/\((0:Int)<=1/\(1:Int)<2)/\(q.1 rb/\rc+3+1+1<=q.2 rb)/\true=true/\(false=true->((0:Int)
 <=2/\2<T8)/\(q.1 mb/\mc+2<q.2 mb/\isFlt .f64 (updN T5 rb (rc+3+1) T4 mb (mc+2)))/\((0:Int)<=2/\(2:Int)<2)/\(q.1 rb/\rc+1+2+1<=q.2 rb)/\true=true/\((0:Int)<=2/\2<T9)/\(q.1 xb/\xc+2<q.2 xb/\isFlt .f64
 (updN (updN T5 rb (rc+3+1) T4) rb (rc+1+2) (Value.float .f64 (fltV (updN T5 rb (rc+3+1) T4 mb (mc+2)))) xb (xc+2)))/\((0:Int)<=2/\(2:Int)<2)/\(q.1 rb/\rc+3+2+1<=q.2 rb)/\true=true/\False)/\(false=false->T7/\
 R (Option.some (Ob.mk true 0 (Cont.raw ts (RM.D q) q.2 (updN (updN T5 rb (rc+3+1) T4) rb (rc+0) T6)) 0)) (SV.tup [])))/\(true=false->T7/\R (Option.some (Ob.mk true 0 (Cont.raw ts (RM.D q) q.2 (updN (updN T2 rb (rc+3+0) T1) rb (rc+0)
 T6)) 0)) (SV.tup [])))/\(true=false->T7/\R (Option.some (Ob.mk true 0 (Cont.raw ts (RM.D q) q.2 (updN q.3 rb (rc+0) T6)) 0)) (SV.tup []))))):=by subst t1 t2 t3 t4 t5 t6 t7 t8 t9;kernel_rfl
theorem rFitP:RConOk Try.prog 50 (rconR (Unit) ⟨()⟩ rFitPC):=by
 refine rcon_raw x0 Try.func50 rfl (by kernel_rfl) λargs=>?_
 unfold rFitPC;split
 ·rename_i n mb mc l k n1 xb xc l1 k1 t n3 pb pc n2 rb rc;intro o0;try dsimp only;split
  ·rename_i ts q hm0;intro ho;replace ho:n=n1/\n=n2/\n=n3/\(fitO q mb mc l xb xc l1 rb rc):=ho;obtain⟨heq0,heq1,heq2,ho⟩:=ho;subst heq0;subst heq1;subst heq2;refine⟨?_,Nat.succ_pos _,ts,λ(_i:Unit)=>fitF q mb mc xb xc rb rc (.iface t (.pointer (some ⟨pb,pc,none⟩))),λ(_i:Unit)=>.tup [],λ_=>rfl,?_,_,_,(vc_rFitP (RPost 1 ts (λ(_i:Unit)=>True) (λ(_i:Unit)=>fitF q mb mc xb xc rb rc (.iface t (.pointer (some ⟨pb,pc,none⟩)))) (λ(_i:Unit)=>.tup [])) ts q mb mc l k xb xc l1 k1 t pb pc rb rc rfl rfl rfl rfl rfl rfl rfl rfl rfl).mpr ?_⟩
   ·refine okFlag_mk rfl ⟨λ_=>rfl,?_,⟨trivial,obR_rawOf hm0,trivial⟩⟩;simp[eqvRL,eqvR,sgSig,fsts,nth,sameN_self]
   ·intro _i _;rfl
   ·have hm:fitF q mb mc xb xc rb rc (.iface t (.pointer (some ⟨pb,pc,none⟩)))=fitF q mb mc xb xc rb rc (.iface t (.pointer (some ⟨pb,pc,none⟩))):=rfl;obtain⟨⟨rfl,rfl⟩,⟨d1,s1,a0,a1⟩,⟨d2,s2,b0,b1⟩,⟨n1',n2'⟩,d,s⟩:=ho;have hoff1:∀(F:Nat->Nat->Value)(c:Nat)(v:Value)(c':Nat),updN F rb c v mb c'=F mb c':=λ_ _ _ _=>updN_off (.inl n1')
    have hoff2:∀(F:Nat->Nat->Value)(c:Nat)(v:Value)(c':Nat),updN F rb c v xb c'=F xb c':=λ_ _ _ _=>updN_off (.inl n2')
    have e0:Value.float .f64 (fltV (q.F mb mc))=q.F mb mc:=a0.1.symm;have e1:Value.float .f64 (fltV (q.F mb (mc+1)))=q.F mb (mc+1):=a1.1.symm;have e2:Value.float .f64 (fltV (q.F xb xc))=q.F xb xc:=b0.1.symm;have e3:Value.float .f64 (fltV (q.F xb (xc+1)))=q.F xb (xc+1):=b1.1.symm;have h2:(((2:Nat):Int) != (2:Int))=false:=rfl;have h3:(((2:Nat):Int) != ((2:Nat):Int))=false:=rfl;simp only[true_and,and_true,eq_self,true_implies,false_implies,Bool.false_eq_true,reduceCtorEq,Int.reduceLE,Int.reduceLT,Int.le_refl]
    simp only[Nat.add_zero,hoff1,hoff2,a0.flt,a1.flt,b0.flt,b1.flt,e0,e1,e2,e3,d,d1,d2,h2,h3,true_and,and_true,true_implies,false_implies,Bool.false_eq_true]
    and_intros
    all_goals first|omega|exact⟨(),trivial,rfl,trivial⟩
  ·trivial
 ·trivial
theorem rFitI':ConOk Try.prog 50 (detR (rconR Unit ⟨()⟩ rFitIC) ()):=detR_ok rFitI () λ_=>rfl
theorem rFitP':ConOk Try.prog 50 (detR (rconR Unit ⟨()⟩ rFitPC) ()):=detR_ok rFitP () λ_=>rfl
structure SpI where
 a:Nat
 x:Nat
 b:Nat
 i:Nat
 v:Value
 q:RM
structure isAs (q0:RM) (b:Nat) (q:RM) (v:Value) (E:List En):Prop where
 sl:isSlN v
 n:slL v=E.length
 le:slL v<=slK v
 D:0<slK v->q.D (slB v)/\slC v+slK v*5<=q.S (slB v)/\¬q0.D (slB v)/\slB v≠b
 c:∀(j:Nat)(e:En),E[j]? = some e->q.F (slB v) (slC v+5*j)=e.v
 o:∀(j:Nat)(e:En),E[j]? = some e->e.v.oneCell'=true
 B:∀ j e,E[j]? = some e->isBox q.F (slB v) (slC v+5*j) e.B
def spFr(W:Nat->Nat->Prop)(q q':RM)(nb:Nat):Prop:=(∀ c,q.D c->q'.D c/\q'.S c=q.S c)/\∀ c k,q.D c->c≠nb->¬W c k->q'.F c k=q.F c k
structure spA (q:RM) (rb rc qb qc:Nat) (p:SpI) (L R E:List En):Prop where
 a:p.a<2
 fr:spFr (λc k=>c=qb/\k=qc) q p.q (kb (q.F rb rc))
 nw:¬q.D p.b
 l:isNd p.q (kb (q.F rb rc)) L
 r:isNd p.q p.b R
 e:isAs q p.b p.q p.v E
 dat:p.q.F qb qc=.iface 134 (.pointer (some ⟨p.b,0,none⟩))
def stayP(a:Nat)(B:Bx)(e:En):Prop:=e.B.lo a-B.lo a<B.hi a-e.B.hi a
def goP(a:Nat)(B:Bx)(e:En):Prop:=B.hi a-e.B.hi a<e.B.lo a-B.lo a
def sp1X(q:RM)(rb rc qb qc:Nat)(p:SpI):Prop:=∃ L R E,spA q rb rc qb qc p L R E/\(L++R++E).Perm (ndOf q (kb (q.F rb rc)))/\p.i<=L.length/\
 (∀ j e,j<p.i->L[j]? = some e->stayP p.a (bxOf q.F rb rc) e)/\∀ e∈R,goP p.a (bxOf q.F rb rc) e
def spM(q:RM)(rb rc qb qc:Nat)(p:SpI):Prop:=∃ L R E,spA q rb rc qb qc p L R E/\(swapR L p.i++R++E).Perm (ndOf q (kb (q.F rb rc)))/\p.i<L.length/\
 (∀ j e,j<p.i->L[j]? = some e->stayP p.a (bxOf q.F rb rc) e)/\∀ e∈R,goP p.a (bxOf q.F rb rc) e
def sp2(q:RM)(rb rc qb qc:Nat)(p:SpI):Prop:=∃ L R E,spA q rb rc qb qc p L R E/\(L++R++E.drop p.i).Perm (ndOf q (kb (q.F rb rc)))/\(p.i<=E.length/\E.length<=17)/\
 (L=[]->E.drop p.i≠[])/\(R=[]->E.drop p.i≠[])
noncomputable def spSt(ts:List Nat)(rb rc qb qc nb:Nat)(p:SpI):St :=
 ⟨194,[(0, .pb 0 rb rc),(1, .pb 0 qb qc),(4, .int .i64 p.a),(6, .pb 0 rb rc),(7, .pb 0 nb 0),(8, .pb 0 p.b 0),(9, .dv 0 p.v),(10, .int .i64 p.i)],[(0,rwO ts p.q)],1⟩
noncomputable def spSt2(ts:List Nat)(rb rc qb qc nb:Nat)(p:SpI):St :=
 ⟨194,[(0, .pb 0 rb rc),(1, .pb 0 qb qc),(6, .pb 0 rb rc),(7, .pb 0 nb 0),(8, .pb 0 p.b 0),(142, .dv 0 p.v),(143, .int .i64 (slL p.v:Nat)),(144, .int .i64 p.i)],[(0,rwO ts p.q)],1⟩
noncomputable def spL1(ts:List Nat)(q:RM)(rb rc qb qc:Nat):LFam :=
 ⟨⟨SpI,spSt ts rb rc qb qc (kb (q.F rb rc)),sp1X q rb rc qb qc,λp=>(intV (p.q.F (kb (q.F rb rc)) 0)).toNat-p.i⟩,
  λp=>[(16,⟨SpI,spSt ts rb rc qb qc (kb (q.F rb rc)),λp'=>spM q rb rc qb qc p'/\p'.i=p.i/\p'.q.F (kb (q.F rb rc)) 0=p.q.F (kb (q.F rb rc)) 0,λ_=>0⟩)]⟩
noncomputable def spL2(ts:List Nat)(q:RM)(rb rc qb qc:Nat):LFam :=
 ⟨⟨SpI,spSt2 ts rb rc qb qc (kb (q.F rb rc)),sp2 q rb rc qb qc,λp=>slL p.v-p.i⟩,λ_=>[]⟩
def spP(q:RM)(rb rc qb qc:Nat)(q':RM):Prop:=∃ b2 L R B1 B2,¬q.D b2/\(L++R).Perm (ndOf q (kb (q.F rb rc)))/\L≠[]/\R≠[]/\isNd q' (kb (q.F rb rc)) L/\isNd q' b2 R/\
 q'.F qb qc=.iface 134 (.pointer (some ⟨b2,0,none⟩))/\isBox q'.F rb rc B1/\tight B1 (L.map (·.B))/\isBox q'.F qb qc B2/\tight B2 (R.map (·.B))/\
 spFr (λc k=>(c=qb/\qc<=k/\k<qc+5)∨rW rb rc c k) q q' (kb (q.F rb rc))
def spO(q:RM)(rb rc qb qc:Nat):Prop:=hangs q rb rc/\okR q rb rc/\tight (bxOf q.F rb rc) ((ndOf q (kb (q.F rb rc))).map (·.B))/\(ndOf q (kb (q.F rb rc))).length=17/\
 (q.D qb/\qc+5<=q.S qb)/\qb≠kb (q.F rb rc)/\apart rb rc qb qc
def cp5(F:Nat->Nat->Value)(b c:Nat)(G:Nat->Nat->Value)(b0 c0:Nat):Nat->Nat->Value :=
 updN (updN (updN (updN (updN F b c (G b0 c0)) b (c+1) (G b0 (c0+1))) b (c+1+1) (G b0 (c0+1+1))) b (c+1+1+1) (G b0 (c0+1+1+1))) b (c+1+1+1+1) (G b0 (c0+1+1+1+1))
theorem cp5_off{F:Nat->Nat->Value}{b c:Nat}{G:Nat->Nat->Value}{b0 c0 b' c':Nat}(h:b'≠b∨c'<c∨c+5<=c'):cp5 F b c G b0 c0 b' c'=F b' c':=by
 unfold cp5;rw[updN_off (by omega),updN_off (by omega),updN_off (by omega),updN_off (by omega),updN_off (by omega)]
theorem cp5_in{F:Nat->Nat->Value}{b c:Nat}{G:Nat->Nat->Value}{b0 c0 k:Nat}(h:k<5):cp5 F b c G b0 c0 b (c+k)=G b0 (c0+k):=by
 unfold cp5
 match k,h with
 | 0,_=>rw[updN_off (by omega),updN_off (by omega),updN_off (by omega),updN_off (by omega)];exact updN_eq
 | 1,_=>rw[updN_off (by omega),updN_off (by omega),updN_off (by omega)];exact updN_eq
 | 2,_=>rw[updN_off (by omega),updN_off (by omega)];exact updN_eq
 | 3,_=>rw[updN_off (by omega)];exact updN_eq
 | 4,_=>exact updN_eq
theorem box_of{F G:Nat->Nat->Value}{b c b0 c0:Nat}{B:Bx}(h:∀ k,k<5->F b (c+k)=G b0 (c0+k))(hB:isBox G b0 c0 B):isBox F b c B:=by
 obtain⟨h1,h2,h3,h4⟩:=hB;exact⟨by rw[h 1 (by omega)];exact h1,by rw[h 2 (by omega)];exact h2,by rw[h 3 (by omega)];exact h3,by rw[h 4 (by omega)];exact h4⟩
theorem isNd.cpush{q q':RM}{b:Nat}{l:List En}(h:isNd q b l)(hl:l.length<17){G:Nat->Nat->Value}{b0 c0:Nat}{e:En}(he:G b0 c0=e.v)(ho:e.v.oneCell'=true)(hB:isBox G b0 c0 e.B)
  (hD:q'.D b) (hS:q'.S b=q.S b) (hF:∀ c,q'.F b c=updN (cp5 q.F b (1+l.length*5) G b0 c0) b 0 (.int .i64 (l.length+1:Nat)) b c):isNd q' b (l++[e]):=by
 have e0:∀ k,k<5->q'.F b (1+5*l.length+k)=G b0 (c0+k):=λk hk=>by
  rw[hF,updN_off (by omega),Nat.mul_comm 5];exact cp5_in hk
 refine h.push hl hD hS ho ?_ ?_ ?_ λc c1 c2=>?_
 ·rw[hF];exact updN_eq
 ·have:=e0 0 (by omega);rw[Nat.add_zero,Nat.add_zero]at this;rw[this];exact he
 ·exact box_of e0 hB
 ·rw[hF,updN_off (by omega),cp5_off (by omega)]
theorem isNd.swap{q q':RM}{b:Nat}{l:List En}(h:isNd q b l){i:Nat}(hi:i<l.length)(v:Value)
  (hD:q'.D b) (hS:q'.S b=q.S b) (hF:∀ c,q'.F b c=updN (updN (cp5 q.F b (1+i*5) q.F b (1+(l.length-1)*5)) b (1+(l.length-1)*5) v) b 0 (.int .i64 (l.length-1:Nat)) b c):isNd q' b (swapR l i):=by
 have hlen:=swapR_length hi
 have old:∀ j,j<l.length-1->j≠i->∀ k,k<5->q'.F b (1+5*j+k)=q.F b (1+5*j+k):=λj h1 h2 k hk=>by
  rw[hF,updN_off (by omega),updN_off (by omega),cp5_off (by omega)]
 have new:i<l.length-1->∀ k,k<5->q'.F b (1+5*i+k)=q.F b (1+5*(l.length-1)+k):=λh1 k hk=>by
  rw[hF,updN_off (by omega),updN_off (by omega),Nat.mul_comm 5,Nat.mul_comm 5];exact cp5_in hk
 have get:∀ j e,(swapR l i)[j]? = some e->j<l.length-1/\((j=i/\l[l.length-1]? = some e)∨(j≠i/\l[j]? = some e)):=λj e hj=>by
  have hj1:=(List.getElem?_eq_some_iff.1 hj).1;rw[hlen]at hj1;rw[swapR_get hi hj1]at hj;refine⟨hj1,?_⟩;by_cases c:j=i
  ·rw[if_pos c]at hj;exact .inl ⟨c,hj⟩
  ·rw[if_neg c]at hj;exact .inr ⟨c,hj⟩
 refine⟨hD,hS.trans h.S,?_,?_,λj e hj=>?_,λj e hj=>?_,λj e hj=>?_⟩
 ·rw[hF,hlen];exact updN_eq
 ·rw[hlen];have:=h.le;omega
 ·obtain⟨h1,h2|h2⟩:=get j e hj
  ·obtain⟨rfl,h3⟩:=h2;have:=new h1 0 (by omega);simp only[Nat.add_zero]at this;rw[this];exact h.v _ _ h3
  ·have:=old j h1 h2.1 0 (by omega);simp only[Nat.add_zero]at this;rw[this];exact h.v _ _ h2.2
 ·obtain⟨h1,h2|h2⟩:=get j e hj
  ·exact h.o _ _ h2.2
  ·exact h.o _ _ h2.2
 ·obtain⟨h1,h2|h2⟩:=get j e hj
  ·obtain⟨rfl,h3⟩:=h2;exact box_of (new h1) (h.B _ _ h3)
  ·exact box_of (old j h1 h2.1) (h.B _ _ h2.2)
theorem isAs.pos{q0 q:RM}{b:Nat}{v:Value}{E:List En}(h:isAs q0 b q v E)(hE:E≠[]):0<slK v:=by
 have h1:=h.n;have h2:=h.le;have:E.length≠0:=λe=>hE (List.length_eq_zero_iff.1 e)
 omega
theorem isAs.same{q0 q q':RM}{b:Nat}{v:Value}{E:List En}(h:isAs q0 b q v E)(hs:0<slK v->q'.D (slB v)/\q'.S (slB v)=q.S (slB v)/\∀ c,q'.F (slB v) c=q.F (slB v) c):isAs q0 b q' v E where
 sl:=h.sl
 n:=h.n
 le:=h.le
 D:=λh0=>by
  obtain⟨h1,h2,h3⟩:=hs h0;obtain⟨h4,h5,h6,h7⟩:=h.D h0;exact⟨h1,by rw[h2];exact h5,h6,h7⟩
 c:=λj e hj=>by
  have:=h.pos (E:=E) (λe=>by rw[e]at hj;simp at hj);rw[(hs this).2.2];exact h.c j e hj
 o:=h.o
 B:=λj e hj=>by
  have:=h.pos (E:=E) (λe=>by rw[e]at hj;simp at hj);exact box_of (λk _=>(hs this).2.2 _) (h.B j e hj)
theorem isAs.app{q0 q:RM}{b:Nat}{v:Value}{E:List En}(h:isAs q0 b q v E)(hle:∀ c,q0.D c->q.D c)(hb:q.D b){G:Nat->Nat->Value}{b0 c0:Nat}{e:En}(he:G b0 c0=e.v)(ho:e.v.oneCell'=true)(hB:isBox G b0 c0 e.B)
  {i:ApI} (hp:appP q.D q.S q.F 5 (slB v) (slC v) (slL v) (slK v) 1 [G b0 c0,G b0 (c0+1),G b0 (c0+1+1),G b0 (c0+1+1+1),G b0 (c0+1+1+1+1)] i) :
  isAs q0 b ⟨i.D,i.S,i.F⟩ (.slice (some ⟨i.b,i.c,none⟩) (slL v+1) i.k) (E++[e]):=by
 have hn:=h.n
 have us:∀ k,k<5->[G b0 c0,G b0 (c0+1),G b0 (c0+1+1),G b0 (c0+1+1+1),G b0 (c0+1+1+1+1)].getD k (.bool false)=G b0 (c0+k):=λk hk=>by
  match k,hk with
  | 0,_=>rfl
  | 1,_=>rfl
  | 2,_=>rfl
  | 3,_=>rfl
  | 4,_=>rfl
 have main:(∀ j k,j<E.length->k<5->i.F i.b (i.c+5*j+k)=q.F (slB v) (slC v+5*j+k))->(∀ k,k<5->i.F i.b (i.c+5*E.length+k)=G b0 (c0+k))->slL v+1<=i.k->
   (0<i.k->i.D i.b/\i.c+i.k*5<=i.S i.b/\¬q0.D i.b/\i.b≠b)->isAs q0 b ⟨i.D,i.S,i.F⟩ (.slice (some ⟨i.b,i.c,none⟩) (slL v+1) i.k) (E++[e]):=by
  intro m1 m2 m3 m4
  have get:∀ j x,(E++[e])[j]? = some x->(j<E.length/\E[j]? = some x)∨(j=E.length/\x=e):=λj x hj=>by
   by_cases hc:j<E.length
   ·rw[List.getElem?_append_left hc]at hj;exact .inl ⟨hc,hj⟩
   ·have hjl:j=E.length:=by
     have:=(List.getElem?_eq_some_iff.1 hj).1;simp at this;omega
    subst hjl;simp at hj;exact .inr ⟨rfl,hj.symm⟩
  refine⟨.inr rfl,by simp[slL];exact hn,m3,m4,λj x hj=>?_,λj x hj=>?_,λj x hj=>?_⟩
  ·rcases get j x hj with⟨h1,h2⟩|⟨rfl,rfl⟩
   ·have:=m1 j 0 h1 (by omega);simp only[Nat.add_zero]at this;exact this.trans (h.c j x h2)
   ·have:=m2 0 (by omega);simp only[Nat.add_zero]at this;exact this.trans he
  ·rcases get j x hj with⟨h1,h2⟩|⟨rfl,rfl⟩
   ·exact h.o j x h2
   ·exact ho
  ·rcases get j x hj with⟨h1,h2⟩|⟨rfl,rfl⟩
   ·exact box_of (λk hk=>m1 j k h1 hk) (h.B j x h2)
   ·exact box_of (λk hk=>m2 k hk) hB
 rcases hp with⟨h1,h2,h3,h4,h5,h6,h7⟩|⟨h1,h2,h3,h4,h5,h6,h7,z,h8⟩
 ·rw[h2,h3,h4,h5,h6,h7]at main;rw[h2,h3,h4,h5,h6,h7];have hk:0<slK v:=by omega
  refine main (λj k hj hk=>?_) (λk hk=>?_) (by omega) h.D
  ·rw[updC_off (by omega)]
  ·rw[updC_at,if_pos ⟨rfl,by omega,by simp only[List.length_cons,List.length_nil];omega⟩];rw[show slC v+5*E.length+k-(slC v+slL v*5)=k by omega];exact us k hk
 ·rw[h3,h6,h7,h8]at main;rw[h3,h6,h7,h8];refine main (λj k hj hk=>?_) (λk hk=>?_) h4 λ_=>⟨.inl rfl,?_,λhd=>h2 (hle _ hd),λe=>h2 (e▸hb)⟩
  ·simp only[newF,if_true,appG];rw[if_pos (by omega)];congr 1;omega
  ·simp only[newF,if_true,appG];rw[if_neg (by omega),if_pos (by simp only[List.length_cons,List.length_nil];omega),show 0+5*E.length+k-slL v*5=k by omega];exact us k hk
  ·simp only[newS,if_true];omega
theorem app_keeps{D:Nat->Prop}{S:Nat->Nat}{F:Nat->Nat->Value}{z b c l k m:Nat}{us:List Value}{i:ApI}(hp:appP D S F z b c l k m us i){x:Nat}(hx:D x)(hb:l+m<=k->x≠b):i.D x/\i.S x=S x/\∀ y,i.F x y=F x y:=by
 rcases hp with⟨h1,h2,h3,h4,h5,h6,h7⟩|⟨h1,h2,h3,h4,h5,h6,h7,zz,h8⟩
 ·rw[h5,h6,h7];exact⟨hx,rfl,λy=>updC_off (.inl (hb h1))⟩
 ·rw[h6,h7,h8];have hne:x≠i.b:=λe=>h2 (e▸hx)
  exact⟨.inr hx,by simp only[newS];rw[if_neg hne],λy=>by simp only[newF];rw[if_neg hne]⟩
instance (a:Nat) (B:Bx) (e:En):Decidable (stayP a B e):=by unfold stayP;infer_instance
instance (a:Nat) (B:Bx) (e:En):Decidable (goP a B e):=by unfold goP;infer_instance
theorem updN_z{F:Nat->Nat->Value}{b c:Nat}{v:Value}(h:c≠0):updN F b c v b 0=F b 0:=updN_off (.inr (Ne.symm h))
section
variable {q:RM} {rb rc qb qc:Nat}
theorem spO.nd(ho:spO q rb rc qb qc):isNd q (kb (q.F rb rc)) (ndOf q (kb (q.F rb rc))):=ho.1.2.2.2.2
theorem spO.ne(ho:spO q rb rc qb qc):kb (q.F rb rc)≠rb:=ho.1.2.2.2.1
theorem spO.qD(ho:spO q rb rc qb qc):q.D qb:=ho.2.2.2.2.1.1
theorem spO.qn(ho:spO q rb rc qb qc):qb≠kb (q.F rb rc):=ho.2.2.2.2.2.1
variable {p p':SpI} {L L' R R' E:List En}
theorem spA.bn(ho:spO q rb rc qb qc)(h:spA q rb rc qb qc p L R E):kb (q.F rb rc)≠p.b:=λe=>h.nw (e▸ho.nd.D)
theorem spA.bq(ho:spO q rb rc qb qc)(h:spA q rb rc qb qc p L R E):qb≠p.b:=λe=>h.nw (e▸ho.qD)
theorem spA.br(ho:spO q rb rc qb qc)(h:spA q rb rc qb qc p L R E):rb≠p.b:=λe=>h.nw (e▸ho.1.1)
theorem spA.vn(ho:spO q rb rc qb qc)(h:spA q rb rc qb qc p L R E)(hv:0<slK p.v):slB p.v≠kb (q.F rb rc)/\slB p.v≠p.b :=
 ⟨λe=>(h.e.D hv).2.2.1 (e▸ho.nd.D),(h.e.D hv).2.2.2⟩
theorem spA.box(ho:spO q rb rc qb qc)(h:spA q rb rc qb qc p L R E):p.q.D rb/\rc+5<=p.q.S rb/\isBox p.q.F rb rc (bxOf q.F rb rc)/\(rb≠qb∨rc≠qc):=by
 obtain⟨h1,h2⟩:=h.fr;have hap:=ho.2.2.2.2.2.2;have ho2:=ho.2.1;refine⟨(h1 rb ho2.1).1,by rw[(h1 rb ho2.1).2];exact ho2.2.1,?_,by unfold apart at hap;omega⟩;have hk:∀ k,1<=k->k<5->p.q.F rb (rc+k)=q.F rb (rc+k):=λk k1 k2=>h2 rb (rc+k) ho2.1 (Ne.symm ho.ne) (by unfold apart at hap;omega)
 obtain⟨b1,b2,b3,b4⟩:=ho2.2.2;exact⟨by rw[hk 1 (by omega) (by omega)];exact b1,by rw[hk 2 (by omega) (by omega)];exact b2,by rw[hk 3 (by omega) (by omega)];exact b3,by rw[hk 4 (by omega) (by omega)];exact b4⟩
theorem spA.wb(ho:spO q rb rc qb qc)(h:spA q rb rc qb qc p L R E)(e1:p'.a=p.a)(e2:p'.b=p.b)(e3:p'.v=p.v)(hD:p'.q.D=p.q.D)(hS:p'.q.S=p.q.S)
  (hF:∀ c k,c≠p.b->p'.q.F c k=p.q.F c k) (hR:isNd p'.q p.b R'):spA q rb rc qb qc p' L R' E where
 a:=by rw[e1];exact h.a
 fr:=⟨λc hc=>by rw[hD,hS];exact h.fr.1 c hc,λc k hc h1 h2=>by rw[hF c k (λe=>h.nw (e▸hc))];exact h.fr.2 c k hc h1 h2⟩
 nw:=by rw[e2];exact h.nw
 l:=h.l.same (by rw[hD];exact h.l.D) (by rw[hS]) (λc=>hF _ _ (h.bn ho))
 r:=by rw[e2];exact hR
 e:=by
  rw[e2,e3];exact h.e.same λh0=>⟨by rw[hD];exact(h.e.D h0).1,by rw[hS],λc=>hF _ _ (h.vn ho h0).2⟩
 dat:=by rw[e2,hF _ _ (h.bq ho)];exact h.dat
theorem spA.wn(ho:spO q rb rc qb qc)(h:spA q rb rc qb qc p L R E)(e1:p'.a=p.a)(e2:p'.b=p.b)(e3:p'.v=p.v)(hD:p'.q.D=p.q.D)(hS:p'.q.S=p.q.S)
  (hF:∀ c k,c≠kb (q.F rb rc)->p'.q.F c k=p.q.F c k) (hL:isNd p'.q (kb (q.F rb rc)) L'):spA q rb rc qb qc p' L' R E where
 a:=by rw[e1];exact h.a
 fr:=⟨λc hc=>by rw[hD,hS];exact h.fr.1 c hc,λc k hc h1 h2=>by rw[hF c k h1];exact h.fr.2 c k hc h1 h2⟩
 nw:=by rw[e2];exact h.nw
 l:=hL
 r:=by rw[e2];exact h.r.same (by rw[hD];exact h.r.D) (by rw[hS]) (λc=>hF _ _ (Ne.symm (h.bn ho)))
 e:=by
  rw[e2,e3];exact h.e.same λh0=>⟨by rw[hD];exact(h.e.D h0).1,by rw[hS],λc=>hF _ _ (h.vn ho h0).1⟩
 dat:=by rw[e2,hF _ _ ho.qn];exact h.dat
theorem spA.at(h:spA q rb rc qb qc p L R E)(e1:p'.a=p.a)(e2:p'.b=p.b)(e3:p'.v=p.v)(e4:p'.q=p.q):spA q rb rc qb qc p' L R E where
 a:=by rw[e1];exact h.a
 fr:=by rw[e4];exact h.fr
 nw:=by rw[e2];exact h.nw
 l:=by rw[e4];exact h.l
 r:=by rw[e2,e4];exact h.r
 e:=by rw[e2,e3,e4];exact h.e
 dat:=by rw[e2,e4];exact h.dat
theorem rz210:rz tys 137 0=.int .i64 0:=by rfl
theorem sp_len(ho:spO q rb rc qb qc){l:List En}(h:l.Perm (ndOf q (kb (q.F rb rc)))):l.length=17:=h.length_eq.trans ho.2.2.2.1
theorem sp1_init(ho:spO q rb rc qb qc){b a x:Nat}(ha:a<2)(hb:¬q.D b) :
  sp1X q rb rc qb qc ⟨a,x,b,0, .slice none 0 0,⟨newD q.D b,newS q.S b 86,updN (newF q.F b (rz tys 137)) qb qc (.iface 134 (.pointer (some ⟨b,0,none⟩)))⟩⟩:=by
 have hnb:kb (q.F rb rc)≠b:=λe=>hb (e▸ho.nd.D)
 have hqb:qb≠b:=λe=>hb (e▸ho.qD)
 have hold:∀ c k,q.D c->¬(c=qb/\k=qc)->updN (newF q.F b (rz tys 137)) qb qc (.iface 134 (.pointer (some ⟨b,0,none⟩))) c k=q.F c k:=λc k hc h2=>by
  have hne:c≠b:=λe=>hb (e▸hc)
  rw[updN_off (by omega)];simp only[newF];rw[if_neg hne]
 have hS:∀ c,q.D c->newS q.S b 86 c=q.S c:=λc hc=>by
  have hne:c≠b:=λe=>hb (e▸hc)
  simp only[newS];rw[if_neg hne]
 refine⟨ndOf q (kb (q.F rb rc)),[],[],⟨ha,⟨λc hc=>⟨.inr hc,hS c hc⟩,λc k hc _ h2=>hold c k hc h2⟩,hb,?_,?_,?_,updN_eq⟩,by simp,Nat.zero_le _,λj e hj=>absurd hj (Nat.not_lt_zero j),by simp⟩
 ·exact ho.nd.same (.inr ho.nd.D) (hS _ ho.nd.D) λc=>hold _ _ ho.nd.D λe=>ho.qn e.1.symm
 ·refine⟨.inl rfl,by simp[newS],?_,by simp,by simp,by simp,by simp⟩;show updN (newF q.F b (rz tys 137)) qb qc _ b 0=_;rw[updN_off (.inl (Ne.symm hqb))];simp only[newF,if_true];exact rz210
 ·exact⟨.inl rfl,rfl,Nat.le_refl _,λh=>absurd h (Nat.lt_irrefl 0),by simp,by simp,by simp⟩
theorem sp1_stay{i:Nat}(h:spA q rb rc qb qc p L R E)(hp:(L++R++E).Perm (ndOf q (kb (q.F rb rc))))(hs:∀ j e,j<p.i->L[j]? = some e->stayP p.a (bxOf q.F rb rc) e)(hg:∀ e∈R,goP p.a (bxOf q.F rb rc) e)
  {e:En} (he:L[p.i]? = some e) (hst:stayP p.a (bxOf q.F rb rc) e) (hi:i=p.i+1):sp1X q rb rc qb qc ⟨p.a,p.x,p.b,i,p.v,p.q⟩:=by
 subst hi;refine⟨L,R,E,h.at rfl rfl rfl rfl,hp,(List.getElem?_eq_some_iff.1 he).1,λj x hj hx=>?_,hg⟩;rcases Nat.lt_or_ge j p.i with c|c
 ·exact hs j x c hx
 ·have:j=p.i:=by show j=p.i;have hj:j<p.i+1:=hj;omega
  subst this;rw[he]at hx;cases hx;exact hst
theorem perm_right{A B C D:List En}{e:En}(h:(A++B++C).Perm D)(hA:A.Perm (e :: L)):(L++(B++[e])++C).Perm D:=by
 refine List.Perm.trans ?_ h;refine List.Perm.append_right C ?_;refine List.Perm.trans ?_ (List.Perm.append_right B hA).symm;rw[<-List.append_assoc];exact List.perm_append_singleton e (L++B)
theorem perm_aside{A B C D:List En}{e:En}(h:(A++B++C).Perm D)(hA:A.Perm (e :: L)):(L++B++(C++[e])).Perm D:=by
 refine List.Perm.trans ?_ h;rw[<-List.append_assoc];refine(List.perm_append_singleton e _).trans ?_;rw[List.append_assoc,List.append_assoc];exact(List.Perm.append_right (B++C) hA).symm
theorem sp_room(ho:spO q rb rc qb qc){A B C:List En}(hp:(A++B++C).Perm (ndOf q (kb (q.F rb rc)))){j:Nat}{e:En}(he:A[j]? = some e):B.length<17/\C.length<17:=by
 have h1:=sp_len ho hp;have h2:=(List.getElem?_eq_some_iff.1 he).1;simp only[List.length_append]at h1;omega
theorem spM_right(ho:spO q rb rc qb qc)(h:spA q rb rc qb qc p L R E)(hp:(L++R++E).Perm (ndOf q (kb (q.F rb rc))))(hs:∀ j e,j<p.i->L[j]? = some e->stayP p.a (bxOf q.F rb rc) e)(hg:∀ e∈R,goP p.a (bxOf q.F rb rc) e)
  {e:En} (he:L[p.i]? = some e) (hst:goP p.a (bxOf q.F rb rc) e) :
  spM q rb rc qb qc ⟨p.a,p.x,p.b,p.i,p.v,⟨p.q.D,p.q.S,updN (cp5 p.q.F p.b (1+R.length*5) p.q.F (kb (q.F rb rc)) (1+p.i*5)) p.b 0 (.int .i64 (R.length+1:Nat))⟩⟩:=by
 have hb:=h.l.B _ _ he;have hv:=h.l.v _ _ he;rw[Nat.mul_comm]at hb hv;refine⟨L,R++[e],E,h.wb ho rfl rfl rfl rfl rfl (λc k hc=>?_) ?_,perm_right hp (swapR_perm he),(List.getElem?_eq_some_iff.1 he).1,hs,λx hx=>?_⟩
 ·show updN _ _ _ _ _ _=_;rw[updN_off (.inl hc),cp5_off (.inl hc)]
 ·exact h.r.cpush (sp_room ho hp he).1 hv (h.l.o _ _ he) hb h.r.D rfl (λ_=>rfl)
 ·rcases List.mem_append.1 hx with hx|hx
  ·exact hg x hx
  ·simp at hx;subst hx;exact hst
theorem spM_aside(ho:spO q rb rc qb qc)(h:spA q rb rc qb qc p L R E)(hp:(L++R++E).Perm (ndOf q (kb (q.F rb rc))))(hs:∀ j e,j<p.i->L[j]? = some e->stayP p.a (bxOf q.F rb rc) e)(hg:∀ e∈R,goP p.a (bxOf q.F rb rc) e)
  {e:En} (he:L[p.i]? = some e) {i:ApI} (hap:appP p.q.D p.q.S p.q.F 5 (slB p.v) (slC p.v) (slL p.v) (slK p.v) 1 [p.q.F (kb (q.F rb rc)) (1+p.i*5),p.q.F (kb (q.F rb rc)) (1+p.i*5+1),p.q.F (kb (q.F rb rc)) (1+p.i*5+1+1),p.q.F (kb (q.F rb rc)) (1+p.i*5+1+1+1),p.q.F (kb (q.F rb rc)) (1+p.i*5+1+1+1+1)] i) :
  spM q rb rc qb qc ⟨p.a,p.x,p.b,p.i, .slice (some ⟨i.b,i.c,none⟩) (slL p.v+1) i.k,⟨i.D,i.S,i.F⟩⟩:=by
 have hb:=h.l.B _ _ he;have hv:=h.l.v _ _ he;rw[Nat.mul_comm]at hb hv;have keep:∀ c,p.q.D c->(0<slK p.v->c≠slB p.v)->i.D c/\i.S c=p.q.S c/\∀ y,i.F c y=p.q.F c y:=λc hc hne=>app_keeps hap hc λhr=>hne (by omega)
 have hq:∀ c,q.D c->i.D c/\i.S c=p.q.S c/\∀ y,i.F c y=p.q.F c y:=λc hc=>keep c (h.fr.1 c hc).1 λh0 e=>(h.e.D h0).2.2.1 (e▸hc)
 refine⟨L,R,E++[e],⟨h.a,⟨λc hc=>⟨(hq c hc).1,(hq c hc).2.1.trans (h.fr.1 c hc).2⟩,λc k hc h1 h2=>((hq c hc).2.2 k).trans (h.fr.2 c k hc h1 h2)⟩,h.nw,?_,?_,?_,?_⟩,perm_aside hp (swapR_perm he),(List.getElem?_eq_some_iff.1 he).1,hs,hg⟩
 ·have:=hq _ ho.nd.D;exact h.l.same this.1 this.2.1 this.2.2
 ·have:=keep p.b h.r.D λh0 e=>(h.vn ho h0).2 e.symm
  exact h.r.same this.1 this.2.1 this.2.2
 ·exact h.e.app (λc hc=>(h.fr.1 c hc).1) h.r.D hv (h.l.o _ _ he) hb hap
 ·exact((hq _ ho.qD).2.2 _).trans h.dat
theorem sp1_swap(ho:spO q rb rc qb qc)(h:spA q rb rc qb qc p L R E)(hp:(swapR L p.i++R++E).Perm (ndOf q (kb (q.F rb rc))))(hi:p.i<L.length)(hs:∀ j e,j<p.i->L[j]? = some e->stayP p.a (bxOf q.F rb rc) e)(hg:∀ e∈R,goP p.a (bxOf q.F rb rc) e)(v:Value) :
  sp1X q rb rc qb qc ⟨p.a,p.x,p.b,p.i,p.v,⟨p.q.D,p.q.S,updN (updN (cp5 p.q.F (kb (q.F rb rc)) (1+p.i*5) p.q.F (kb (q.F rb rc)) (1+(L.length-1)*5)) (kb (q.F rb rc)) (1+(L.length-1)*5) v) (kb (q.F rb rc)) 0 (.int .i64 (L.length-1:Nat))⟩⟩:=by
 refine⟨swapR L p.i,R,E,h.wn ho rfl rfl rfl rfl rfl (λc k hc=>?_) (h.l.swap hi v h.l.D rfl λ_=>rfl),hp,?_,λj e hj he=>?_,hg⟩
 ·show updN _ _ _ _ _ _=_;rw[updN_off (.inl hc),updN_off (.inl hc),cp5_off (.inl hc)]
 ·show p.i<=_;rw[swapR_length hi];omega
 ·have hj:j<p.i:=hj;rw[swapR_get hi (by omega),if_neg (by omega)]at he;exact hs j e hj he
theorem sp2_begin(ho:spO q rb rc qb qc)(h:spA q rb rc qb qc p L R E)(hp:(L++R++E).Perm (ndOf q (kb (q.F rb rc))))(hi:p.i=L.length)(hs:∀ j e,j<p.i->L[j]? = some e->stayP p.a (bxOf q.F rb rc) e)(hg:∀ e∈R,goP p.a (bxOf q.F rb rc) e) :
  sp2 q rb rc qb qc ⟨p.a,p.x,p.b,0,p.v,p.q⟩:=by
 have hne:ndOf q (kb (q.F rb rc))≠[]:=λe=>by have:=ho.2.2.2.1;rw[e]at this;simp at this
 obtain⟨t1,t2⟩:=ho.2.2.1;obtain⟨⟨a1,m1,e1⟩,⟨a2,m2,e2⟩,⟨a3,m3,e3⟩,⟨a4,m4,e4⟩⟩:=t2 (by simpa using hne)
 have hloE:∃ e∈ndOf q (kb (q.F rb rc)),e.B.lo p.a=(bxOf q.F rb rc).lo p.a:=by
  have:=h.a;rcases (by omega:p.a=0∨p.a=1)with c|c <;> rw[c]
  ·obtain⟨e,he,rfl⟩:=List.mem_map.1 m1;exact⟨e,he,e1⟩
  ·obtain⟨e,he,rfl⟩:=List.mem_map.1 m2;exact⟨e,he,e2⟩
 have hhiE:∃ e∈ndOf q (kb (q.F rb rc)),e.B.hi p.a=(bxOf q.F rb rc).hi p.a:=by
  have:=h.a;rcases (by omega:p.a=0∨p.a=1)with c|c <;> rw[c]
  ·obtain⟨e,he,rfl⟩:=List.mem_map.1 m3;exact⟨e,he,e3⟩
  ·obtain⟨e,he,rfl⟩:=List.mem_map.1 m4;exact⟨e,he,e4⟩
 have hin:∀ e∈ndOf q (kb (q.F rb rc)),(bxOf q.F rb rc).lo p.a<=e.B.lo p.a/\e.B.hi p.a<=(bxOf q.F rb rc).hi p.a:=λe he=>by
  have h1:=t1 e.B (List.mem_map.2 ⟨e,he,rfl⟩);obtain⟨k1,k2,k3,k4⟩:=h1;have:=h.a;rcases (by omega:p.a=0∨p.a=1)with c|c <;> rw[c]
  ·exact⟨k1,k3⟩
  ·exact⟨k2,k4⟩
 have hlen:=sp_len ho hp;simp only[List.length_append]at hlen;refine⟨L,R,E,h.at rfl rfl rfl rfl,by simpa using hp,⟨Nat.zero_le _,by omega⟩,λhL=>?_,λhR=>?_⟩
 ·obtain⟨e,he,h1⟩:=hloE;intro hE;have hm:=hp.mem_iff.2 he;have hE:E=[]:=by simpa using hE
  rw[hL,hE]at hm;have hm:e∈R:=by simpa using hm
  have h2:=hg e hm;have h3:=(hin e he).2;unfold goP at h2;omega
 ·obtain⟨e,he,h1⟩:=hhiE;intro hE;have hm:=hp.mem_iff.2 he;have hE:E=[]:=by simpa using hE
  rw[hR,hE]at hm;have hm:e∈L:=by simpa using hm
  obtain⟨j,hj,h4⟩:=List.getElem_of_mem hm;have h2:=hs j e (by omega) (by rw[List.getElem?_eq_getElem hj,h4]);have h3:=(hin e he).1;unfold stayP at h2;omega
theorem drop_cons{i:Nat}{e:En}(he:E[i]? = some e):E.drop i=e :: E.drop (i+1):=by
 obtain⟨h1,rfl⟩:=List.getElem?_eq_some_iff.1 he;exact List.drop_eq_getElem_cons h1
theorem sp2_left(ho:spO q rb rc qb qc)(h:spA q rb rc qb qc p L R E)(hp:(L++R++E.drop p.i).Perm (ndOf q (kb (q.F rb rc)))){e:En}(he:E[p.i]? = some e)(hE:E.length<=17)(hlt:L.length<R.length){i:Nat}(hi:i=p.i+1) :
  sp2 q rb rc qb qc ⟨p.a,p.x,p.b,i,p.v,⟨p.q.D,p.q.S,updN (cp5 p.q.F (kb (q.F rb rc)) (1+L.length*5) p.q.F (slB p.v) (slC p.v+p.i*5)) (kb (q.F rb rc)) 0 (.int .i64 (L.length+1:Nat))⟩⟩:=by
 subst hi;have hb:=h.e.B _ _ he;have hv:=h.e.c _ _ he;rw[Nat.mul_comm]at hb hv;have hl:=sp_len ho hp;rw[drop_cons he]at hp hl;simp only[List.length_append,List.length_cons]at hl;refine⟨L++[e],R,E,h.wn ho rfl rfl rfl rfl rfl (λc k hc=>?_) (h.l.cpush (by omega) hv (h.e.o _ _ he) hb h.l.D rfl λ_=>rfl),?_,⟨(List.getElem?_eq_some_iff.1 he).1,hE⟩,λhn=>by simp at hn,λhn=>?_⟩
 ·show updN _ _ _ _ _ _=_;rw[updN_off (.inl hc),cp5_off (.inl hc)]
 ·refine List.Perm.trans ?_ hp;show (L++[e]++R++E.drop (p.i+1)).Perm _;refine List.Perm.trans ?_ List.perm_middle.symm;rw[List.append_assoc,List.append_assoc];refine List.perm_middle.trans ?_;rw[List.append_assoc];exact List.Perm.refl _
 ·rw[hn]at hlt;simp at hlt
theorem sp2_right(ho:spO q rb rc qb qc)(h:spA q rb rc qb qc p L R E)(hp:(L++R++E.drop p.i).Perm (ndOf q (kb (q.F rb rc)))){e:En}(he:E[p.i]? = some e)(hE:E.length<=17)(hlt:¬L.length<R.length){i:Nat}(hi:i=p.i+1) :
  sp2 q rb rc qb qc ⟨p.a,p.x,p.b,i,p.v,⟨p.q.D,p.q.S,updN (cp5 p.q.F p.b (1+R.length*5) p.q.F (slB p.v) (slC p.v+p.i*5)) p.b 0 (.int .i64 (R.length+1:Nat))⟩⟩:=by
 subst hi;have hb:=h.e.B _ _ he;have hv:=h.e.c _ _ he;rw[Nat.mul_comm]at hb hv;have hl:=sp_len ho hp;rw[drop_cons he]at hp hl;simp only[List.length_append,List.length_cons]at hl;refine⟨L,R++[e],E,h.wb ho rfl rfl rfl rfl rfl (λc k hc=>?_) (h.r.cpush (by omega) hv (h.e.o _ _ he) hb h.r.D rfl λ_=>rfl),?_,⟨(List.getElem?_eq_some_iff.1 he).1,hE⟩,λhn hd=>?_,λhn=>by simp at hn⟩
 ·show updN _ _ _ _ _ _=_;rw[updN_off (.inl hc),cp5_off (.inl hc)]
 ·refine List.Perm.trans ?_ hp;show (L++(R++[e])++E.drop (p.i+1)).Perm _;rw[<-List.append_assoc,List.append_assoc];exact List.Perm.refl _
 ·have hd:E.drop (p.i+1)=[]:=hd;rw[hd]at hl;rw[hn]at hl hlt;simp at hl hlt;rw[hlt]at hl;simp at hl
theorem sp_end(ho:spO q rb rc qb qc)(h:spA q rb rc qb qc p L R E)(hp:(L++R++E.drop p.i).Perm (ndOf q (kb (q.F rb rc))))(hi:p.i=E.length)(hL:L=[]->E.drop p.i≠[])(hR:R=[]->E.drop p.i≠[]) :
  hangs p.q rb rc/\ndOf p.q (kb (p.q.F rb rc))≠[]/\∀ q1,rcP p.q rb rc (kb (p.q.F rb rc)) (ndOf p.q (kb (p.q.F rb rc))).length q1->hangs q1 qb qc/\ndOf q1 (kb (q1.F qb qc))≠[]/\
   ∀ q2,rcP q1 qb qc (kb (q1.F qb qc)) (ndOf q1 (kb (q1.F qb qc))).length q2->spP q rb rc qb qc q2:=by
 have hd:E.drop p.i=[]:=by rw[hi];exact List.drop_length
 rw[hd]at hp hL hR;have hL:L≠[]:=λe=>hL e rfl
 have hR:R≠[]:=λe=>hR e rfl
 obtain⟨x1,x2,x3,x4⟩:=h.box ho;have hap:=ho.2.2.2.2.2.2;have hne:=ho.ne;have hbn:=h.bn ho;have hbq:=h.bq ho;have hbr:=h.br ho;have hrr:p.q.F rb rc=q.F rb rc:=h.fr.2 rb rc ho.2.1.1 (Ne.symm hne) (λe=>by unfold apart at hap;omega);rw[hrr,h.l.of];refine⟨⟨x1,x2,by rw[hrr];exact ho.1.2.2.1,by rw[hrr];exact hne,by rw[hrr,h.l.of];exact h.l⟩,hL,?_⟩;rintro q1 ⟨hs1,B1,hB1,ht1⟩;rw[h.l.of,List.take_length]at ht1;have hqq:q1.F qb qc=.iface 134 (.pointer (some ⟨p.b,0,none⟩)):=(hs1.2.2 qb qc (by unfold rW;unfold apart at hap;omega)).trans h.dat;have hk:kb (q1.F qb qc)=p.b:=by rw[hqq];rfl
 have hr1:isNd q1 p.b R:=h.r.same (by rw[hs1.1];exact h.r.D) (by rw[hs1.2.1]) λc=>hs1.2.2 _ _ (by unfold rW;omega)
 rw[hk,hr1.of];have hfq:=h.fr.1 qb ho.qD;refine⟨⟨by rw[hs1.1];exact hfq.1,by rw[hs1.2.1,hfq.2];exact ho.2.2.2.2.1.2,by rw[hqq];rfl,by rw[hk];omega,by rw[hk,hr1.of];exact hr1⟩,hR,?_⟩;rintro q2 ⟨hs2,B2,hB2,ht2⟩;rw[hr1.of,List.take_length]at ht2;have hl1:isNd q1 (kb (q.F rb rc)) L:=h.l.same (by rw[hs1.1];exact h.l.D) (by rw[hs1.2.1]) λc=>hs1.2.2 _ _ (by unfold rW;omega)
 refine⟨p.b,L,R,B1,B2,h.nw,by simpa using hp,hL,hR,hl1.same (by rw[hs2.1];exact hl1.D) (by rw[hs2.2.1]) λc=>hs2.2.2 _ _ (by have:=ho.qn;unfold rW;omega),
  hr1.same (by rw[hs2.1];exact hr1.D) (by rw[hs2.2.1]) λc=>hs2.2.2 _ _ (by unfold rW;omega),?_,?_,ht1,hB2,ht2,λc hc=>?_,λc k hc h1 h2=>?_⟩
 ·rw[hs2.2.2 qb qc (by unfold rW;omega)];exact hqq
 ·have hk:∀ k,1<=k->k<5->q2.F rb (rc+k)=q1.F rb (rc+k):=λk k1 k2=>hs2.2.2 _ _ (by unfold rW;unfold apart at hap;omega)
  obtain⟨b1,b2,b3,b4⟩:=hB1;exact⟨by rw[hk 1 (by omega) (by omega)];exact b1,by rw[hk 2 (by omega) (by omega)];exact b2,by rw[hk 3 (by omega) (by omega)];exact b3,by rw[hk 4 (by omega) (by omega)];exact b4⟩
 ·rw[hs2.1,hs1.1,hs2.2.1,hs1.2.1];exact h.fr.1 c hc
 ·unfold rW at h2;rw[hs2.2.2 c k (by unfold rW;omega),hs1.2.2 c k (by unfold rW;omega)];exact h.fr.2 c k hc h1 (by omega)
end
noncomputable def X2:RCtx:=⟨G0,[(66,rconR (Nat×Nat) ⟨default⟩ rAxisC),(61,rconR RM ⟨default⟩ rCalcC)],[(137,0)],[],[(106,0)]⟩
theorem x2:RCtxOk Try.prog X2:=⟨g0,RGamOk.cons rAxis (RGamOk.cons rCalc RGamOk.nil)⟩
noncomputable def rSplitC:List SV->RRd (RM)
 | [.pb n rb rc, .pb n1 qb qc]=>.read n λo0=>(match rawOf o0 with
  | some (ts,q)=>.ret ⟨[.pb 0 rb rc, .pb 0 qb qc],[(0,rwO ts q)],some (n=n1/\(spO q rb rc qb qc)),λi=>spP q rb rc qb qc i,λi=>⟨[],[], .tup [],[(0,rwO ts (i))],[],none⟩⟩
  | none=>.fail)
 | _=>.fail
theorem vc_rSplit(R:Option Ob->SV->Prop)(ts:List Nat)(q:RM)(rb rc qb qc:Nat){T1}(t1:T1=λ(j:SpI)=>(updN (updN (updN (updN (SpI.q j).3 (kb (q.3 rb rc)) (1+Int.toNat (↑(SpI.i j):Int)*5) ((SpI.q j).3 (kb (q.3 rb rc)) (1+Int.toNat (IntKind.wrap .i64 (intV ((SpI.q j).3 (kb (q.3 rb rc)) 0)-(1:Int)))*5))) (kb (q.3
 rb rc)) (1+Int.toNat (↑(SpI.i j):Int)*5+1) ((SpI.q j).3 (kb (q.3 rb rc)) (1+Int.toNat (IntKind.wrap .i64 (intV ((SpI.q j).3 (kb (q.3 rb rc)) 0)-(1:Int)))*5+1))) (kb (q.3 rb rc)) (1+Int.toNat (↑(SpI.i j):Int)*5+1+1)
 ((SpI.q j).3 (kb (q.3 rb rc)) (1+Int.toNat (IntKind.wrap .i64 (intV ((SpI.q j).3 (kb (q.3 rb rc)) 0)-(1:Int)))*5+1+1))) (kb (q.3 rb rc)) (1+Int.toNat (↑(SpI.i j):Int)*5+1+1+1) ((SpI.q j).3 (kb (q.3 rb rc)) (1+Int.toNat
 (IntKind.wrap .i64 (intV ((SpI.q j).3 (kb (q.3 rb rc)) 0)-(1:Int)))*5+1+1+1)))){T2}(t2:T2=(kb (q.3 rb rc))){T3}(t3:T3=λ(i:SpI)=>(↑(SpI.i i):Int)){T4}(t4:T4=λ(i:SpI)=>(updN (updN (updN (updN (SpI.q i).3 (SpI.b i) (1+Int.toNat
 (intV ((SpI.q i).3 (SpI.b i) 0))*5) ((SpI.q i).3 (slB (SpI.v i)) (slC (SpI.v i)+Int.toNat (T3 i)*5))) (SpI.b i) (1+Int.toNat (intV ((SpI.q i).3 (SpI.b i) 0))*5+1) ((SpI.q i).3 (slB (SpI.v i)) (slC (SpI.v i)+Int.toNat (T3 i)*5+1)))
 (SpI.b i) (1+Int.toNat (intV ((SpI.q i).3 (SpI.b i) 0))*5+1+1) ((SpI.q i).3 (slB (SpI.v i)) (slC (SpI.v i)+Int.toNat (T3 i)*5+1+1))) (SpI.b i) (1+Int.toNat (intV ((SpI.q i).3 (SpI.b i) 0))*5+1+1+1) ((SpI.q i).3 (slB (SpI.v
 i)) (slC (SpI.v i)+Int.toNat (T3 i)*5+1+1+1)))){T5}(t5:T5=λ(i:SpI)=>(updN (updN (updN (updN (SpI.q i).3 T2 (1+Int.toNat (intV ((SpI.q i).3 T2 0))*5) ((SpI.q i).3 (slB (SpI.v i)) (slC (SpI.v i)+Int.toNat (T3 i)*5))) T2 (1 +
 Int.toNat (intV ((SpI.q i).3 T2 0))*5+1) ((SpI.q i).3 (slB (SpI.v i)) (slC (SpI.v i)+Int.toNat (T3 i)*5+1))) T2 (1+Int.toNat (intV ((SpI.q i).3 T2 0))*5+1+1) ((SpI.q i).3 (slB (SpI.v i)) (slC (SpI.v i)+Int.toNat (T3 i)*5+1 +
 1))) T2 (1+Int.toNat (intV ((SpI.q i).3 T2 0))*5+1+1+1) ((SpI.q i).3 (slB (SpI.v i)) (slC (SpI.v i)+Int.toNat (T3 i)*5+1+1+1)))){T6}(t6:T6=λ(j:SpI)=>(updN (T1 j) T2 (1+Int.toNat (↑(SpI.i j):Int)*5+1+1+1+1)
 ((SpI.q j).3 T2 (1+Int.toNat (IntKind.wrap .i64 (intV ((SpI.q j).3 T2 0)-(1:Int)))*5+1+1+1+1)) T2 0)){T7}(t7:T7=λ(i:SpI)=>(updN (updN (updN (updN (SpI.q i).3 (SpI.b i) (1+Int.toNat (intV ((SpI.q i).3 (SpI.b i) 0))*5) ((SpI.q
 i).3 T2 (1+Int.toNat (T3 i)*5))) (SpI.b i) (1+Int.toNat (intV ((SpI.q i).3 (SpI.b i) 0))*5+1) ((SpI.q i).3 T2 (1+Int.toNat (T3 i)*5+1))) (SpI.b i) (1+Int.toNat (intV ((SpI.q i).3 (SpI.b i) 0))*5+1+1) ((SpI.q i).3 T2 (1 +
 Int.toNat (T3 i)*5+1+1))) (SpI.b i) (1+Int.toNat (intV ((SpI.q i).3 (SpI.b i) 0))*5+1+1+1) ((SpI.q i).3 T2 (1+Int.toNat (T3 i)*5+1+1+1)))){T8}(t8:T8=λ(i:SpI)=>((SpI.q i).3 (slB (SpI.v i)) (slC (SpI.v i)+Int.toNat (T3
 i)*5+1+1+1+1))){T9}(t9:T9=λ(i:SpI)=>(↑(SpI.a i):Int)){T10}(t10:T10=λ(i:SpI)=>(fop BinOp.sub .f64 (fltV ((SpI.q i).3 T2 (1+Int.toNat (T3 i)*5+1+Int.toNat (T9 i)*1))) (fltV ((SpI.q i).3 rb (rc+1+Int.toNat (T9 i) *
 1))))){T11}(t11:T11=λ(i:SpI)=>(fop BinOp.sub .f64 (fltV ((SpI.q i).3 rb (rc+3+Int.toNat (T9 i)*1))) (fltV ((SpI.q i).3 T2 (1+Int.toNat (T3 i)*5+3+Int.toNat (T9 i)*1))))){T12}(t12:T12=(True/\rb=rb/\rc=rc)){T13}(t13:T13=fun
 (j:SpI)=>(IntKind.wrap .i64 (intV ((SpI.q j).3 T2 0)-(1:Int)))){T14}(t14:T14=(True/\kb (q.3 rb rc)=kb (q.3 rb rc)/\0=0)){T15}(t15:T15=λ(i:SpI)=>(1+Int.toNat (intV ((SpI.q i).3 (SpI.b i) 0))*5+1+1+1+1)){T16}(t16:T16=(RM.mk
 (RM.D q) (RM.S q) (RM.F q))){T17}(t17:T17=λ(j:SpI)=>(updN (T1 j) T2 (1+Int.toNat (↑(SpI.i j):Int)*5+1+1+1+1) ((SpI.q j).3 T2 (1+Int.toNat (T13 j)*5+1+1+1+1)))){T18}(t18:T18=λ(i:SpI) (pq:SpI)=>(T12/\(True/\qb=qb/\
 qc=qc)/\T12/\T14/\(True/\SpI.b i=SpI.b pq/\0=0)/\(True/\SpI.v i=SpI.v pq)/\(↑(slL (SpI.v i)):Int)=(↑(slL (SpI.v pq)):Int)/\IntKind.wrap .i64 ((T3 i)+1)=(↑(SpI.i pq):Int)/\True)){T19}(t19:T19=λ(i:SpI)=>((SpI.q i).3 T2
 (1+Int.toNat (T3 i)*5+1+1+1+1))){T20}(t20:T20=λ(i:SpI)=>((SpI.q i).3 (SpI.b i) 0)){T21}(t21:T21=λ(i:SpI)=>((SpI.q i).3 T2 0)){T22}(t22:T22=(True/\qb=qb/\qc=qc)){T23}(t23:T23=λ(i:SpI)=>((SpI.q i).1 (SpI.b i)/\0<(SpI.q
 i).2 (SpI.b i)/\isInt .i64 (T20 i))){T24}(t24:T24=λ(i:SpI)=>(kb ((RM.mk (RM.D (SpI.q i)) (RM.S (SpI.q i)) (RM.F (SpI.q i))).3 rb rc))){T25}(t25:T25=λ(j:SpI)=>(1+Int.toNat (IntKind.wrap .i64 (intV (T6 j)-(1:Int)))*5 +
 0)){T26}(t26:T26=λ(i:SpI)=>(RM.mk (RM.D (SpI.q i)) (SpI.q i).2 (SpI.q i).3)){T27}(t27:T27=λ(i:SpI)=>((SpI.q i).1 T2/\0<(SpI.q i).2 T2/\isInt .i64 (T21 i))){T28}(t28:T28=λ(i:SpI) (pq:SpI)=>(0=0/\0=0/\ts=ts/\(SpI.q i).3=(SpI.q
 pq).3/\(SpI.q i).2=(SpI.q pq).2/\RM.D (SpI.q i)=RM.D (SpI.q pq))){T29}(t29:T29=λ(i_2:RM)=>(kb ((RM.mk (RM.D i_2) (RM.S i_2) (RM.F i_2)).3 qb qc))){T30}(t30:T30=λ(i:SpI)=>(slB (SpI.v i))){T31}(t31:T31=λ(i:SpI)=>(1+Int.toNat (intV
 (T21 i))*5+1+1+1+1)){T32}(t32:T32=λ(i:SpI)=>((SpI.q i).1 (SpI.b i)/\1+Int.toNat (intV (T20 i))*5+5<=(SpI.q i).2 (SpI.b i))){T33}(t33:T33=λ(i:SpI) (pq:SpI)=>(True/\SpI.b i=SpI.b pq/\0=0)){T34}(t34:T34=fun
 (i:SpI)=>((SpI.q i).3 (T30 i) (slC (SpI.v i)+Int.toNat (T3 i)*5+1+1+1))){T35}(t35:T35=λ(i:SpI) (pq:SpI)=>(spM q rb rc qb qc pq/\SpI.i pq=SpI.i i/\(SpI.q pq).3 T2 0=(SpI.q i).3 T2 0)){T36}(t36:T36=λ(pq:SpI)=>(↑(SpI.i pq) :
 Int)){T37}(t37:T37=λ(i:SpI)=>((SpI.q i).3 T2 (1+Int.toNat (T3 i)*5+1+Int.toNat (T9 i)*1))){T38}(t38:T38=λ(i:SpI)=>((SpI.q i).3 T2 (1+Int.toNat (T3 i)*5+3+Int.toNat (T9 i)*1))){T39}(t39:T39=λ(i:SpI)=>(1+Int.toNat (T3 i)
 * 5+1+1+1)){T40}(t40:T40=λ(i:SpI)=>((SpI.q i).1 T2/\1+Int.toNat (T3 i)*5+5<=(SpI.q i).2 T2)){T41}(t41:T41=λ(i:SpI)=>((SpI.q i).3 (T30 i) (slC (SpI.v i)+Int.toNat (T3 i)*5+1+1))){T42}(t42:T42=λ(i_2:RM)=>(RM.mk (RM.D
 i_2) i_2.2 i_2.3)){T43}(t43:T43=(T16.3 rb (rc+0))){T44}(t44:T44=λ(i:SpI)=>(↑(slL (SpI.v i)):Int)){T45}(t45:T45=λ(i:SpI)=>((SpI.q i).3 (T30 i) (slC (SpI.v i)+Int.toNat (T3 i)*5+1))):runG X2 1 [(7,spL1 ts q rb rc qb qc),(21,spL2 ts q rb rc qb qc)] [] (codeOf Try.f60) (init Try.f60.ntmps [.pb 0 rb rc, .pb 0 qb qc] [(0,rwO ts q)] 1) (endK X2.G.E.T Try.f60.results.toList λS v=>R (Go.Sx.look S.H 0) v)=(
 ∀(i:Nat×Nat),okR (RM.mk (RM.D q) q.2 q.3) rb rc/\(i.1<2->(q.1 rb/\rc+0<T16.2 rb)/\(isIf 134 T43/\isPt (ifcV T43))/\∀(i_1:Nat),¬q.1 i_1->((qb=i_1∨q.1 qb)/\qc+0+1<=newSx (RM.D T16) q.2 i_1 86 qb)/\(∃(pq:SpI),sp1X q
 rb rc qb qc pq/\(T12/\T22/\(↑(i.1):Int)=(↑(SpI.a pq):Int)/\T12/\(True/\ptB (ifcV T43)=kb (q.3 rb rc)/\ptC (ifcV T43)=0)/\(True/\i_1=SpI.b pq/\0=0)/\SpI.v pq=Value.slice Option.none 0 0/\0=(T36 pq)/\True)/\True/\(0=0
 /\0=0/\ts=ts/\updN (newFx (RM.D T16) q.3 i_1 (rz tys 137)) qb (qc+0) (Value.iface 134 (Value.pointer (Option.some (Addr.mk i_1 0 Option.none))))=(SpI.q pq).3/\newSx (RM.D T16) q.2 i_1 86=(SpI.q pq).2/\newD (RM.D T16) i_1=RM.D (SpI.q
 pq))/\True)/\∀(i:SpI),sp1X q rb rc qb qc i->(T27 i)/\(decide ((T3 i)<intV (T21 i))=true->(0<=(T3 i)/\(T3 i)<17)/\(0<=(T9 i)/\(T9 i)<2)/\((SpI.q i).1 T2/\1+Int.toNat (T3 i)*5+1+Int.toNat (T9 i)*1<(SpI.q i).2 T2/\
 isFlt .f64 (T37 i))/\(0<=(T9 i)/\(T9 i)<2)/\((SpI.q i).1 rb/\rc+1+Int.toNat (T9 i)*1<(SpI.q i).2 rb/\isFlt .f64 ((SpI.q i).3 rb (rc+1+Int.toNat (T9 i)*1)))/\fok BinOp.sub .f64 (fltV (T37 i)) (fltV ((SpI.q i).3 rb (rc+1 +
 Int.toNat (T9 i)*1)))/\true=true/\((0:Int)<=(T9 i)/\(T9 i)<2)/\((SpI.q i).1 rb/\rc+3+Int.toNat (T9 i)*1<(SpI.q i).2 rb/\isFlt .f64 ((SpI.q i).3 rb (rc+3+Int.toNat (T9 i)*1)))/\(0<=(T3 i)/\(T3 i)<17)/\((0:Int)<=
 (T9 i)/\(T9 i)<2)/\((SpI.q i).1 T2/\1+Int.toNat (T3 i)*5+3+Int.toNat (T9 i)*1<(SpI.q i).2 T2/\isFlt .f64 (T38 i))/\fok BinOp.sub .f64 (fltV ((SpI.q i).3 rb (rc+3+Int.toNat (T9 i)*1))) (fltV (T38 i))/\true=true/\(fLt .f64
 (T10 i) (T11 i)=true->∃(pq:SpI),sp1X q rb rc qb qc pq/\Int.toNat (intV ((SpI.q pq).3 T2 0))-SpI.i pq<Int.toNat (intV (T21 i))-SpI.i i/\(T12/\T22/\(T9 i)=(↑(SpI.a pq):Int)/\T12/\T14/\(T33 i pq)/\(True/\SpI.v i=SpI.v pq)/\
 IntKind.wrap .i64 ((T3 i)+1)=(T36 pq)/\True)/\True/\(T28 i pq)/\True)/\(fLt .f64 (T10 i) (T11 i)=false->((fGt .f64 (T10 i) (T11 i)=true->(T23 i)/\((0:Int)<=(T3 i)/\(T3 i)<17)/\(T40 i)/\((0:Int)<=intV (T20 i)/\intV (T20 i)
 < (17:Int))/\((((((T32 i)/\Value.oneCell' ((SpI.q i).3 T2 (1+Int.toNat (T3 i)*5))=true)/\Value.oneCell' ((SpI.q i).3 T2 (1+Int.toNat (T3 i)*5+1))=true)/\Value.oneCell' ((SpI.q i).3 T2 (1+Int.toNat (T3 i)*5+1+1))=true)/\
 Value.oneCell' ((SpI.q i).3 T2 (T39 i))=true)/\Value.oneCell' (T19 i)=true)/\true=true/\((SpI.q i).1 (SpI.b i)/\0<(SpI.q i).2 (SpI.b i)/\isInt .i64 (updN (T7 i) (SpI.b i) (T15 i) (T19 i) (SpI.b i) 0))/\((SpI.q i).1 (SpI.b i)/\1<=
 (SpI.q i).2 (SpI.b i))/\∃(pq:SpI),(T35 i pq)/\(T12/\T22/\(T9 i)=(↑(SpI.a pq):Int)/\T12/\T14/\(T33 i pq)/\(True/\SpI.v i=SpI.v pq)/\(T3 i)=(T36 pq)/\True)/\True/\(0=0/\0=0/\ts=ts/\updN (updN (T7 i) (SpI.b i) (T15 i)
 (T19 i)) (SpI.b i) 0 (Value.int .i64 (IntKind.wrap .i64 (intV (updN (T7 i) (SpI.b i) (T15 i) (T19 i) (SpI.b i) 0)+(1:Int))))=(SpI.q pq).3/\(SpI.q i).2=(SpI.q pq).2/\RM.D (SpI.q i)=RM.D (SpI.q pq))/\True)/\(fGt .f64 (T10 i) (T11 i) =
 false->(0<=(T3 i)/\(T3 i)<17)/\(T40 i)/\∀(i_2:ApI),((((((Value.oneCell' ((SpI.q i).3 T2 (1+Int.toNat (T3 i)*5))=true/\Value.oneCell' ((SpI.q i).3 T2 (1+Int.toNat (T3 i)*5+1))=true)/\Value.oneCell' ((SpI.q i).3 T2 (1 +
 Int.toNat (T3 i)*5+1+1))=true)/\Value.oneCell' ((SpI.q i).3 T2 (T39 i))=true)/\Value.oneCell' (T19 i)=true)/\isSlN (SpI.v i))/\appO (RM.D (SpI.q i)) (SpI.q i).2 5 48 (T30 i) (slC (SpI.v i)) (slL (SpI.v i)) (slK (SpI.v i)) 1)/\(appP
 (RM.D (SpI.q i)) (SpI.q i).2 (SpI.q i).3 5 (T30 i) (slC (SpI.v i)) (slL (SpI.v i)) (slK (SpI.v i)) 1 [(SpI.q i).3 T2 (1+Int.toNat (T3 i)*5),(SpI.q i).3 T2 (1+Int.toNat (T3 i)*5+1),(SpI.q i).3 T2 (1+Int.toNat (T3 i)*5+1+1),(SpI.q
 i).3 T2 (T39 i),(SpI.q i).3 T2 (1+Int.toNat (T3 i)*5+1+1+1+1)] i_2->∃(pq:SpI),(T35 i pq)/\(T12/\T22/\(T9 i)=(↑(SpI.a pq):Int)/\T12/\T14/\(T33 i pq)/\(True/\SpI.v pq=Value.slice (Option.some (Addr.mk i_2.1 i_2.2
 Option.none)) (slL (SpI.v i)+1) i_2.3)/\(T3 i)=(T36 pq)/\True)/\True/\(0=0/\0=0/\ts=ts/\i_2.6=(SpI.q pq).3/\i_2.5=(SpI.q pq).2/\ApI.D i_2=RM.D (SpI.q pq))/\True)))/\∀(j:SpI),spM q rb rc qb qc j/\SpI.i j=SpI.i i/\
 (SpI.q j).3 T2 0=(SpI.q i).3 T2 0->((SpI.q j).1 T2/\0<(SpI.q j).2 T2/\isInt .i64 ((SpI.q j).3 T2 0))/\((0:Int)<=IntKind.wrap .i64 (intV ((SpI.q j).3 T2 0)-(1:Int))/\IntKind.wrap .i64 (intV ((SpI.q j).3 T2 0)-(1:Int))<(17:Int))
 /\((SpI.q j).1 T2/\1+Int.toNat (T13 j)*5+5<=(SpI.q j).2 T2)/\(0<=(↑(SpI.i j):Int)/\(↑(SpI.i j):Int)<(17:Int))/\(((((((SpI.q j).1 T2/\1+Int.toNat (↑(SpI.i j):Int)*5+5<=(SpI.q j).2 T2)/\Value.oneCell' ((SpI.q j).3 T2 (1 +
 Int.toNat (T13 j)*5))=true)/\Value.oneCell' ((SpI.q j).3 T2 (1+Int.toNat (T13 j)*5+1))=true)/\Value.oneCell' ((SpI.q j).3 T2 (1+Int.toNat (T13 j)*5+1+1))=true)/\Value.oneCell' ((SpI.q j).3 T2 (1+Int.toNat (T13 j)*5+1 +
 1+1))=true)/\Value.oneCell' ((SpI.q j).3 T2 (1+Int.toNat (T13 j)*5+1+1+1+1))=true)/\true=true/\((SpI.q j).1 T2/\0<(SpI.q j).2 T2/\isInt .i64 (T6 j))/\((0:Int)<=IntKind.wrap .i64 (intV (T6 j)-(1:Int))/\IntKind.wrap
 .i64 (intV (T6 j)-(1:Int))<(17:Int))/\((SpI.q j).1 T2/\1+Int.toNat (IntKind.wrap .i64 (intV (T6 j)-(1:Int)))*5+0+1<=(SpI.q j).2 T2)/\true=true/\((SpI.q j).1 T2/\0<(SpI.q j).2 T2/\isInt .i64 (updN (T17 j) T2 (T25 j)
 Value.nilIface T2 0))/\((SpI.q j).1 T2/\1<=(SpI.q j).2 T2)/\∃(pq:SpI),sp1X q rb rc qb qc pq/\Int.toNat (intV ((SpI.q pq).3 T2 0))-SpI.i pq<Int.toNat (intV (T21 i))-SpI.i i/\(T12/\T22/\(↑(SpI.a j):Int)=(↑(SpI.a pq):Int)/\T12/\
 T14/\(True/\SpI.b j=SpI.b pq/\0=0)/\(True/\SpI.v j=SpI.v pq)/\IntKind.wrap .i64 (IntKind.wrap .i64 ((↑(SpI.i j):Int)-1)+(1:Int))=(T36 pq)/\True)/\True/\(0=0/\0=0/\ts=ts/\updN (updN (T17 j) T2 (T25 j) Value.nilIface)
 T2 0 (Value.int .i64 (IntKind.wrap .i64 (intV (updN (T17 j) T2 (T25 j) Value.nilIface T2 0)-(1:Int))))=(SpI.q pq).3/\(SpI.q j).2=(SpI.q pq).2/\RM.D (SpI.q j)=RM.D (SpI.q pq))/\True))/\(decide ((T3 i)<intV (T21 i))=false->isSlN
 (SpI.v i)/\(∃(pq:SpI),sp2 q rb rc qb qc pq/\(T12/\T22/\T12/\T14/\(T33 i pq)/\(True/\SpI.v i=SpI.v pq)/\(T44 i)=(↑(slL (SpI.v pq)):Int)/\0=(T36 pq)/\True)/\True/\(T28 i pq)/\True)/\∀(i:SpI),sp2 q rb rc qb qc i->(decide
 ((T3 i)<(T44 i))=true->(isSl (SpI.v i)/\0<=(T3 i)/\(T3 i)<(T44 i))/\((SpI.q i).1 (T30 i)/\slC (SpI.v i)+Int.toNat (T3 i)*5+5<=(SpI.q i).2 (T30 i))/\(T27 i)/\(T23 i)/\true=true/\(decide (intV (T21 i)<intV (T20 i))=true->
 (T27 i)/\((0:Int)<=intV (T21 i)/\intV (T21 i)<(17:Int))/\(((((((SpI.q i).1 T2/\1+Int.toNat (intV (T21 i))*5+5<=(SpI.q i).2 T2)/\Value.oneCell' ((SpI.q i).3 (T30 i) (slC (SpI.v i)+Int.toNat (T3 i)*5))=true)/\Value.oneCell'
 (T45 i)=true)/\Value.oneCell' (T41 i)=true)/\Value.oneCell' (T34 i)=true)/\Value.oneCell' (T8 i)=true)/\true=true/\((SpI.q i).1 T2/\0<(SpI.q i).2 T2/\isInt .i64 (updN (T5 i) T2 (T31 i) (T8 i) T2 0))/\((SpI.q i).1 T2/\1<=(SpI.q
 i).2 T2)/\∃(pq:SpI),sp2 q rb rc qb qc pq/\slL (SpI.v pq)-SpI.i pq<slL (SpI.v i)-SpI.i i/\(T18 i pq)/\True/\(0=0/\0=0/\ts=ts/\updN (updN (T5 i) T2 (T31 i) (T8 i)) T2 0 (Value.int .i64 (IntKind.wrap .i64 (intV (updN (T5 i) T2
 (T31 i) (T8 i) T2 0)+(1:Int))))=(SpI.q pq).3/\(SpI.q i).2=(SpI.q pq).2/\RM.D (SpI.q i)=RM.D (SpI.q pq))/\True)/\(decide (intV (T21 i)<intV (T20 i))=false->(T23 i)/\((0:Int)<=intV (T20 i)/\intV (T20 i)<(17:Int))/\((((((T32
 i)/\Value.oneCell' ((SpI.q i).3 (T30 i) (slC (SpI.v i)+Int.toNat (T3 i)*5))=true)/\Value.oneCell' (T45 i)=true)/\Value.oneCell' (T41 i)=true)/\Value.oneCell' (T34 i)=true)/\Value.oneCell' (T8 i)=true)/\true=true/\((SpI.q i).1
 (SpI.b i)/\0<(SpI.q i).2 (SpI.b i)/\isInt .i64 (updN (T4 i) (SpI.b i) (T15 i) (T8 i) (SpI.b i) 0))/\((SpI.q i).1 (SpI.b i)/\1<=(SpI.q i).2 (SpI.b i))/\∃(pq:SpI),sp2 q rb rc qb qc pq/\slL (SpI.v pq)-SpI.i pq<slL (SpI.v i)-SpI.i i/\
 (T18 i pq)/\True/\(0=0/\0=0/\ts=ts/\updN (updN (T4 i) (SpI.b i) (T15 i) (T8 i)) (SpI.b i) 0 (Value.int .i64 (IntKind.wrap .i64 (intV (updN (T4 i) (SpI.b i) (T15 i) (T8 i) (SpI.b i) 0)+(1:Int))))=(SpI.q pq).3/\(SpI.q i).2=(SpI.q
 pq).2/\RM.D (SpI.q i)=RM.D (SpI.q pq))/\True))/\(decide ((T3 i)<(T44 i))=false->∀(i_2:RM),(hangs (T26 i) rb rc/\ndOf (T26 i) (T24 i)≠[])/\(rcP (T26 i) rb rc (T24 i) (List.length (ndOf (T26 i) (T24 i))) i_2->∀(i:RM),(hangs (T42
 i_2) qb qc/\ndOf (T42 i_2) (T29 i_2)≠[])/\(rcP (T42 i_2) qb qc (T29 i_2) (List.length (ndOf (T42 i_2) (T29 i_2))) i->R (Option.some (Ob.mk true 0 (Cont.raw ts (RM.D i) i.2 i.3) 0)) (SV.tup []))))))):=by subst t1 t2 t3 t4 t5 t6 t7 t8 t9 t10 t11 t12 t13 t14 t15 t16 t17 t18 t19 t20 t21 t22 t23 t24 t25 t26 t27 t28 t29 t30 t31 t32 t33 t34 t35 t36 t37 t38 t39 t40 t41 t42 t43 t44 t45;kernel_rfl
theorem rSplit:RConOk Try.prog 60 (rconR (RM) ⟨default⟩ rSplitC):=by
 refine rcon_raw x2 Try.func60 rfl (by kernel_rfl) λargs=>?_
 unfold rSplitC;split
 ·rename_i n rb rc n1 qb qc;intro o0;try dsimp only;split
  ·rename_i ts q hm0;intro ho;replace ho:n=n1/\(spO q rb rc qb qc):=ho;obtain⟨heq0,ho⟩:=ho;subst heq0;refine⟨?_,Nat.succ_pos _,ts,λ(i:RM)=>i,λ(i:RM)=>.tup [],λ_=>rfl,?_,_,_,(vc_rSplit (RPost 1 ts (λ(i:RM)=>spP q rb rc qb qc i) (λ(i:RM)=>i) (λ(i:RM)=>.tup [])) ts q rb rc qb qc rfl rfl rfl rfl rfl rfl rfl rfl rfl rfl rfl rfl rfl rfl rfl rfl rfl rfl rfl rfl rfl rfl rfl rfl rfl rfl rfl rfl rfl rfl rfl rfl rfl rfl rfl rfl rfl rfl rfl rfl rfl rfl rfl rfl rfl).mpr ?_⟩
   ·refine okFlag_mk rfl ⟨λ_=>rfl,?_,⟨trivial,obR_rawOf hm0,trivial⟩⟩;simp[eqvRL,eqvR,sgSig,fsts,nth,sameN_self]
   ·intro i _;rfl
   ·obtain⟨hD,hSz,hr,hne,hnd⟩:=ho.1;obtain⟨f1,f2,f3,f4⟩:=hr.facts;have hnd17:=hnd.le;have hS0:=hnd.S;simp only[true_and,and_true,eq_self,Int.toNat_natCast,Nat.mul_one,decide_eq_true_eq,decide_eq_false_iff_not];simp only[Nat.add_zero,f3,f4];rintro⟨a,x⟩;refine⟨ho.2.1,λha=>⟨⟨hD,by omega⟩,⟨f1,f2⟩,λb hb=>?_⟩⟩;simp only[newFx_eq hb,newSx_eq hb];refine⟨⟨.inr ho.qD,?_⟩,⟨⟨a,x,b,0, .slice none 0 0,⟨_,_,_⟩⟩,sp1_init ho ha hb,(by and_intros <;> first|trivial|rfl|(rw[wrap64 (by omega) (by omega)];first|rfl|omega))⟩,?_⟩
    ·have:qb≠b:=λe=>hb (e▸ho.qD)
     have:=ho.2.2.2.2.1.2;simp only[newS];rw[if_neg ‹qb≠b›];omega
    ·intro p hsp;have hsp':=hsp;obtain⟨L,R,E,h,hp,hi,hs,hg⟩:=hsp;obtain⟨x1,x2,x3,x4⟩:=h.box ho;have hn:intV (p.q.F (kb (q.F rb rc)) 0)=(L.length:Nat):=by rw[h.l.n];rfl
     have hm:intV (p.q.F p.b 0)=(R.length:Nat):=by rw[h.r.n];rfl
     have hLS:=h.l.S;have hRS:=h.r.S;have hL17:=h.l.le;have hR17:=h.r.le;have ha2:=h.a;simp only[hn,hm,Int.toNat_natCast];refine⟨⟨h.l.D,by omega,by rw[h.l.n];rfl⟩,λhlt=>?_,λhge=>?_⟩
     ·have hi2:p.i<L.length:=by omega
      have he:=List.getElem?_eq_getElem hi2;generalize L[p.i]=e at he;have hb:=h.l.B _ _ he;have hvv:=h.l.v _ _ he;rw[Nat.mul_comm]at hb hvv;have a0:=hb.lo ha2;have a1:=hb.hi ha2;have b0:=x3.lo ha2;have b1:=x3.hi ha2;obtain⟨k1,k2,k3⟩:=a0.sub b0;obtain⟨k4,k5,k6⟩:=b1.sub a1;have hi17:(0:Int)<=p.i/\(p.i:Int)<17:=by omega
      have ha3:(0:Int)<=p.a/\(p.a:Int)<2:=by omega
      have one:∀ k,k<5->(p.q.F (kb (q.F rb rc)) (1+p.i*5+k)).oneCell'=true:=λk hk=>by
       match k,hk with
       | 0,_=>rw[Nat.add_zero,hvv];exact h.l.o _ _ he
       | 1,_=>rw[hb.1.1];rfl
       | 2,_=>rw[hb.2.1.1];rfl
       | 3,_=>rw[hb.2.2.1.1];rfl
       | 4,_=>rw[hb.2.2.2.1];rfl
      have o0:=one 0 (by omega);have o1:=one 1 (by omega);have o2:=one 2 (by omega);have o3:=one 3 (by omega);have o4:=one 4 (by omega);simp only[Nat.add_zero]at o0;have hcmp:fLt .f64 (fop .sub .f64 (fltV (p.q.F (kb (q.F rb rc)) (1+p.i*5+1+p.a))) (fltV (p.q.F rb (rc+1+p.a)))) (fop .sub .f64 (fltV (p.q.F rb (rc+3+p.a))) (fltV (p.q.F (kb (q.F rb rc)) (1+p.i*5+3+p.a))))=decide (stayP p.a (bxOf q.F rb rc) e):=flt_I k2 k5
      have hcmp2:fGt .f64 (fop .sub .f64 (fltV (p.q.F (kb (q.F rb rc)) (1+p.i*5+1+p.a))) (fltV (p.q.F rb (rc+1+p.a)))) (fop .sub .f64 (fltV (p.q.F rb (rc+3+p.a))) (fltV (p.q.F (kb (q.F rb rc)) (1+p.i*5+3+p.a))))=decide (goP p.a (bxOf q.F rb rc) e):=fgt_I k2 k5;obtain⟨hr17,he17⟩:=sp_room ho hp he;simp only[a0.flt,a1.flt,b0.flt,b1.flt,k1,k4,h.l.D,x1,hi17,ha3,hcmp,hcmp2,h.r.D,and_true,true_and];have hz:∀(F:Nat->Nat->Value)(b x:Nat)(v:Value),updN F b (1+x) v b 0=F b 0:=λ_ _ _ _=>updN_z (by omega)
      simp (disch:=omega) only[updN_z,hm,wrap64];refine⟨by omega,by omega,by omega,by omega,λhc=>⟨⟨p.a,p.x,p.b,p.i+1,p.v,p.q⟩,sp1_stay h hp hs hg he (of_decide_eq_true hc) rfl,?_,(by and_intros <;> first|trivial|rfl|(rw[wrap64 (by omega) (by omega)];first|rfl|omega))⟩,λhc=>⟨⟨λhc2=>?_,λhc2=>?_⟩,?_⟩⟩
      ·show (intV (p.q.F (kb (q.F rb rc)) 0)).toNat-(p.i+1)<_;rw[hn];omega
      ·refine⟨⟨by omega,by rw[h.r.n];rfl⟩,by omega,by omega,⟨⟨⟨⟨⟨by omega,o0⟩,o1⟩,o2⟩,o3⟩,o4⟩,⟨by omega,by rw[h.r.n];rfl⟩,by omega,_,⟨spM_right ho h hp hs hg he (of_decide_eq_true hc2),rfl,?_⟩,(by and_intros <;> first|trivial|rfl|(rw[wrap64 (by omega) (by omega)];first|rfl|omega))⟩;show updN _ _ _ _ _ _=_;rw[updN_off (.inl (h.bn ho)),cp5_off (.inl (h.bn ho))]
      ·refine⟨by omega,λj=>⟨⟨⟨⟨⟨⟨⟨o0,o1⟩,o2⟩,o3⟩,o4⟩,h.e.sl⟩,?_⟩,λhap=>⟨_,⟨spM_aside ho h hp hs hg he hap,rfl,?_⟩,(by and_intros <;> first|trivial|rfl|(rw[wrap64 (by omega) (by omega)];first|rfl|omega))⟩⟩⟩
       ·have h1:=h.e.n;have h2:=h.e.le;refine⟨λhk=>?_,λhk=>?_,by omega,by simp only[maxLen];omega⟩
        ·obtain⟨d1,d2,_⟩:=h.e.D (by omega);exact⟨d1,by omega⟩
        ·obtain⟨d1,d2,_⟩:=h.e.D (by omega);exact⟨d1,by omega⟩
       ·exact(app_keeps hap h.l.D λhr2=>Ne.symm (h.vn ho (by omega)).1).2.2 0
      ·rintro p2 ⟨⟨L2,R2,E2,h2,hp2,hi2',hs2,hg2⟩,hpi,hpn⟩;have hn2:intV (p2.q.F (kb (q.F rb rc)) 0)=(L2.length:Nat):=by rw[h2.l.n];rfl
       have hLL:L2.length=L.length:=by
        have:intV (p2.q.F (kb (q.F rb rc)) 0)=intV (p.q.F (kb (q.F rb rc)) 0):=by rw[hpn]
        rw[hn2,hn]at this;omega
       have hsub:((L2.length:Nat):Int)-1=((L2.length-1:Nat):Int):=by omega
       have hS2:=h2.l.S;have h17:=h2.l.le;have he2:=List.getElem?_eq_getElem (by omega:L2.length-1<L2.length);generalize L2[L2.length-1]'(by omega)=e2 at he2;have hb2:=h2.l.B _ _ he2;have hv2:=h2.l.v _ _ he2;rw[Nat.mul_comm]at hb2 hv2;have q0:(p2.q.F (kb (q.F rb rc)) (1+(L2.length-1)*5)).oneCell'=true:=by rw[hv2];exact h2.l.o _ _ he2
       have q1:(p2.q.F (kb (q.F rb rc)) (1+(L2.length-1)*5+1)).oneCell'=true:=by rw[hb2.1.1];rfl
       have q2:(p2.q.F (kb (q.F rb rc)) (1+(L2.length-1)*5+1+1)).oneCell'=true:=by
        have:=hb2.2.1.1;rw[show 1+(L2.length-1)*5+1+1=1+(L2.length-1)*5+2 from rfl,this];rfl
       have q3:(p2.q.F (kb (q.F rb rc)) (1+(L2.length-1)*5+1+1+1)).oneCell'=true:=by
        have:=hb2.2.2.1.1;rw[show 1+(L2.length-1)*5+1+1+1=1+(L2.length-1)*5+3 from rfl,this];rfl
       have q4:(p2.q.F (kb (q.F rb rc)) (1+(L2.length-1)*5+1+1+1+1)).oneCell'=true:=by
        have:=hb2.2.2.2.1;rw[show 1+(L2.length-1)*5+1+1+1+1=1+(L2.length-1)*5+4 from rfl,this];rfl
       have hw2:IntKind.i64.wrap (IntKind.i64.wrap ((p2.i:Int)-1)+1)=(p2.i:Int):=by
        rw[wrap64 (n:=(p2.i:Int)-1) (by omega) (by omega),wrap64 (by omega) (by omega)];omega
       have hw3:IntKind.i64.wrap ((L2.length:Int)-1)=((L2.length-1:Nat):Int):=by
        rw[wrap64 (by omega) (by omega)];omega
       simp (disch:=omega) only[hn2,hw2,hw3,Int.toNat_natCast,h2.l.D,q0,q1,q2,q3,q4,true_and,and_true];refine⟨⟨by omega,by rw[h2.l.n];rfl⟩,⟨by omega,by omega⟩,by omega,⟨by omega,by omega⟩,by omega,⟨by omega,by rw[h2.l.n];rfl⟩,⟨by omega,by omega⟩,by omega,⟨by omega,by rw[h2.l.n];rfl⟩,by omega,_,sp1_swap ho h2 hp2 hi2' hs2 hg2 .nilIface,?_,(by and_intros <;> first|trivial|rfl|(rw[wrap64 (by omega) (by omega)];first|rfl|omega))⟩;show (intV (updN _ (kb (q.F rb rc)) 0 _ (kb (q.F rb rc)) 0)).toNat-p2.i<_;rw[updN_eq];have hpi:p2.i=p.i:=hpi;show ((L2.length-1:Nat):Int).toNat-p2.i<L.length-p.i
       rw[Int.toNat_natCast];omega
     ·have hi2:p.i=L.length:=by omega
      refine⟨h.e.sl,⟨⟨p.a,p.x,p.b,0,p.v,p.q⟩,sp2_begin ho h hp hi2 hs hg,(by and_intros <;> first|trivial|rfl|(rw[wrap64 (by omega) (by omega)];first|rfl|omega))⟩,?_⟩;rintro p2 ⟨L2,R2,E2,h2,hp2,⟨hi3,hE3⟩,hL2,hR2⟩;have hn2:intV (p2.q.F (kb (q.F rb rc)) 0)=(L2.length:Nat):=by rw[h2.l.n];rfl
      have hm2:intV (p2.q.F p2.b 0)=(R2.length:Nat):=by rw[h2.r.n];rfl
      have hLS2:=h2.l.S;have hRS2:=h2.r.S;have hL172:=h2.l.le;have hR172:=h2.r.le;have hEn:=h2.e.n;refine⟨λhlt=>?_,λhge2=>?_⟩
      ·have hi4:p2.i<E2.length:=by omega
       have he:=List.getElem?_eq_getElem hi4;generalize E2[p2.i]=e at he;have hb:=h2.e.B _ _ he;have hvv:=h2.e.c _ _ he;rw[Nat.mul_comm]at hb hvv;have hpos:=h2.e.pos (E:=E2) (λe=>by rw[e]at hi4;simp at hi4);obtain⟨d1,d2,d3,d4⟩:=h2.e.D hpos;have hle:=h2.e.le
       have hsl:isSl p2.v:=by
        rcases h2.e.sl with e1|e1
        ·exfalso;rw[e1]at hpos;exact absurd hpos (by decide)
        ·exact e1
       have q0:(p2.q.F (slB p2.v) (slC p2.v+p2.i*5)).oneCell'=true:=by rw[hvv];exact h2.e.o _ _ he
       have q1:(p2.q.F (slB p2.v) (slC p2.v+p2.i*5+1)).oneCell'=true:=by rw[hb.1.1];rfl
       have q2:(p2.q.F (slB p2.v) (slC p2.v+p2.i*5+1+1)).oneCell'=true:=by
        have:=hb.2.1.1;rw[show slC p2.v+p2.i*5+1+1=slC p2.v+p2.i*5+2 from rfl,this];rfl
       have q3:(p2.q.F (slB p2.v) (slC p2.v+p2.i*5+1+1+1)).oneCell'=true:=by
        have:=hb.2.2.1.1;rw[show slC p2.v+p2.i*5+1+1+1=slC p2.v+p2.i*5+3 from rfl,this];rfl
       have q4:(p2.q.F (slB p2.v) (slC p2.v+p2.i*5+1+1+1+1)).oneCell'=true:=by
        have:=hb.2.2.2.1;rw[show slC p2.v+p2.i*5+1+1+1+1=slC p2.v+p2.i*5+4 from rfl,this];rfl
       have hlen:=sp_len ho hp2;rw[drop_cons he]at hlen;simp only[List.length_append,List.length_cons]at hlen;have c1:(0:Int)<=(p2.i:Int):=by omega
       have c2:(p2.i:Int)<((slL p2.v:Nat):Int):=by omega
       simp (disch:=omega) only[updN_z,hn2,hm2,wrap64,Int.toNat_natCast,h2.l.D,h2.r.D,d1,q0,q1,q2,q3,q4,hsl,c1,c2,true_and,and_true];refine⟨by omega,⟨by omega,by rw[h2.l.n];rfl⟩,⟨by omega,by rw[h2.r.n];rfl⟩,λhc=>?_,λhc=>?_⟩
       ·refine⟨⟨by omega,by rw[h2.l.n];rfl⟩,⟨by omega,by omega⟩,by omega,⟨by omega,by rw[h2.l.n];rfl⟩,by omega,_,sp2_left ho h2 hp2 he hE3 (by omega) rfl,?_,(by and_intros <;> first|trivial|rfl|(rw[wrap64 (by omega) (by omega)];first|rfl|omega))⟩;show slL p2.v-(p2.i+1)<slL p2.v-p2.i;omega
       ·refine⟨⟨by omega,by rw[h2.r.n];rfl⟩,⟨by omega,by omega⟩,by omega,⟨by omega,by rw[h2.r.n];rfl⟩,by omega,_,sp2_right ho h2 hp2 he hE3 (by omega) rfl,?_,(by and_intros <;> first|trivial|rfl|(rw[wrap64 (by omega) (by omega)];first|rfl|omega))⟩;show slL p2.v-(p2.i+1)<slL p2.v-p2.i;omega
      ·obtain⟨g1,g2,g3⟩:=sp_end ho h2 hp2 (by omega) hL2 hR2;refine λq1=>⟨⟨g1,g2⟩,λhq1=>?_⟩
       obtain⟨g4,g5,g6⟩:=g3 q1 hq1;exact λq2=>⟨⟨g4,g5⟩,λhq2=>⟨q2,g6 q2 hq2,rfl,trivial⟩⟩
  ·trivial
 ·trivial
structure insA (q:RM) (rb rc ib ic h:Nat) (k:Kid) (it:Int×Bx):Prop where
 D:q.D rb
 S:rc+5<=q.S rb
 ref:q.F rb rc=.iface 134 (.pointer (some ⟨k.b,0,none⟩))
 box:isBox q.F rb rc k.B
 tr:isTr q h k
 nd:k.fp.Nodup
 n:k.n<=16
 n0:k.n=0->h=0/\k.B=it.2
 rfp:rb∉k.fp
 iD:q.D ib
 iS:ic+5<=q.S ib
 iv:q.F ib ic=.iface 3 (.int .i64 it.1)
 ibx:isBox q.F ib ic it.2
 ifp:ib∉k.fp
def insF(q q':RM)(fp:List Nat):Prop:=(∀ b,q.D b->q'.D b/\q'.S b=q.S b)/\∀ b c,q.D b->b∉fp->q'.F b c=q.F b c
def insP(q:RM)(rb rc ib ic h:Nat)(q':RM)(g:Bool):Prop:=∀ k it,insA q rb rc ib ic h k it->g=decide (¬hasB k.B it.2)/\insF q q' k.fp/\
 ∃ k':Kid,k'.b=k.b/\k'.n<=17/\1<=k'.n/\isTr q' h k'/\k'.fp.Nodup/\(∀ b∈k'.fp,b∈k.fp∨¬q.D b)/\k'.its.Perm (k.its++[it])/\k'.B=joinB k.B it.2
def insO(q:RM)(rb rc ib ic h:Nat):Prop:=∃ k it,insA q rb rc ib ic h k it
def pushP(q:RM)(ib ic nb:Nat)(q':RM):Prop:=sameBut q q' (λb _=>b=nb)/\isNd q' nb (ndOf q nb++[⟨q.F ib ic,bxOf q.F ib ic⟩])
structure InI where
 j:Nat
 q:RM
 g:Bool
def inC(q:RM)(nb ib ic h:Nat)(p:InI):Prop:=p.j<(ndOf q nb).length/\insP q nb (1+p.j*5) ib ic h p.q p.g
def inE(q:RM)(rb rc nb ib ic h:Nat)(p:InI):Prop:=p.j<(ndOf q nb).length/\∃ q1 g,insP q nb (1+p.j*5) ib ic h q1 g/\sameBut q1 p.q (rW nb (1+p.j*5))/\
 isBox p.q.F nb (1+p.j*5) (joinB (bxOf q1.F nb (1+p.j*5)) (bxOf q1.F ib ic))/\p.g=(g&&decide (¬hasB (bxOf q.F rb rc) (bxOf q.F ib ic)))
theorem perm_map_inv{α β:Type}{f:α->β}:∀ {m m':List β},m.Perm m'->∀ l:List α,m'=l.map f->∃ l':List α,l'.Perm l/\l'.map f=m:=by
 intro m m' h
 induction h with
 | nil=>intro l hl;exact⟨[],by cases l with|nil=>exact List.Perm.refl _|cons a r=>simp at hl,rfl⟩
 | cons x h ih =>
  intro l hl
  cases l with
  | nil=>simp at hl
  | cons a r =>
   simp only[List.map_cons,List.cons.injEq]at hl;obtain⟨l',h1,h2⟩:=ih r hl.2;exact⟨a :: l',h1.cons a,by simp[h2,hl.1]⟩
 | swap x y t =>
  intro l hl
  cases l with
  | nil=>simp at hl
  | cons a r =>
   cases r with
   | nil=>simp at hl
   | cons b r =>
    simp only[List.map_cons,List.cons.injEq]at hl;exact⟨b :: a :: r,List.Perm.swap a b r,by simp[hl.1,hl.2.1,hl.2.2]⟩
 | trans h1 h2 ih1 ih2 =>
  intro l hl;obtain⟨l2,h3,h4⟩:=ih2 l hl;obtain⟨l1,h5,h6⟩:=ih1 l2 h4.symm;exact⟨l1,h5.trans h3,h6⟩
theorem perm_map_split{α β:Type}{f:α->β}{L R:List β}{l:List α}(h:(L++R).Perm (l.map f)):∃(l1 l2:List α),L=l1.map f/\R=l2.map f/\(l1++l2).Perm l:=by
 obtain⟨l',h1,h2⟩:=perm_map_inv h l rfl;obtain⟨l1,l2,rfl,h3,h4⟩:=List.map_eq_append_iff.1 h2;exact⟨l1,l2,h3.symm,h4.symm,h1⟩
theorem nodup_mid{P Q Q' S:List Nat}(h:(P++(Q++S)).Nodup)(hq:Q'.Nodup)(hd:∀ b∈Q',b∈Q∨(b∉P/\b∉S)):(P++(Q'++S)).Nodup:=by
 rw[List.nodup_append,List.nodup_append]at h ⊢;obtain⟨h1,⟨h2,h3,h4⟩,h5⟩:=h;refine⟨h1,⟨hq,h3,λa ha b hb e=>?_⟩,λa ha b hb e=>?_⟩
 ·subst e;rcases hd a ha with hd|hd
  ·exact h4 a hd a hb rfl
  ·exact hd.2 hb
 ·subst e;rcases List.mem_append.1 hb with hb|hb
  ·rcases hd a hb with hd|hd
   ·exact h5 a ha a (List.mem_append.2 (.inl hd)) rfl
   ·exact hd.1 ha
  ·exact h5 a ha a (List.mem_append.2 (.inr hb)) rfl
theorem split_at{α:Type}{l:List α}{i:Nat}{x:α}(h:l[i]? = some x):∃ A B,l=A++x :: B/\A.length=i:=by
 obtain⟨h1,rfl⟩:=List.getElem?_eq_some_iff.1 h;refine⟨l.take i,l.drop (i+1),?_,by rw[List.length_take];omega⟩
 conv=>lhs;rw[<-List.take_append_drop i l]
 rw[List.drop_eq_getElem_cons h1]
theorem hull_in{B C:Bx}{l:List Bx}(h:tight B l)(hn:l≠[])(hc:∀ a∈l,hasB C a):hasB C B:=by
 obtain⟨⟨a,h1,h2⟩,⟨b,h3,h4⟩,⟨c,h5,h6⟩,⟨d,h7,h8⟩⟩:=h.2 hn;have ha:=hc a h1;have hb:=hc b h3;have hcc:=hc c h5;have hd:=hc d h7;unfold hasB at *;omega
theorem hasB_trans{A B C:Bx}(h1:hasB A B)(h2:hasB B C):hasB A C:=by unfold hasB at *;omega
theorem tight_mid{K b c:Bx}{P S:List Bx}(h:tight K (P++b :: S)):tight (joinB K c) (P++joinB b c :: S):=by
 obtain⟨h0,h1⟩:=h;have hb:=h0 b (by simp);obtain⟨⟨a1,m1,e1⟩,⟨a2,m2,e2⟩,⟨a3,m3,e3⟩,⟨a4,m4,e4⟩⟩:=h1 (by simp)
 have mem:∀ a,a∈P++b :: S->a=b∨a∈P++joinB b c :: S:=λa ha=>by
  simp only[List.mem_append,List.mem_cons]at ha ⊢;rcases ha with ha|ha|ha
  ·exact .inr (.inl ha)
  ·exact .inl ha
  ·exact .inr (.inr (.inr ha))
 have hj:joinB b c∈P++joinB b c :: S:=by simp
 refine⟨λa ha=>?_,λ_=>⟨?_,?_,?_,?_⟩⟩
 ·simp only[List.mem_append,List.mem_cons]at ha
  have hK:∀ a,hasB K a->hasB (joinB K c) a:=λa h=>by
   unfold hasB at h ⊢;simp only[joinB];refine⟨?_,?_,?_,?_⟩ <;> split <;> omega
  rcases ha with ha|ha|ha
  ·exact hK a (h0 a (by simp[ha]))
  ·subst ha;unfold hasB at hb ⊢;simp only[joinB];refine⟨?_,?_,?_,?_⟩ <;> split <;> split <;> omega
  ·exact hK a (h0 a (by simp[ha]))
 ·by_cases e:c.x0<K.x0
  ·exact⟨_,hj,by unfold hasB at hb;simp only[joinB];rw[if_pos e,if_pos (by omega)]⟩
  ·rcases mem a1 m1 with rfl|hm
   ·exact⟨_,hj,by simp only[joinB];rw[if_neg e,if_neg (by omega)];exact e1⟩
   ·exact⟨_,hm,by simp only[joinB];rw[if_neg e];exact e1⟩
 ·by_cases e:c.y0<K.y0
  ·exact⟨_,hj,by unfold hasB at hb;simp only[joinB];rw[if_pos e,if_pos (by omega)]⟩
  ·rcases mem a2 m2 with rfl|hm
   ·exact⟨_,hj,by simp only[joinB];rw[if_neg e,if_neg (by omega)];exact e2⟩
   ·exact⟨_,hm,by simp only[joinB];rw[if_neg e];exact e2⟩
 ·by_cases e:K.x1<c.x1
  ·exact⟨_,hj,by unfold hasB at hb;simp only[joinB];rw[if_pos e,if_pos (by omega)]⟩
  ·rcases mem a3 m3 with rfl|hm
   ·exact⟨_,hj,by simp only[joinB];rw[if_neg e,if_neg (by omega)];exact e3⟩
   ·exact⟨_,hm,by simp only[joinB];rw[if_neg e];exact e3⟩
 ·by_cases e:K.y1<c.y1
  ·exact⟨_,hj,by unfold hasB at hb;simp only[joinB];rw[if_pos e,if_pos (by omega)]⟩
  ·rcases mem a4 m4 with rfl|hm
   ·exact⟨_,hj,by simp only[joinB];rw[if_neg e,if_neg (by omega)];exact e4⟩
   ·exact⟨_,hm,by simp only[joinB];rw[if_neg e];exact e4⟩
theorem tight_two{K b B1 B2:Bx}{P S L R:List Bx}(h:tight K (P++b :: S))(hb:tight b (L++R))(h1:tight B1 L)(h2:tight B2 R)(hL:L≠[])(hR:R≠[]):tight K (P++B1 :: (S++[B2])):=by
 have i1:hasB b B1:=hull_in h1 hL λa ha=>hb.1 a (by simp[ha])
 have i2:hasB b B2:=hull_in h2 hR λa ha=>hb.1 a (by simp[ha])
 obtain⟨h0,h3⟩:=h;have hKb:=h0 b (by simp);obtain⟨⟨a1,m1,e1⟩,⟨a2,m2,e2⟩,⟨a3,m3,e3⟩,⟨a4,m4,e4⟩⟩:=h3 (by simp);obtain⟨⟨c1,n1,f1⟩,⟨c2,n2,f2⟩,⟨c3,n3,f3⟩,⟨c4,n4,f4⟩⟩:=hb.2 (by simp[hL])
 have mem:∀ a,a∈P++b :: S->a=b∨a∈P++B1 :: (S++[B2]):=λa ha=>by
  simp only[List.mem_append,List.mem_cons]at ha ⊢;rcases ha with ha|ha|ha
  ·exact .inr (.inl ha)
  ·exact .inl ha
  ·exact .inr (.inr (.inr (.inl ha)))
 have k1:B1∈P++B1 :: (S++[B2]):=by simp
 have k2:B2∈P++B1 :: (S++[B2]):=by simp
 have w1:∀ a∈L,hasB B1 a:=h1.1;have w2:∀ a∈R,hasB B2 a:=h2.1;refine⟨λa ha=>?_,λ_=>⟨?_,?_,?_,?_⟩⟩
 ·simp only[List.mem_append,List.mem_cons,List.not_mem_nil,or_false]at ha;rcases ha with ha|ha|ha|ha
  ·exact h0 a (by simp[ha])
  ·subst ha;exact hasB_trans hKb i1
  ·exact h0 a (by simp[ha])
  ·subst ha;exact hasB_trans hKb i2
 ·rcases mem a1 m1 with rfl|hm
  ·rcases List.mem_append.1 n1 with n|n
   ·exact⟨_,k1,by have:=w1 _ n;unfold hasB at this i1;omega⟩
   ·exact⟨_,k2,by have:=w2 _ n;unfold hasB at this i2;omega⟩
  ·exact⟨_,hm,e1⟩
 ·rcases mem a2 m2 with rfl|hm
  ·rcases List.mem_append.1 n2 with n|n
   ·exact⟨_,k1,by have:=w1 _ n;unfold hasB at this i1;omega⟩
   ·exact⟨_,k2,by have:=w2 _ n;unfold hasB at this i2;omega⟩
  ·exact⟨_,hm,e2⟩
 ·rcases mem a3 m3 with rfl|hm
  ·rcases List.mem_append.1 n3 with n|n
   ·exact⟨_,k1,by have:=w1 _ n;unfold hasB at this i1;omega⟩
   ·exact⟨_,k2,by have:=w2 _ n;unfold hasB at this i2;omega⟩
  ·exact⟨_,hm,e3⟩
 ·rcases mem a4 m4 with rfl|hm
  ·rcases List.mem_append.1 n4 with n|n
   ·exact⟨_,k1,by have:=w1 _ n;unfold hasB at this i1;omega⟩
   ·exact⟨_,k2,by have:=w2 _ n;unfold hasB at this i2;omega⟩
  ·exact⟨_,hm,e4⟩
theorem isNd.mid{q q':RM}{b:Nat}{A B:List En}{e e':En}(h:isNd q b (A++e :: B))(hD:q'.D b)(hS:q'.S b=q.S b)(ho:e'.v.oneCell'=true)(hv:q'.F b (1+5*A.length)=e'.v)(hB:isBox q'.F b (1+5*A.length) e'.B)
  (hF:∀ c,c<1+5*A.length∨1+5*A.length+5<=c->q'.F b c=q.F b c):isNd q' b (A++e' :: B):=by
 have get:∀ j x,(A++e' :: B)[j]? = some x->(j=A.length/\x=e')∨(j≠A.length/\(A++e :: B)[j]? = some x):=λj x hj=>by
  by_cases hc:j=A.length
  ·subst hc;rw[List.getElem?_append_right (Nat.le_refl _)]at hj;simp at hj;exact .inl ⟨rfl,hj.symm⟩
  ·refine .inr ⟨hc,?_⟩;rcases Nat.lt_or_ge j A.length with c|c
   ·rw[List.getElem?_append_left c]at hj ⊢;exact hj
   ·rw[List.getElem?_append_right c]at hj ⊢;rw[show j-A.length=(j-A.length-1)+1 by omega]at hj ⊢;simpa using hj
 refine⟨hD,hS.trans h.S,?_,?_,λj x hj=>?_,λj x hj=>?_,λj x hj=>?_⟩
 ·rw[hF 0 (by omega),h.n];simp
 ·have:=h.le;simpa using this
 ·rcases get j x hj with⟨rfl,rfl⟩|⟨h1,h2⟩
  ·exact hv
  ·rw[hF _ (by omega)];exact h.v j x h2
 ·rcases get j x hj with⟨rfl,rfl⟩|⟨h1,h2⟩
  ·exact ho
  ·exact h.o j x h2
 ·rcases get j x hj with⟨rfl,rfl⟩|⟨h1,h2⟩
  ·exact hB
  ·exact box_of (λk hk=>hF _ (by omega)) (h.B j x h2)
theorem flatMap_perm{α β:Type}(f:α->List β){l l':List α}(h:l.Perm l'):(l.flatMap f).Perm (l'.flatMap f):=List.Perm.flatMap_right f h
theorem isTr.split{q q':RM}{h:Nat}{k:Kid}(ht:isTr q h k)(hnd:k.fp.Nodup){b2:Nat}{L R:List En}{B1 B2:Bx}(hp:(L++R).Perm (ndOf q k.b))(hL:L≠[])(hR:R≠[])(hlen:(ndOf q k.b).length<=17)(h1:isNd q' k.b L)(h2:isNd q' b2 R)(t1:tight B1 (L.map (·.B)))(t2:tight B2 (R.map (·.B)))
  (hfr:∀ b∈k.fp,b≠k.b->q'.D b/\q'.S b=q.S b/\∀ c,q'.F b c=q.F b c) :
  ∃ x1 x2:Kid,x1.b=k.b/\x2.b=b2/\(1<=x1.n/\x1.n<=16)/\(1<=x2.n/\x2.n<=16)/\x1.B=B1/\x2.B=B2/\isTr q' h x1/\isTr q' h x2/\(x1.its++x2.its).Perm k.its/\(x1.fp++x2.fp).Perm (b2 :: k.fp):=by
 have hlL:1<=L.length:=by cases L with|nil=>exact absurd rfl hL|cons a r=>simp
 have hlR:1<=R.length:=by cases R with|nil=>exact absurd rfl hR|cons a r=>simp
 have hlen2:=hp.length_eq;rw[List.length_append]at hlen2
 cases h with
 | zero =>
  obtain⟨a1,a2,a3,a4⟩:=ht;rw[a3.of]at hp;obtain⟨l1,l2,rfl,rfl,hl⟩:=perm_map_split hp;rw[List.length_map]at hlL hlR hlen2;rw[List.length_map]at hlen2;rw[List.map_map]at t1 t2;refine⟨⟨k.b,[k.b],l1,B1,l1.length⟩,⟨b2,[b2],l2,B2,l2.length⟩,rfl,rfl,⟨hlL,?_⟩,⟨hlR,?_⟩,rfl,rfl,⟨rfl,rfl,h1,t1⟩,⟨rfl,rfl,h2,t2⟩,hl,?_⟩
  ·show l1.length<=16;omega
  ·show l2.length<=16;omega
  ·rw[a1];exact List.Perm.swap _ _ _
 | succ h =>
  obtain⟨ks,a1,a2,a3,a4,a5,a6,a7⟩:=ht;rw[a5.of]at hp;obtain⟨l1,l2,rfl,rfl,hl⟩:=perm_map_split hp;rw[List.length_map]at hlL hlR hlen2;rw[List.length_map]at hlen2;rw[List.map_map]at t1 t2
  have hkb:∀ x∈ks,∀ b∈x.fp,b∈k.fp/\b≠k.b:=λx hx b hb=>by
   rw[a3]at hnd ⊢;have hm:b∈ks.flatMap (·.fp):=List.mem_flatMap.2 ⟨x,hx,hb⟩;exact⟨List.mem_cons_of_mem _ hm,λe=>(List.nodup_cons.1 hnd).1 (e▸hm)⟩
  have hkids:∀ x∈ks,isTr q' h x/\1<=x.n/\x.n<=16:=λx hx=>⟨(a7 x hx).1.same λb hb=>hfr b (hkb x hx b hb).1 (hkb x hx b hb).2,(a7 x hx).2⟩
  refine⟨⟨k.b,k.b :: l1.flatMap (·.fp),l1.flatMap (·.its),B1,l1.length⟩,⟨b2,b2 :: l2.flatMap (·.fp),l2.flatMap (·.its),B2,l2.length⟩,rfl,rfl,⟨hlL,?_⟩,⟨hlR,?_⟩,rfl,rfl,
   ⟨l1,rfl,hlL,rfl,rfl,h1,t1,λx hx=>hkids x (hl.mem_iff.1 (by simp[hx]))⟩,⟨l2,rfl,hlR,rfl,rfl,h2,t2,λx hx=>hkids x (hl.mem_iff.1 (by simp[hx]))⟩,?_,?_⟩
  ·show l1.length<=16;omega
  ·show l2.length<=16;omega
  ·rw[a4];show (l1.flatMap (·.its)++l2.flatMap (·.its)).Perm _;rw[<-List.flatMap_append];exact flatMap_perm _ hl
  ·rw[a3];show (k.b :: l1.flatMap (·.fp)++(b2 :: l2.flatMap (·.fp))).Perm (b2 :: k.b :: ks.flatMap (·.fp));refine(List.perm_middle (l₁:=k.b :: l1.flatMap (·.fp))).trans (List.Perm.cons _ ?_);show (k.b :: (l1.flatMap (·.fp)++l2.flatMap (·.fp))).Perm _;rw[<-List.flatMap_append];exact List.Perm.cons _ (flatMap_perm _ hl)
end Go.Proofs.Try.Sx
