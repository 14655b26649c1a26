/- Parts of a proof, in order: what each says stands at its head. No conditions. -/
import Derived.Test.YtfhkmkhcofodmaaGreatM6
namespace Go.Proofs.Tryz.Sx
open Go Go.Sx Go.Proofs Go.Fl Go.Geo
set_option maxRecDepth 100000
open Int (toNat)
open Go.IntKind (wrap)
noncomputable section
def W1(x:Nat):Prop:=FI x (wh x)/\z8 (wh x)
def SmF(g:Nat->Nat)(m:Nat):Prop:=∀ j,j<m->W1 (g j)
def wz(g:Nat->Nat)(j:Nat):Int:=wh (g j)
theorem W1.abs{x:Nat}(h:W1 x):(wh x).natAbs<=2 ^ 22:=by have:=h.2;unfold z8 at this;omega
theorem c9P{a b c d x y z w:Nat}(ha:W1 a)(hb:W1 b)(hc:W1 c)(hd:W1 d)(hx:W1 x)(hy:W1 y)(hz:W1 z)(hw:W1 w):P8 a b c d x y z w (wh a) (wh b) (wh c) (wh d) (wh x) (wh y) (wh z) (wh w) :=
 ⟨ha.1,hb.1,hc.1,hd.1,hx.1,hy.1,hz.1,hw.1,⟨ha.2,hb.2,hc.2,hd.2⟩,hx.2,hy.2,hz.2,hw.2⟩
theorem a3Y{n:Int}(h:z8 n):W1 (ofI .f64 n)/\wh (ofI .f64 n)=n:=by
 have e:=a7t h;exact⟨⟨by rw[e];exact fi h,by rw[e];exact h⟩,e⟩
def bxB:b9->Option Bool
 | .cells [v]=>v.toB
 | _=>none
def W4(b:Bool):b9:=.cells [.bool b]
theorem a1I{σ:Sig}{c:b9}{b:Bool}(h:bxB c=some b):L9 σ c (W4 b):=by
 unfold bxB at h;split at h
 ·show y5 σ _ _;simp[y5,H5 h]
 ·cases h
def bx4:b9->Option (Nat×Nat×Nat×Nat)
 | .cells [.flt .f64 x, .flt .f64 y, .flt .f64 z, .flt .f64 w]=>some (x,y,z,w)
 | _=>none
def a3s(x y z w:Nat):b9:=.cells [.flt .f64 x, .flt .f64 y, .flt .f64 z, .flt .f64 w]
theorem a2z{σ:Sig}{c:b9}{x y z w:Nat}(h:bx4 c=some (x,y,z,w)):L9 σ c (a3s x y z w):=by
 unfold bx4 at h;split at h
 ·simp only[oI9,pI9]at h;obtain⟨rfl,rfl,rfl,rfl⟩:=h;show y5 σ _ _;simp[y5,z6,C5]
 ·cases h
def nsg(cl:Bool)(n:Nat)(z:Nat->Int):Nat:=if cl=true then(if n<3 then 0 else if z (2*(n-1))=z 0/\z (2*(n-1)+1)=z 1 then n-1 else n)else n-1
def FP:Flats:=[(100,[true,true])]
theorem b5P:FlatsOk prog FP:=FlatsOk.cons b3B FlatsOk.nil
def GPF:Ctx:=⟨⟨tys,FP⟩,[]⟩
theorem gPF:B9 prog GPF:=⟨⟨D6,b5P⟩,l8.nil,by kernel_rfl⟩
def b3G:List SV->RdM
 | [.ptr s 0]=>.read s λo0=>(match a4o o0.c with
  | some (cl,cw,cv,k,x,y,z,w,p,n)=>.read p λo1=>(match z9 .f64 o1.c with
  | some (m1,g)=>.ret ⟨[.ptr 0 0],[(0,⟨false,150,a0D cl cw cv k x y z w 1 n,0⟩),(1,⟨false,100, .flts .f64 m1 g,0⟩)], .int .i64 (nsg cl n (wz g)),[],[],some (m1=2*n/\n<=1000000/\SmF g (2*n))⟩
  | none=>.fail)
  | none=>.fail)
 | _=>.fail
theorem b7A(cl cw cv:Bool)(k:Int)(x y z w:Nat)(_:Nm)(n:Nat)(g:Nat->Nat){w9:HC}(e9:w9=⟨[.ptr 0 0],[(0,⟨false,150,a0D cl cw cv k x y z w 1 n,0⟩),(1,⟨false,100, .flts .f64 (2*n) g,0⟩)], .int .i64 (nsg cl n (wz g)),[],[],some (2*n=2*n/\n<=1000000/\SmF g (2*n))⟩){T1}(t1:T1=(fEq .f64 (g (0 +
 toNat (wrap .i64 ((↑n:Int)-1))*2)) (g 0)&&(fEq .f64 (g (0+toNat (wrap .i64 ((↑n:Int)-1))*2+1)) (g 1)&&true))){T2}(t2:T2=(↑n:Int)){T3}(t3:T3=(↑(nsg cl n (wz g)):Int)):F7 GPF 2 [] [] (p7 f111) (A8 f111.ntmps w9.args w9.heap 2) (B5 GPF.E.T f111.results.toList λS v=>C8 2 w9 S v)=(
 (cl=true->(decide (T2<3)=true->0=T3/\True)/\(decide (T2<3)=false->(((0:Int)<=wrap .i64 (T2-1)/\wrap .i64 (T2-1)<T2)/\1<=2*n)/\0+toNat (wrap .i64 (T2-1))*2+2<=2*n/\(((0:Int)<=0
 /\0<T2)/\1<=2*n)/\2<=2*n/\true=true/\(T1=true->wrap .i64 (T2-1)=T3/\True)/\(T1=false->T2=T3/\True)))/\(cl=false->(decide (T2<2)=true->0=T3/\True)/\(decide (T2<(2:Int))=false->wrap .i64
 (T2-1)=T3/\True))):=by subst e9 t1 t2 t3;kernel_rfl
theorem c7s:A9 prog 111 (A7 b3G):=by
 refine y7 gPF func111 rfl (by kernel_rfl) λargs=>?_
 unfold b3G;split;rotate_left;trivial;rename_i s;intro o0;try dsimp only
 split;rotate_left;trivial;rename_i cl cw cv k x y z w p n hm0;intro o1;try dsimp only
 split;rotate_left;trivial;rename_i m1 g hm1;intro ho;replace ho:m1=2*n/\n<=1000000/\SmF g (2*n):=ho;obtain⟨hsz1,ho⟩:=ho;subst hsz1;refine⟨?_,_,_,(b7A cl cw cv k x y z w p n g rfl rfl rfl rfl).mpr ?_⟩
 ·refine l9 rfl ⟨?_,⟨trivial,U8 hm0 a9,⟨trivial,(A2 hm1).1,trivial⟩⟩⟩;simp[y5,z6,z7,z5,nth,a9]
 ·obtain⟨hn,hg⟩:=ho;have hw:IntKind.i64.wrap ((n:Int)-1)=n-1:=j8 (by omega) (by omega);rw[hw];refine⟨λhc=>⟨λh=>?_,λh=>?_⟩,λhc=>⟨λh=>?_,λh=>?_⟩⟩
  ·have h:=oT9 h;refine⟨?_,trivial⟩;unfold nsg;rw[if_pos hc,if_pos (by omega)];rfl
  ·have h:=of_decide_eq_false h;have e:0+((n:Int)-1).toNat*2=2*(n-1):=by omega
   rw[e];have e1:fEq .f64 (g (2*(n-1))) (g 0)=decide (wz g (2*(n-1))=wz g 0):=N1 (hg _ (by omega)).1 (hg _ (by omega)).1;have e2:fEq .f64 (g (2*(n-1)+1)) (g 1)=decide (wz g (2*(n-1)+1)=wz g 1):=N1 (hg _ (by omega)).1 (hg _ (by omega)).1;rw[e1,e2];refine⟨by omega,by omega,by omega,by omega,rfl,λh1=>⟨?_,trivial⟩,λh1=>⟨?_,trivial⟩⟩
   ·unfold nsg;rw[if_pos hc,if_neg (by omega),if_pos (by simpa using h1)];omega
   ·unfold nsg;rw[if_pos hc,if_neg (by omega),if_neg (by simpa using h1)]
  ·have h:=oT9 h;refine⟨?_,trivial⟩;unfold nsg;rw[if_neg (by simp[hc])];omega
  ·have h:=of_decide_eq_false h;refine⟨?_,trivial⟩;unfold nsg;rw[if_neg (by simp[hc])];omega
def b1k:List SV->RdM
 | [.ptr s 0, .int .i64 i]=>.read s λo0=>(match a4o o0.c with
  | some (cl,cw,cv,k,x,y,z,w,p,n)=>.read p λo1=>(match z9 .f64 o1.c with
  | some (m1,g)=>.ret ⟨[.ptr 0 0, .int .i64 i],[(0,⟨false,150,a0D cl cw cv k x y z w 1 n,0⟩),(1,⟨false,100, .flts .f64 m1 g,0⟩)], .agg [.flt .f64 (g (2*i.toNat)), .flt .f64 (g (2*i.toNat+1)), .flt .f64 (g (2*nx n i.toNat)), .flt .f64 (g (2*nx n i.toNat+1))],[],[],some (m1=2*n/\0<=i/\i<n/\n<=1000000)⟩
  | none=>.fail)
  | none=>.fail)
 | _=>.fail
theorem c0i(cl cw cv:Bool)(k:Int)(x y z w:Nat)(_:Nm)(n:Nat)(i:Int)(g:Nat->Nat){w9:HC}(e9:w9=⟨[.ptr 0 0, .int .i64 i],[(0,⟨false,150,a0D cl cw cv k x y z w 1 n,0⟩),(1,⟨false,100, .flts .f64 (2*n) g,0⟩)], .agg [.flt .f64 (g (2*i.toNat)), .flt .f64 (g (2*i.toNat+1)), .flt .f64 (g (2*nx n i.toNat)), .flt .f64
 (g (2*nx n i.toNat+1))],[],[],some (2*n=2*n/\0<=i/\i<n/\n<=1000000)⟩){T1}(t1:T1=(wrap .i64 (i+(1:Int)))){T2}(t2:T2=(i==wrap .i64 ((↑n:Int)-1))):F7 GPF 2 [] [] (p7 f112) (A8 f112.ntmps w9.args w9.heap 2) (B5 GPF.E.T f112.results.toList λS v=>C8 2 w9 S v)=(
 (((0:Int)<=i/\i<(↑n:Int))/\1<=2*n)/\0+toNat i*2+2<=2*n/\(T2=true->(((0:Int)<=0/\0<(↑n:Int))/\1<=2*n)/\2<=2*n/\(g (0+toNat i*2)=g (2*toNat i)/\g (0+toNat i*2+1)=g (2 *
 toNat i+1)/\g 0=g (2*nx n (toNat i))/\g 1=g (2*nx n (toNat i)+1)/\True)/\True)/\(T2=false->(((0:Int)<=wrap .i64 (i+(1:Int))/\wrap .i64 (i+(1:Int))<(↑n:Int))/\1<=2*n)/\0+toNat
 T1*2+2<=2*n/\(g (0+toNat i*2)=g (2*toNat i)/\g (0+toNat i*2+1)=g (2*toNat i+1)/\g (0+toNat T1*2)=g (2*nx n (toNat i))/\g (0+toNat T1*2+1)=g (2*nx n (toNat i)+1)/\
 True)/\True)):=by subst e9 t1 t2;kernel_rfl
theorem c4J:A9 prog 112 (A7 b1k):=by
 refine y7 gPF func112 rfl (by kernel_rfl) λargs=>?_
 unfold b1k;split;rotate_left;trivial;rename_i s i;intro o0;try dsimp only
 split;rotate_left;trivial;rename_i cl cw cv k x y z w p n hm0;intro o1;try dsimp only
 split;rotate_left;trivial;rename_i m1 g hm1;intro ho;replace ho:m1=2*n/\0<=i/\i<n/\n<=1000000:=ho;obtain⟨hsz1,ho⟩:=ho;subst hsz1;refine⟨?_,_,_,(c0i cl cw cv k x y z w p n i g rfl rfl rfl).mpr ?_⟩
 ·refine l9 rfl ⟨?_,⟨trivial,U8 hm0 a9,⟨trivial,(A2 hm1).1,trivial⟩⟩⟩;simp[y5,z6,A4,z7,z5,nth,a9]
 ·obtain⟨h0,h1,hn⟩:=ho;have hw:IntKind.i64.wrap ((n:Int)-1)=n-1:=j8 (by omega) (by omega);have hw1:IntKind.i64.wrap (i+1)=i+1:=j8 (by omega) (by omega);have e:0+i.toNat*2=2*i.toNat:=by omega
  rw[hw,hw1,e];refine⟨by omega,by omega,λh=>?_,λh=>?_⟩
  ·have h:i=n-1:=by simpa using h
   have e2:nx n i.toNat=0:=by unfold nx;rw[if_pos (by omega)]
   rw[e2];refine⟨by omega,by omega,?_⟩;simp
  ·have h:¬i=n-1:=by simpa using h
   have e2:nx n i.toNat=i.toNat+1:=by unfold nx;rw[if_neg (by omega)]
   have e3:0+(i+1).toNat*2=2*(i.toNat+1):=by omega
   rw[e2,e3];refine⟨by omega,by omega,?_⟩;simp
end
def finQ(r:Q4):Prop:=Fl.Fin r.x0/\Fl.Fin r.y0/\Fl.Fin r.x1/\Fl.Fin r.y1
def inQ(Q r:Q4):Prop:=V Q.x0<=V r.x0/\V Q.y0<=V r.y0/\V r.x1<=V Q.x1/\V r.y1<=V Q.y1
def FUB(d x:Nat):Prop:=∃ n:Int,FU x n (1058+d)/\n.natAbs*2 ^ d<=2 ^ 38
def QB(d:Nat)(Q:Q4):Prop:=FUB d Q.x0/\FUB d Q.y0/\FUB d Q.x1/\FUB d Q.y1
theorem FUB.down{d x:Nat}(h:FUB (d+1) x):FUB d x:=by
 obtain⟨n,h1,h2⟩:=h;refine⟨n*2,?_,?_⟩
 ·have:=h1.up (u:=1058+d) (k:=1) (by omega)
  rwa [Int.pow_succ,Int.pow_zero,Int.one_mul]at this
 ·rw[Int.natAbs_mul,Nat.mul_assoc,show (2:Int).natAbs*2 ^ d=2 ^ (d+1) by rw[Nat.pow_succ,Nat.mul_comm];rfl];exact h2
theorem c2o{a b p:Nat}(hp:0<p)(ha:a*(p*2)<=2 ^ 38)(hb:b*(p*2)<=2 ^ 38):(a+b)*p<=2 ^ 38/\a+b<2 ^ 53:=by
 have h1:(a+b)*p<=2 ^ 38:=by
  rw[Nat.add_mul];rw[<-Nat.mul_assoc]at ha hb;omega
 have h2:a+b<=(a+b)*p:=Nat.le_mul_of_pos_right _ hp;exact⟨h1,by omega⟩
theorem FUB.mid{d x y:Nat}(hd:d<=15)(hx:FUB (d+1) x)(hy:FUB (d+1) y):midOk x y/\FUB d (mid x y):=by
 obtain⟨a,a1,a2⟩:=hx;obtain⟨b,b1,b2⟩:=hy;have hab:=Int.natAbs_add_le a b;rw[Nat.pow_succ]at a2 b2;obtain⟨h1,h2⟩:=c2o (Nat.two_pow_pos d) a2 b2;obtain⟨h3,h4⟩:=b8z (u:=1058+d) (by omega) (by omega) a1 b1 (by omega);exact⟨h3,_,h4,Nat.le_trans (Nat.mul_le_mul_right _ hab) h1⟩
theorem FUB.fin{d x:Nat}(h:FUB d x):Fl.Fin x:=h.choose_spec.1.1
theorem FI.fub{x:Nat}{n:Int}(h:FI x n)(hn:n.natAbs<=4194304):FUB 16 x:=⟨n,⟨h.1,h.2⟩,by
 have:(2:Nat) ^ 38=4194304*2 ^ 16:=by decide
 rw[this]
 exact Nat.mul_le_mul_right _ hn⟩
theorem QB.midOk{d:Nat}{Q:Q4}(hd:d<=15)(h:QB (d+1) Q):midOk Q.x0 Q.x1/\midOk Q.y0 Q.y1:=⟨(h.1.mid hd h.2.2.1).1,(h.2.1.mid hd h.2.2.2).1⟩
theorem QB.sub{d:Nat}{Q:Q4}(hd:d<=15)(h:QB (d+1) Q)(k:Int):QB d (qbV Q k):=by
 obtain⟨h1,h2,h3,h4⟩:=h;have m1:=(h1.mid hd h3).2;have m2:=(h2.mid hd h4).2;refine⟨?_,?_,?_,?_⟩ <;> simp only[qbV,qb0,qb1,qb2,qb3] <;> split
 all_goals first|exact h1.down|exact h2.down|exact h3.down|exact h4.down|exact m1|exact m2
theorem b4T{d:Nat}{Q r:Q4}(hd:d<=15)(h:QB (d+1) Q)(hr:finQ r)(hi:inQ Q r):cqV Q r = -1∨((0<=cqV Q r/\cqV Q r<4)/\inQ (qbV Q (cqV Q r)) r):=by
 obtain⟨h1,h2,h3,h4⟩:=h;have m1:=(h1.mid hd h3).2.fin;have m2:=(h2.mid hd h4).2.fin;obtain⟨r1,r2,r3,r4⟩:=hr;obtain⟨i1,i2,i3,i4⟩:=hi;unfold cqV;simp only[a5Y r1 m1,a5Y r3 m1,a5Y r2 m2,a5Y r4 m2,decide_eq_true_eq]
 repeat' split
 all_goals first|exact .inl rfl|refine .inr ⟨⟨by decide,by decide⟩,?_⟩
 all_goals simp[inQ,qbV,qb0,qb1,qb2,qb3]
 all_goals omega
structure isU (q:RM) (v:Value) (E:List Nat):Prop where
 sl:isSlN v
 n:slL v=E.length
 le:slL v<=slK v
 D:0<slK v->q.D (slB v)/\slC v+slK v<=q.S (slB v)
 c:∀(j x:Nat),E[j]? = some x->q.F (slB v) (slC v+j)=.int .u32 (x:Nat)
def fpU(v:Value):List Nat:=if 0<slK v then [slB v]else []
structure QK where
 b:Nat
 fp:List Nat
 its:List Nat
def a7U:Option QK->Value
 | none=>.pointer none
 | some k=>.pointer (some ⟨k.b,0,none⟩)
def kfp:Option QK->List Nat
 | none=>[]
 | some k=>k.fp
def R7:Option QK->List Nat
 | none=>[]
 | some k=>k.its
structure qnA (q:RM) (b:Nat) (sp:Bool) (v:Value) (E:List Nat) (ks:List (Option QK)):Prop where
 D:q.D b
 S:q.S b=6
 s0:q.F b 0=.bool sp
 s1:q.F b 1=v
 u:isU q v E
 kl:ks.length=4
 k:∀(j:Nat)(o:Option QK),ks[j]? = some o->q.F b (2+j)=a7U o
def nok:List (Option QK):=[none,none,none,none]
def a2A(R:Nat->Q4)(m:Nat)(Q:Q4)(x:Nat):Prop:=x<m/\finQ (R x)/\inQ Q (R x)
def kne(ks:List (Option QK)):Prop:=∀(j:Nat)(x:QK),ks[j]? = some (some x)->1<=x.its.length
def b2P(c:Nat)(ks:List (Option QK)):Prop:=∀(j:Nat)(x:QK),j≠c->ks[j]? = some (some x)->1<=x.its.length
def isQT(q:RM)(R:Nat->Q4)(m:Nat):Nat->Q4->QK->Prop
 | 0,Q,k=>∃ v E,qnA q k.b false v E nok/\k.fp=k.b :: fpU v/\k.its=E/\∀ x∈E,a2A R m Q x
 | d+1,Q,k=>∃ sp v E ks,qnA q k.b sp v E ks/\(sp=false->ks=nok/\E.length<=32)/\k.fp=k.b :: (fpU v++ks.flatMap kfp)/\k.its=E++ks.flatMap R7/\(∀ x∈E,a2A R m Q x)/\
   (∀(j:Nat)(x:QK),ks[j]? = some (some x)->isQT q R m d (qbV Q (j:Int)) x)/\kne ks
def rcF(g:Nat->Nat)(n i:Nat):Q4:=⟨E8 (g (2*i)) (g (2*nx n i)),E8 (g (2*i+1)) (g (2*nx n i+1)),E6 (g (2*i)) (g (2*nx n i)),E6 (g (2*i+1)) (g (2*nx n i+1))⟩
structure qiA (q:RM) (g:Nat->Nat) (n b:Nat) (Q:Q4) (d:Nat) (k:QK):Prop where
 t:isQT q (rcF g n) n d Q k
 b:k.b=b
 nd:k.fp.Nodup
 le:k.its.length<=1000
def a2f(q:RM)(b:Nat):Nat:=if a0E (q.F b 0)=true then 0 else 1
def frQ(W:Nat->Prop)(q q':RM):Prop:=∀ x,q.D x->q'.D x/\(¬W x->q'.S x=q.S x/\∀ c,q'.F x c=q.F x c)
theorem frQ.refl(W:Nat->Prop)(q:RM):frQ W q q:=λ_ h=>⟨h,λ_=>⟨rfl,λ_=>rfl⟩⟩
theorem frQ.trans{W W' W'':Nat->Prop}{q q' q'':RM}(h:frQ W q q')(h':frQ W' q' q'')(h1:∀ x,q.D x->W x->W'' x)(h2:∀ x,q.D x->W' x->W'' x):frQ W'' q q'':=λx hx=>by
 obtain⟨a1,a2⟩:=h x hx;obtain⟨b1,b2⟩:=h' x a1;refine⟨b1,λhn=>?_⟩;obtain⟨c1,c2⟩:=a2 λhw=>hn (h1 x hx hw)
 obtain⟨d1,d2⟩:=b2 λhw=>hn (h2 x hx hw)
 exact⟨d1.trans c1,λc=>(d2 c).trans (c2 c)⟩
theorem frQ.mono{W W':Nat->Prop}{q q':RM}(h:frQ W q q')(h1:∀ x,q.D x->W x->W' x):frQ W' q q':=λx hx=>⟨(h x hx).1,λhn=>(h x hx).2 λhw=>hn (h1 x hx hw)⟩
theorem a9i{v:Value}{x:Nat}(h:x∈fpU v):0<slK v/\x=slB v:=by
 unfold fpU at h;split at h
 ·rename_i hk;simp at h;exact⟨hk,h⟩
 ·simp at h
theorem a6C{v:Value}(h:0<slK v):slB v∈fpU v:=by unfold fpU;rw[if_pos h];simp
theorem b7l(v:Value):(fpU v).Nodup:=by unfold fpU;split <;> simp
theorem isU.D'{q:RM}{v:Value}{E:List Nat}(h:isU q v E):∀ x∈fpU v,q.D x:=λx hx=>by
 obtain⟨h1,rfl⟩:=a9i hx;exact(h.D h1).1
theorem isU.pos{q:RM}{v:Value}{E:List Nat}(h:isU q v E){j x:Nat}(hj:E[j]? = some x):0<slK v:=by
 have:=(List.getElem?_eq_some_iff.1 hj).1;have h1:=h.n;have h2:=h.le;omega
theorem isU.same{q q':RM}{v:Value}{E:List Nat}(h:isU q v E)(hs:∀ x∈fpU v,q'.D x/\q'.S x=q.S x/\∀ c,q'.F x c=q.F x c):isU q' v E where
 sl:=h.sl
 n:=h.n
 le:=h.le
 D:=λh0=>by
  obtain⟨h1,h2,h3⟩:=hs _ (a6C h0);exact⟨h1,by rw[h2];exact(h.D h0).2⟩
 c:=λj x hj=>by rw[(hs _ (a6C (h.pos hj))).2.2];exact h.c j x hj
theorem isU.nil(q:RM):isU q (.slice none 0 0) [] where
 sl:=.inl rfl
 n:=rfl
 le:=Nat.le_refl _
 D:=λh=>absurd h (by decide)
 c:=λj x hj=>by simp at hj
theorem isU.uniq{q:RM}{v:Value}{E E':List Nat}(h:isU q v E)(h':isU q v E'):E=E':=by
 refine List.ext_getElem? λj=>?_
 by_cases hj:j<E.length
 ·have e1:=List.getElem?_eq_getElem hj;have hj':j<E'.length:=by rw[<-h'.n,h.n];exact hj
  have e2:=List.getElem?_eq_getElem hj';have h1:=h.c _ _ e1;have h2:=h'.c _ _ e2;rw[h1]at h2;simp only[Value.int.injEq,true_and,Int.natCast_inj]at h2;rw[e1,e2,h2]
 ·have hj':¬j<E'.length:=by rw[<-h'.n,h.n];exact hj
  rw[List.getElem?_eq_none (by omega),List.getElem?_eq_none (by omega)]
theorem isU.appO{q:RM}{v:Value}{E:List Nat}(h:isU q v E)(hl:E.length<=1000):isSlN v/\Go.Sx.appO q.D q.S 1 4 (slB v) (slC v) (slL v) (slK v) 1:=by
 have h1:=h.n;have h2:=h.le;refine⟨h.sl,λhk=>?_,λhk=>?_,by omega,by simp only[maxLen];omega⟩
 ·obtain⟨d1,d2⟩:=h.D (by omega);exact⟨d1,by omega⟩
 ·obtain⟨d1,d2⟩:=h.D (by omega);exact⟨d1,by omega⟩
theorem isU.app{q:RM}{v:Value}{E:List Nat}(h:isU q v E){x:Nat}{i:ApI}(hp:R0 q.D q.S q.F 1 (slB v) (slC v) (slL v) (slK v) 1 [.int .u32 (x:Nat)] i) :
  isU ⟨i.D,i.S,i.F⟩ (.slice (some ⟨i.b,i.c,none⟩) (slL v+1) i.k) (E++[x])/\(∀ y∈fpU (.slice (some ⟨i.b,i.c,none⟩) (slL v+1) i.k),y∈fpU v∨¬q.D y)/\frQ (·∈fpU v) q ⟨i.D,i.S,i.F⟩:=by
 have hn:=h.n
 have get:∀ j y,(E++[x])[j]? = some y->(j<E.length/\E[j]? = some y)∨(j=E.length/\y=x):=λj y hj=>by
  by_cases hc:j<E.length
  ·rw[List.getElem?_append_left hc]at hj;exact .inl ⟨hc,hj⟩
  ·have hjl:j=E.length:=by
    have:=(List.getElem?_eq_some_iff.1 hj).1;simp at this;omega
   subst hjl;simp at hj;exact .inr ⟨rfl,hj.symm⟩
 rcases hp with⟨h1,h2,h3,h4,h5,h6,h7⟩|⟨h1,h2,h3,h4,h5,h6,h7,z,h8⟩
 ·have hk:0<slK v:=by omega
  rw[h2,h3,h4,h5,h6,h7];refine⟨⟨.inr rfl,by simp[slL];exact hn,by simp only[slL,slK];exact h1,λ_=>h.D hk,λj y hj=>?_⟩,λy hy=>.inl ?_,λy hy=>⟨hy,λhw=>⟨rfl,λc=>?_⟩⟩⟩
  ·show a4l _ _ _ _ (slB v) (slC v+j)=_;rcases get j y hj with⟨g1,g2⟩|⟨rfl,rfl⟩
   ·rw[a0R (by omega)];exact h.c j y g2
   ·rw[a3S,if_pos ⟨rfl,by omega,by simp only[List.length_cons,List.length_nil];omega⟩];rw[show slC v+E.length-(slC v+slL v*1)=0 by omega];rfl
  ·obtain⟨_,rfl⟩:=a9i hy;exact a6C hk
  ·show a4l _ _ _ _ y c=_;exact a0R (.inl λe=>hw (by rw[e];exact a6C hk))
 ·rw[h3,h6,h7,h8];refine⟨⟨.inr rfl,by simp[slL];exact hn,by simp only[slL,slK];exact h4,λ_=>⟨.inl rfl,?_⟩,λj y hj=>?_⟩,λy hy=>.inr ?_,λy hy=>⟨.inr hy,λhw=>?_⟩⟩
  ·simp[E5,slB,slC,slK]
  ·show D7 _ _ _ i.b (0+j)=_;simp only[D7,if_true,a5C];rcases get j y hj with⟨g1,g2⟩|⟨rfl,rfl⟩
   ·rw[if_pos (by omega),Nat.zero_add];exact h.c j y g2
   ·rw[if_neg (by omega),if_pos (by simp only[List.length_cons,List.length_nil];omega),show 0+E.length-slL v*1=0 by omega];rfl
  ·obtain⟨_,rfl⟩:=a9i hy;exact h2
  ·have hne:y≠i.b:=λe=>h2 (e▸hy)
   exact⟨by simp only[E5];rw[if_neg hne],λc=>by simp only[D7];rw[if_neg hne]⟩
theorem isQT.fp0{q:RM}{R:Nat->Q4}{m:Nat}:∀ {d:Nat} {Q:Q4} {k:QK},isQT q R m d Q k->k.b∈k.fp
 | 0,Q,k,⟨v,E,_,h,_⟩=>by rw[h];simp
 | d+1,Q,k,⟨sp,v,E,ks,_,_,h,_⟩=>by rw[h];simp
theorem b4G{ks:List (Option QK)}{y:Nat}(h:y∈ks.flatMap kfp):∃(j:Nat)(x:QK),ks[j]? = some (some x)/\y∈x.fp:=by
 obtain⟨o,ho,hy⟩:=List.mem_flatMap.1 h;obtain⟨j,hj,e⟩:=List.getElem_of_mem ho
 cases o with
 | none=>simp[kfp]at hy
 | some x=>exact⟨j,x,by rw[List.getElem?_eq_getElem hj,e],hy⟩
theorem J6{ks:List (Option QK)}{j:Nat}{x:QK}{y:Nat}(h:ks[j]? = some (some x))(hy:y∈x.fp):y∈ks.flatMap kfp :=
 List.mem_flatMap.2 ⟨some x,List.mem_of_getElem? h,hy⟩
theorem isQT.D{q:RM}{R:Nat->Q4}{m:Nat}:∀ {d:Nat} {Q:Q4} {k:QK},isQT q R m d Q k->∀ y∈k.fp,q.D y
 | 0,Q,k,⟨v,E,ha,h,_⟩,y,hy=>by
  rw[h]at hy;rcases List.mem_cons.1 hy with rfl|hy
  ·exact ha.D
  ·exact ha.u.D' y hy
 | d+1,Q,k,⟨sp,v,E,ks,ha,_,h,_,_,hk,_⟩,y,hy=>by
  rw[h]at hy;rcases List.mem_cons.1 hy with rfl|hy
  ·exact ha.D
  rcases List.mem_append.1 hy with hy|hy
  ·exact ha.u.D' y hy
  ·obtain⟨j,x,hj,hy⟩:=b4G hy;exact(hk j x hj).D y hy
theorem qnA.same{q q':RM}{b:Nat}{sp:Bool}{v:Value}{E:List Nat}{ks:List (Option QK)}(h:qnA q b sp v E ks)(hb:q'.D b/\q'.S b=q.S b/\∀ c,q'.F b c=q.F b c)
  (hs:∀ x∈fpU v,q'.D x/\q'.S x=q.S x/\∀ c,q'.F x c=q.F x c):qnA q' b sp v E ks where
 D:=hb.1
 S:=hb.2.1.trans h.S
 s0:=(hb.2.2 _).trans h.s0
 s1:=(hb.2.2 _).trans h.s1
 u:=h.u.same hs
 kl:=h.kl
 k:=λj o ho=>(hb.2.2 _).trans (h.k j o ho)
theorem isQT.same{q q':RM}{R:Nat->Q4}{m:Nat}:∀ {d:Nat} {Q:Q4} {k:QK},isQT q R m d Q k->(∀ y∈k.fp,q'.D y/\q'.S y=q.S y/\∀ c,q'.F y c=q.F y c)->isQT q' R m d Q k
 | 0,Q,k,⟨v,E,ha,h,h1,h2⟩,hs=>⟨v,E,ha.same (hs _ (by rw[h];simp)) λx hx=>hs x (by rw[h];exact List.mem_cons_of_mem _ hx),h,h1,h2⟩
 | d+1,Q,k,⟨sp,v,E,ks,ha,h0,h,h1,h2,hk,hn⟩,hs=>⟨sp,v,E,ks,ha.same (hs _ (by rw[h];simp)) λx hx=>hs x (by rw[h];exact List.mem_cons_of_mem _ (List.mem_append_left _ hx)),h0,h,h1,h2,
   λj x hj=>(hk j x hj).same λy hy=>hs y (by rw[h];exact List.mem_cons_of_mem _ (List.mem_append_right _ (J6 hj hy))),hn⟩
theorem b9h{o o':Option QK}(h:a7U o=a7U o'):(o=none/\o'=none)∨∃ x x',o=some x/\o'=some x'/\x.b=x'.b:=by
 cases o with
 | none=>cases o' with
  | none=>exact .inl ⟨rfl,rfl⟩
  | some x=>simp[a7U]at h
 | some x=>cases o' with
  | none=>simp[a7U]at h
  | some x' =>
   simp[a7U]at h;exact .inr ⟨x,x',rfl,rfl,h⟩
theorem isQT.uniq{q:RM}{R:Nat->Q4}{m:Nat}:∀ {d:Nat} {Q:Q4} {k k':QK},isQT q R m d Q k->isQT q R m d Q k'->k.b=k'.b->k=k'
 | 0,Q,⟨b,fp,its⟩,⟨b',fp',its'⟩,⟨v,E,ha,h,h1,_⟩,⟨v',E',ha',h',h1',_⟩,e=>by
  dsimp only at *;subst e;have ev:v=v':=ha.s1.symm.trans ha'.s1;subst ev;have eE:=ha.u.uniq ha'.u;subst eE;rw[h,h',h1,h1']
 | d+1,Q,⟨b,fp,its⟩,⟨b',fp',its'⟩,⟨sp,v,E,ks,ha,_,h,h1,_,hk,_⟩,⟨sp',v',E',ks',ha',_,h',h1',_,hk',_⟩,e=>by
  dsimp only at *;subst e;have ev:v=v':=ha.s1.symm.trans ha'.s1;subst ev;have eE:=ha.u.uniq ha'.u;subst eE
  have ek:ks=ks':=by
   refine List.ext_getElem? λj=>?_
   by_cases hj:j<ks.length
   ·have hj':j<ks'.length:=by rw[ha'.kl,<-ha.kl];exact hj
    have e1:=List.getElem?_eq_getElem hj;have e2:=List.getElem?_eq_getElem hj';rw[e1,e2];generalize ks[j]=o at *;generalize ks'[j]=o' at *;rcases b9h ((ha.k j o e1).symm.trans (ha'.k j o' e2))with⟨rfl,rfl⟩|⟨x,x',rfl,rfl,hx⟩
    ·rfl
    ·rw[isQT.uniq (hk j x e1) (hk' j x' e2) hx]
   ·rw[List.getElem?_eq_none (by omega),List.getElem?_eq_none (by rw[ha'.kl,<-ha.kl];omega)]
  subst ek;rw[h,h',h1,h1']
structure qpN (q:RM) (R:Nat->Q4) (m d:Nat) (Q:Q4) (b:Nat) (sp:Bool) (v:Value) (E:List Nat) (ks:List (Option QK)) (xs:List Nat):Prop where
 a:qnA q b sp v E ks
 kid:∀(j:Nat)(x:QK),ks[j]? = some (some x)->isQT q R m d (qbV Q (j:Int)) x
 ok:∀ x∈E,a2A R m Q x
 nd:(b :: (fpU v++(ks.flatMap kfp++xs))).Nodup
 xD:∀ x∈xs,q.D x
def qiR(q:RM)(R:Nat->Q4)(m d:Nat)(Q:Q4)(i:Nat)(k:QK)(q':RM):Prop :=
 ∃ k',isQT q' R m d Q k'/\k'.b=k.b/\k'.fp.Nodup/\k'.its.Perm (i :: k.its)/\(∀ x∈k'.fp,x∈k.fp∨¬q.D x)/\frQ (·∈k.fp) q q'
theorem nd4{b:Nat}{A B C:List Nat}:(b :: (A++(B++C))).Nodup↔(b∉A/\b∉B/\b∉C)/\(A.Nodup/\B.Nodup/\C.Nodup)/\(∀ x∈A,x∉B)/\(∀ x∈A,x∉C)/\∀ x∈B,x∉C:=by
 simp only[List.nodup_cons,List.nodup_append,List.mem_append,ne_eq];grind
theorem b0u:nok.flatMap kfp=[]:=rfl
theorem a6k:nok.flatMap R7=[]:=rfl
theorem a5Q{j:Nat}{o:Option QK}(h:nok[j]? = some o):o=none:=by
 match j,h with
 | 0,h=>simpa [nok]using h.symm
 | 1,h=>simpa [nok]using h.symm
 | 2,h=>simpa [nok]using h.symm
 | 3,h=>simpa [nok]using h.symm
 | j+4,h=>simp[nok]at h
theorem a0v{α:Type}{l:List α}{j:Nat}{o:α}(h:l[j]? = some o):∃ A B,l=A++o :: B/\A.length=j/\∀ o',l.set j o'=A++o' :: B:=by
 obtain⟨hj,rfl⟩:=List.getElem?_eq_some_iff.1 h;refine⟨l.take j,l.drop (j+1),?_,by simp;omega,λo'=>?_⟩
 ·rw[<-List.drop_eq_getElem_cons hj,List.take_append_drop]
 ·exact List.set_eq_take_append_cons_drop.trans (by rw[if_pos hj])
section
variable {q:RM} {R:Nat->Q4} {m d b:Nat} {Q:Q4} {sp:Bool} {v w:Value} {E N xs:List Nat} {ks:List (Option QK)}
theorem kne.x(h:kne ks)(c:Nat):b2P c ks:=λj x _ hj=>h j x hj
theorem kne.nok:kne nok:=λj x hj=>absurd (a5Q hj) (by simp)
theorem b2P.set{c:Nat}(h:b2P c ks){x:QK}(hx:1<=x.its.length):kne (ks.set c (some x)):=λj y hy=>by
 rw[List.getElem?_set]at hy;split at hy
 ·split at hy
  ·simp only[oI9]at hy;subst hy;exact hx
  ·simp at hy
 ·exact h j y (Ne.symm ‹_›) hy
theorem kne.setX(h:kne ks){c:Nat}{o:Option QK}:b2P c (ks.set c o):=λj y hj hy=>by
 rw[List.getElem?_set_ne (Ne.symm hj)]at hy;exact h j y hy
theorem qpN.qt(h:qpN q R m d Q b sp v E ks [])(hs:sp=false->ks=nok/\E.length<=32)(hne:kne ks) :
  isQT q R m (d+1) Q ⟨b,b :: (fpU v++ks.flatMap kfp),E++ks.flatMap R7⟩/\(b :: (fpU v++ks.flatMap kfp)).Nodup :=
 ⟨⟨sp,v,E,ks,h.a,hs,rfl,rfl,h.ok,h.kid,hne⟩,by have:=h.nd;simpa using this⟩
theorem qpN.qt0(h:qpN q R m d Q b false v E nok []):isQT q R m 0 Q ⟨b,b :: fpU v,E⟩/\(b :: fpU v).Nodup :=
 ⟨⟨v,E,h.a,rfl,rfl,h.ok⟩,by have:=h.nd;simpa [b0u]using this⟩
theorem c1Z{k:QK}(h:isQT q R m (d+1) Q k)(nd:k.fp.Nodup):∃ sp v E ks,qpN q R m d Q k.b sp v E ks []/\(sp=false->ks=nok/\E.length<=32)/\k.fp=k.b :: (fpU v++ks.flatMap kfp)/\k.its=E++ks.flatMap R7/\kne ks:=by
 obtain⟨sp,v,E,ks,ha,h0,h1,h2,h3,h4,h5⟩:=h;exact⟨sp,v,E,ks,⟨ha,h4,h3,by rw[h1]at nd;simpa using nd,by simp⟩,h0,h1,h2,h5⟩
theorem c3W{k:QK}(d:Nat)(h:isQT q R m 0 Q k)(nd:k.fp.Nodup):∃ v E,qpN q R m d Q k.b false v E nok []/\k.fp=k.b :: fpU v/\k.its=E:=by
 obtain⟨v,E,ha,h1,h2,h3⟩:=h;exact⟨v,E,⟨ha,λj x hj=>absurd (a5Q hj) (by simp),h3,by rw[h1]at nd;simpa [b0u]using nd,by simp⟩,h1,h2⟩
theorem qpN.D(h:qpN q R m d Q b sp v E ks xs):q.D b/\(∀ y∈fpU v,q.D y)/\∀ y∈ks.flatMap kfp,q.D y :=
 ⟨h.a.D,h.a.u.D',λy hy=>by
  obtain⟨j,x,hj,hy⟩:=b4G hy
  exact(h.kid j x hj).D y hy⟩
theorem qpN.own(h:qpN q R m d Q b sp v E ks []){x:Nat}(hx:a2A R m Q x){i:ApI}(hp:R0 q.D q.S q.F 1 (slB v) (slC v) (slL v) (slK v) 1 [.int .u32 (x:Nat)] i) :
  qpN ⟨i.D,i.S,j7 i.F b 1 (.slice (some ⟨i.b,i.c,none⟩) (slL v+1) i.k)⟩ R m d Q b sp (.slice (some ⟨i.b,i.c,none⟩) (slL v+1) i.k) (E++[x]) ks []/\
  (∀ y∈fpU (.slice (some ⟨i.b,i.c,none⟩) (slL v+1) i.k),y∈fpU v∨¬q.D y)/\frQ (λy=>y=b∨y∈fpU v) q ⟨i.D,i.S,j7 i.F b 1 (.slice (some ⟨i.b,i.c,none⟩) (slL v+1) i.k)⟩:=by
 obtain⟨u1,u2,u3⟩:=h.a.u.app hp;obtain⟨D1,D2,D3⟩:=h.D;obtain⟨⟨n1,n2,_⟩,⟨n4,n5,_⟩,n6,_⟩:=nd4.1 h.nd;generalize Value.slice (some ⟨i.b,i.c,none⟩) (slL v+1) i.k=v' at *
 have hb:b∉fpU v':=λhb=>by
  rcases u2 b hb with h1|h1
  ·exact n1 h1
  ·exact h1 D1
 obtain⟨b1,b2⟩:=u3 b D1;obtain⟨b3,b4⟩:=b2 n1;have off:∀ y c,y≠b->j7 i.F b 1 v' y c=i.F y c:=λy c hy=>g8 (.inl hy)
 have hf:frQ (λy=>y=b∨y∈fpU v) q ⟨i.D,i.S,j7 i.F b 1 v'⟩:=λy hy=>⟨(u3 y hy).1,λhn=>⟨((u3 y hy).2 λe=>hn (.inr e)).1,λc=>by
  show j7 _ _ _ _ _ _=_
  rw[off y c λe=>hn (.inl e)];exact((u3 y hy).2 λe=>hn (.inr e)).2 c⟩⟩
 refine⟨⟨⟨b1,b3.trans h.a.S,?_,A6,u1.same λy hy=>⟨u1.D' y hy,rfl,λc=>off y c λe=>hb (e▸hy)⟩,h.a.kl,λj o ho=>?_⟩,λj k hk=>?_,?_,?_,by simp⟩,u2,hf⟩
 ·show j7 _ _ _ _ _ _=_;rw[g8 (by omega)];exact(b4 0).trans h.a.s0
 ·show j7 _ _ _ _ _ _=_;rw[g8 (by omega)];exact(b4 _).trans (h.a.k j o ho)
 ·refine(h.kid j k hk).same λy hy=>?_
  have hyk:=J6 hk hy;have h1:=hf y (D3 y hyk)
  exact⟨h1.1,h1.2 λe=>by
   rcases e with rfl|e
   ·exact n2 hyk
   ·exact n6 y e hyk⟩
 ·intro y hy;rcases List.mem_append.1 hy with hy|hy
  ·exact h.ok y hy
  ·simp at hy;subst hy;exact hx
 ·refine nd4.2 ⟨⟨hb,n2,by simp⟩,⟨b7l _,n5,by simp⟩,λy hy hy2=>?_,by simp,by simp⟩;rcases u2 y hy with h1|h1
  ·exact n6 y h1 hy2
  ·exact h1 (D3 y hy2)
theorem qpN.aside(h:qpN q R m d Q b sp v E ks (fpU w))(hw:isU q w N){x:Nat}{i:ApI}(hp:R0 q.D q.S q.F 1 (slB w) (slC w) (slL w) (slK w) 1 [.int .u32 (x:Nat)] i) :
  qpN ⟨i.D,i.S,i.F⟩ R m d Q b sp v E ks (fpU (.slice (some ⟨i.b,i.c,none⟩) (slL w+1) i.k))/\isU ⟨i.D,i.S,i.F⟩ (.slice (some ⟨i.b,i.c,none⟩) (slL w+1) i.k) (N++[x])/\
  (∀ y∈fpU (.slice (some ⟨i.b,i.c,none⟩) (slL w+1) i.k),y∈fpU w∨¬q.D y)/\frQ (·∈fpU w) q ⟨i.D,i.S,i.F⟩:=by
 obtain⟨u1,u2,u3⟩:=hw.app hp;obtain⟨D1,D2,D3⟩:=h.D;obtain⟨⟨n1,n2,n3⟩,⟨n4,n5,n6⟩,n7,n8,n9⟩:=nd4.1 h.nd;generalize Value.slice (some ⟨i.b,i.c,none⟩) (slL w+1) i.k=w' at *;have keep:∀ y,q.D y->y∉fpU w->i.D y/\i.S y=q.S y/\∀ c,i.F y c=q.F y c:=λy hy hn=>⟨(u3 y hy).1,(u3 y hy).2 hn⟩
 refine⟨⟨h.a.same (keep b D1 n3) λy hy=>keep y (D2 y hy) (n8 y hy),λj k hk=>(h.kid j k hk).same λy hy=>keep y (D3 y (J6 hk hy)) (n9 y (J6 hk hy)),h.ok,?_,u1.D'⟩,u1,u2,u3⟩;refine nd4.2 ⟨⟨n1,n2,λhb=>?_⟩,⟨n4,n5,b7l _⟩,n7,λy hy hy2=>?_,λy hy hy2=>?_⟩
 ·rcases u2 b hb with h1|h1
  ·exact n3 h1
  ·exact h1 D1
 ·rcases u2 y hy2 with h1|h1
  ·exact n8 y hy h1
  ·exact h1 (D2 y hy)
 ·rcases u2 y hy2 with h1|h1
  ·exact n9 y hy h1
  ·exact h1 (D3 y hy)
theorem b8Q:rz tys 191 0=.bool false/\rz tys 191 1=.slice none 0 0/\∀ j,j<4->rz tys 191 (2+j)=.pointer none:=by
 refine⟨rfl,rfl,λj hj=>?_⟩
 match j,hj with
 | 0,_=>rfl
 | 1,_=>rfl
 | 2,_=>rfl
 | 3,_=>rfl
theorem b1r{c:Nat}(hD:q.D c)(hS:q.S c=6)(hF:∀ j,q.F c j=rz tys 191 j):isQT q R m d Q ⟨c,[c],[]⟩:=by
 have ha:qnA q c false (.slice none 0 0) [] nok:=by
  refine⟨hD,hS,by rw[hF,b8Q.1],by rw[hF,b8Q.2.1],isU.nil q,rfl,λj o ho=>?_⟩;have hj:j<4:=(List.getElem?_eq_some_iff.1 ho).1;rw[a5Q ho,hF,b8Q.2.2 j hj];rfl
 cases d with
 | zero=>exact⟨_,[],ha,rfl,rfl,by simp⟩
 | succ d=>exact⟨false,_,[],nok,ha,λ_=>⟨rfl,by simp⟩,rfl,rfl,by simp,λj x hj=>absurd (a5Q hj) (by simp),kne.nok⟩
theorem a3O{f:Option QK->List Nat}{j:Nat}{o o':Option QK}(h:ks[j]? = some o)(y:Nat)(hy:y∈(ks.set j o').flatMap f):y∈f o'∨y∈ks.flatMap f:=by
 obtain⟨A,B,rfl,_,h2⟩:=a0v h;rw[h2]at hy;simp only[List.flatMap_append,List.flatMap_cons,List.mem_append]at hy ⊢;grind
theorem b4K{j:Nat}{o o':Option QK}(h:ks[j]? = some o)(hn:(ks.flatMap kfp).Nodup)(hn':(kfp o').Nodup)(hd:∀ y∈kfp o',y∈kfp o∨y∉ks.flatMap kfp):((ks.set j o').flatMap kfp).Nodup:=by
 obtain⟨A,B,rfl,_,h2⟩:=a0v h;rw[h2];simp only[List.flatMap_append,List.flatMap_cons,List.nodup_append,List.mem_append,ne_eq]at hn hd ⊢;grind
theorem qpN.new(h:qpN q R m d Q b sp v E ks xs){j c:Nat}(hj:ks[j]? = some none)(hc:¬q.D c) :
  qpN ⟨L4 q.D c,E5 q.S c 6,j7 (D7 q.F c (rz tys 191)) b (2+j) (.pointer (some ⟨c,0,none⟩))⟩ R m d Q b sp v E (ks.set j (some ⟨c,[c],[]⟩)) xs/\
  frQ (·= b) q ⟨L4 q.D c,E5 q.S c 6,j7 (D7 q.F c (rz tys 191)) b (2+j) (.pointer (some ⟨c,0,none⟩))⟩:=by
 obtain⟨D1,D2,D3⟩:=h.D;obtain⟨⟨n1,n2,n3⟩,⟨n4,n5,n6⟩,n7,n8,n9⟩:=nd4.1 h.nd;have hbc:b≠c:=λe=>hc (e▸D1)
 have keepS:∀ y,q.D y->E5 q.S c 6 y=q.S y:=λy hy=>by
  have hne:y≠c:=λe=>hc (e▸hy)
  simp only[E5];rw[if_neg hne]
 have keepF:∀ y x,q.D y->(y≠b∨x≠2+j)->j7 (D7 q.F c (rz tys 191)) b (2+j) (.pointer (some ⟨c,0,none⟩)) y x=q.F y x:=λy x hy hx=>by
  have hne:y≠c:=λe=>hc (e▸hy)
  rw[g8 (by omega)];simp only[D7];rw[if_neg hne]
 have hjl:j<ks.length:=(List.getElem?_eq_some_iff.1 hj).1
 have keep:∀ y,q.D y->y≠b->L4 q.D c y/\E5 q.S c 6 y=q.S y/\∀ x,j7 (D7 q.F c (rz tys 191)) b (2+j) (.pointer (some ⟨c,0,none⟩)) y x=q.F y x :=
  λy hy hn=>⟨.inr hy,keepS y hy,λx=>keepF y x hy (.inl hn)⟩
 have mem:∀ y∈(ks.set j (some ⟨c,[c],[]⟩)).flatMap kfp,y=c∨y∈ks.flatMap kfp:=λy hy=>by
  rcases a3O hj y hy with h1|h1
  ·simp[kfp]at h1;exact .inl h1
  ·exact .inr h1
 refine⟨⟨⟨.inr D1,(keepS b D1).trans h.a.S,(keepF b 0 D1 (by omega)).trans h.a.s0,(keepF b 1 D1 (by omega)).trans h.a.s1,h.a.u.same λy hy=>keep y (D2 y hy) λe=>n1 (e▸hy),by simp[h.a.kl],λj' o ho=>?_⟩,λj' x hx=>?_,h.ok,?_,λy hy=>.inr (h.xD y hy)⟩,
  λy hy=>⟨.inr hy,λhn=>⟨keepS y hy,λx=>keepF y x hy (.inl hn)⟩⟩⟩
 ·rw[List.getElem?_set]at ho;split at ho
  ·rename_i e;subst e;simp only[oI9]at ho;subst ho;exact A6
  ·rename_i e;exact(keepF b _ D1 (by omega)).trans (h.a.k j' o ho)
 ·rw[List.getElem?_set]at hx;split at hx
  ·rename_i e;subst e;simp only[oI9]at hx;subst hx;refine b1r (.inl rfl) (by simp[E5]) λx=>?_
   show j7 _ _ _ _ _ _=_;rw[g8 (.inl (Ne.symm hbc))];simp[D7]
  ·exact(h.kid j' x hx).same λy hy=>keep y (D3 y (J6 hx hy)) λe=>n2 (e▸J6 hx hy)
 ·refine nd4.2 ⟨⟨n1,λhb=>?_,n3⟩,⟨n4,b4K hj n5 (by simp[kfp]) λy hy=>.inr λhy2=>?_,n6⟩,λy hy hy2=>?_,n8,λy hy hy2=>?_⟩
  ·rcases mem b hb with h1|h1
   ·exact hbc h1
   ·exact n2 h1
  ·simp[kfp]at hy;subst hy;exact hc (D3 _ hy2)
  ·rcases mem y hy2 with rfl|h1
   ·exact hc (D2 _ hy)
   ·exact n7 y hy h1
  ·rcases mem y hy with rfl|h1
   ·exact hc (h.xD _ hy2)
   ·exact n9 y h1 hy2
theorem qpN.child(h:qpN q R m d Q b sp v E ks xs){j i:Nat}{x:QK}{q':RM}(hj:ks[j]? = some (some x))(hr:qiR q R m d (qbV Q (j:Int)) i x q') :
  ∃ x',qpN q' R m d Q b sp v E (ks.set j (some x')) xs/\((ks.set j (some x')).flatMap R7).Perm (i :: ks.flatMap R7)/\(∀ y∈(ks.set j (some x')).flatMap kfp,y∈ks.flatMap kfp∨¬q.D y)/\frQ (·∈x.fp) q q'/\1<=x'.its.length:=by
 obtain⟨x',t1,t2,t3,t4,t5,t6⟩:=hr;obtain⟨D1,D2,D3⟩:=h.D;obtain⟨⟨n1,n2,n3⟩,⟨n4,n5,n6⟩,n7,n8,n9⟩:=nd4.1 h.nd;have hjl:j<ks.length:=(List.getElem?_eq_some_iff.1 hj).1;have hxk:∀ y∈x.fp,y∈ks.flatMap kfp:=λy hy=>J6 hj hy
 have keep:∀ y,q.D y->y∉x.fp->q'.D y/\q'.S y=q.S y/\∀ c,q'.F y c=q.F y c:=λy hy hn=>⟨(t6 y hy).1,(t6 y hy).2 hn⟩
 have mem:∀ y∈(ks.set j (some x')).flatMap kfp,y∈ks.flatMap kfp∨¬q.D y:=λy hy=>by
  rcases a3O hj y hy with h1|h1
  ·rcases t5 y h1 with h2|h2
   ·exact .inl (hxk y h2)
   ·exact .inr h2
  ·exact .inl h1
 have kb:=keep b D1 λe=>n2 (hxk b e)
 refine⟨x',⟨⟨kb.1,kb.2.1.trans h.a.S,(kb.2.2 _).trans h.a.s0,(kb.2.2 _).trans h.a.s1,h.a.u.same λy hy=>keep y (D2 y hy) λe=>n7 y hy (hxk y e),by simp[h.a.kl],λj' o ho=>?_⟩,λj' k hk=>?_,h.ok,?_,λy hy=>(t6 y (h.xD y hy)).1⟩,?_,mem,t6,by rw[t4.length_eq];simp⟩
 ·rw[List.getElem?_set]at ho;split at ho
  ·rename_i e;subst e;simp only[oI9]at ho;subst ho;refine(kb.2.2 _).trans ((h.a.k _ _ hj).trans ?_);simp[a7U,t2]
  ·exact(kb.2.2 _).trans (h.a.k j' o ho)
 ·rw[List.getElem?_set]at hk;split at hk
  ·rename_i e;subst e;simp only[oI9]at hk;subst hk;exact t1
  ·rename_i e;refine(h.kid j' k hk).same λy hy=>keep y (D3 y (J6 hk hy)) λhy2=>?_
   obtain⟨A,B,rfl,hA,_⟩:=a0v hj;simp only[List.flatMap_append,List.flatMap_cons,List.nodup_append,List.mem_append,ne_eq]at n5;rcases Nat.lt_or_ge j' A.length with c|c
   ·rw[List.getElem?_append_left c]at hk;have:y∈A.flatMap kfp:=J6 hk hy;exact n5.2.2 y this y (.inl hy2) rfl
   ·rw[List.getElem?_append_right c]at hk;obtain⟨u,hu⟩:∃ u,j'-A.length=u+1:=⟨j'-A.length-1,by omega⟩;rw[hu,List.getElem?_cons_succ]at hk;have:y∈B.flatMap kfp:=J6 hk hy;exact n5.2.1.2.2 y hy2 y this rfl
 ·refine nd4.2 ⟨⟨n1,λhb=>?_,n3⟩,⟨n4,b4K hj n5 t3 λy hy=>?_,n6⟩,λy hy hy2=>?_,n8,λy hy hy2=>?_⟩
  ·rcases mem b hb with h1|h1
   ·exact n2 h1
   ·exact h1 D1
  ·rcases t5 y hy with h2|h2
   ·exact .inl h2
   ·exact .inr λh3=>h2 (D3 y h3)
  ·rcases mem y hy2 with h1|h1
   ·exact n7 y hy h1
   ·exact h1 (D2 y hy)
  ·rcases mem y hy with h1|h1
   ·exact n9 y h1 hy2
   ·exact h1 (h.xD y hy2)
 ·obtain⟨A,B,rfl,hA,h2⟩:=a0v hj;rw[h2];simp only[List.flatMap_append,List.flatMap_cons];refine(List.Perm.append_left _ (List.Perm.append_right _ t4)).trans ?_;exact List.perm_middle
theorem qpN.done(h:qpN q R m d Q b sp v E ks (fpU w))(hw:isU q w N)(hN:∀ x∈N,a2A R m Q x) :
  qpN ⟨q.D,q.S,j7 (j7 q.F b 1 w) b 0 (.bool true)⟩ R m d Q b true w N ks []/\frQ (·= b) q ⟨q.D,q.S,j7 (j7 q.F b 1 w) b 0 (.bool true)⟩:=by
 obtain⟨D1,D2,D3⟩:=h.D;obtain⟨⟨n1,n2,n3⟩,⟨n4,n5,n6⟩,n7,n8,n9⟩:=nd4.1 h.nd
 have keep:∀ y,q.D y->y≠b->q.D y/\q.S y=q.S y/\∀ x,j7 (j7 q.F b 1 w) b 0 (.bool true) y x=q.F y x :=
  λy hy hn=>⟨hy,rfl,λx=>by rw[g8 (.inl hn),g8 (.inl hn)]⟩
 refine⟨⟨⟨D1,h.a.S,A6,?_,hw.same λy hy=>keep y (h.xD y hy) λe=>n3 (e▸hy),h.a.kl,λj o ho=>?_⟩,λj x hx=>(h.kid j x hx).same λy hy=>keep y (D3 y (J6 hx hy)) λe=>n2 (e▸J6 hx hy),hN,?_,by simp⟩,
  λy hy=>⟨hy,λhn=>(keep y hy hn).2⟩⟩
 ·show j7 _ _ _ _ _ _=_;rw[g8 (by omega)];exact A6
 ·show j7 _ _ _ _ _ _=_;rw[g8 (by omega),g8 (by omega)];exact h.a.k j o ho
 ·exact nd4.2 ⟨⟨n3,n2,by simp⟩,⟨n6,n5,by simp⟩,λy hy hy2=>n9 y hy2 hy,by simp,by simp⟩
end
theorem qiR.trans{q q1 q':RM}{R:Nat->Q4}{m d i:Nat}{Q:Q4}{k k1:QK}(hb:k1.b=k.b)(hf:frQ (·∈k.fp) q q1)(hn:∀ x∈k1.fp,x∈k.fp∨¬q.D x)(hp:k1.its.Perm k.its)(h:qiR q1 R m d Q i k1 q'):qiR q R m d Q i k q':=by
 obtain⟨k',t1,t2,t3,t4,t5,t6⟩:=h;refine⟨k',t1,t2.trans hb,t3,t4.trans (hp.cons i),λx hx=>?_,hf.trans t6 (λ_ _ h=>h) λx hx hw=>?_⟩
 ·rcases t5 x hx with h1|h1
  ·exact hn x h1
  ·exact .inr λh2=>h1 (hf x h2).1
 ·rcases hn x hw with h1|h1
  ·exact h1
  ·exact absurd hx h1
def qiP(q:RM)(g:Nat->Nat)(n b:Nat)(Q:Q4)(d i:Nat)(q':RM):Prop:=∀ k,qiA q g n b Q d k->qiR q (rcF g n) n d Q i k q'
def qiO(q:RM)(g:Nat->Nat)(n b:Nat)(Q r:Q4)(i d:Nat):Prop :=
 (d<=16/\QB d Q/\n<=1000000)/\r=rcF g n i/\a2A (rcF g n) n Q i/\∃ k,qiA q g n b Q d k/\k.its.length<1000
theorem qiA.uniq{q:RM}{g:Nat->Nat}{n b d:Nat}{Q:Q4}{k k':QK}(h:qiA q g n b Q d k)(h':qiA q g n b Q d k'):k'=k:=h'.t.uniq h.t (h'.b.trans h.b.symm)
theorem qiP.of{q q':RM}{g:Nat->Nat}{n b d i:Nat}{Q:Q4}{k:QK}(h:qiA q g n b Q d k)(hr:qiR q (rcF g n) n d Q i k q'):qiP q g n b Q d i q':=λk' h'=>by rw[h.uniq h'];exact hr
structure QI where
 j:Nat
 v:Value
 q:RM
structure qlA (q:RM) (g:Nat->Nat) (n b:Nat) (Q:Q4) (d:Nat) (k:QK) (v:Value) (E N:List Nat) (ks:List (Option QK)) (s:QI):Prop where
 hk:qiA q g n b Q (d+1) k
 hE:k.its=E/\E.length=32
 p:qpN s.q (rcF g n) n d Q b false v E ks (fpU s.v)
 w:isU s.q s.v N
 hN:∀ x∈N,a2A (rcF g n) n Q x
 pm:(N++ks.flatMap R7).Perm (E.take s.j)
 j:s.j<=32
 fr:frQ (·∈k.fp) q s.q
 nw:(∀ y∈ks.flatMap kfp,y∈k.fp∨¬q.D y)/\∀ y∈fpU s.v,y∈k.fp∨¬q.D y
def qlI(q:RM)(g:Nat->Nat)(n b:Nat)(Q:Q4)(d:Nat)(s:QI):Prop:=∃ k v E N ks,qlA q g n b Q d k v E N ks s/\kne ks
def qlX(q:RM)(g:Nat->Nat)(n b:Nat)(Q:Q4)(d:Nat)(s:QI)(x:Nat):Prop:=∃ k v E N ks,qlA q g n b Q d k v E N ks s/\E[s.j]? = some x/\kne ks
def qlY(q:RM)(g:Nat->Nat)(n b:Nat)(Q:Q4)(d:Nat)(s:QI)(x:Nat)(q':RM):Prop :=
 ∃ k v E N ks y,qlA q g n b Q d k v E N ks ⟨s.j,s.v,q'⟩/\E[s.j]? = some x/\(0<=cqV Q (rcF g n x)/\cqV Q (rcF g n x)<4/\inQ (qbV Q (cqV Q (rcF g n x))) (rcF g n x))/\ks[(cqV Q (rcF g n x)).toNat]? = some (some y)/\b2P (cqV Q (rcF g n x)).toNat ks
structure qcA (q:RM) (g:Nat->Nat) (n b:Nat) (Q:Q4) (d c:Nat) (q':RM) (k:QK) (v:Value) (E:List Nat) (ks:List (Option QK)) (y:QK):Prop where
 hk:qiA q g n b Q (d+1) k
 p:qpN q' (rcF g n) n d Q b true v E ks []
 pm:(E++ks.flatMap R7).Perm k.its
 nw:(∀ y∈ks.flatMap kfp,y∈k.fp∨¬q.D y)/\∀ y∈fpU v,y∈k.fp∨¬q.D y
 fr:frQ (·∈k.fp) q q'
 hy:ks[c]? = some (some y)
 ne:b2P c ks
def qcP(q:RM)(g:Nat->Nat)(n b:Nat)(Q:Q4)(d c:Nat)(q':RM):Prop:=∃ k v E ks y,qcA q g n b Q d c q' k v E ks y
section
variable {q:RM} {g:Nat->Nat} {n b d:Nat} {Q:Q4} {k:QK}
theorem qiA.own0(h:qiA q g n b Q 0 k)(e:Nat):∃ v E,qpN q (rcF g n) n e Q b false v E nok []/\k.fp=b :: fpU v/\k.its=E:=by
 obtain⟨v,E,h1,h2,h3⟩:=c3W e h.t h.nd;rw[h.b]at h1 h2;exact⟨v,E,h1,h2,h3⟩
theorem qiA.own1(h:qiA q g n b Q (d+1) k):∃ sp v E ks,qpN q (rcF g n) n d Q b sp v E ks []/\(sp=false->ks=nok/\E.length<=32)/\k.fp=b :: (fpU v++ks.flatMap kfp)/\k.its=E++ks.flatMap R7/\kne ks:=by
 obtain⟨sp,v,E,ks,h1,h0,h2,h3,h4⟩:=c1Z h.t h.nd;rw[h.b]at h1 h2;exact⟨sp,v,E,ks,h1,h0,h2,h3,h4⟩
theorem qiA.node(h:qiA q g n b Q d k):∃ sp v E ks,qnA q b sp v E ks/\E.length<=k.its.length:=by
 cases d with
 | zero =>
  obtain⟨v,E,h1,h2,h3⟩:=h.own0 0;exact⟨_,_,_,_,h1.a,by rw[h3];exact Nat.le_refl _⟩
 | succ d =>
  obtain⟨sp,v,E,ks,h1,h0,h2,h3,_⟩:=h.own1;exact⟨_,_,_,_,h1.a,by rw[h3];simp⟩
theorem qiA.cells(h:qiA q g n b Q d k):q.D b/\q.S b=6/\b0N (q.F b 0)/\isSlN (q.F b 1)/\Go.Sx.appO q.D q.S 1 4 (slB (q.F b 1)) (slC (q.F b 1)) (slL (q.F b 1)) (slK (q.F b 1)) 1:=by
 obtain⟨sp,v,E,ks,h1,h2⟩:=h.node;have h3:=h.le;rw[h1.s1,h1.s0];exact⟨h1.D,h1.S,rfl,h1.u.appO (by omega)⟩
theorem qiA.bfp(h:qiA q g n b Q d k):b∈k.fp:=by rw[<-h.b];exact h.t.fp0
theorem c3A(h:qiA q g n b Q 0 k){x:Nat}(hx:a2A (rcF g n) n Q x){i:ApI}(hp:R0 q.D q.S q.F 1 (slB (q.F b 1)) (slC (q.F b 1)) (slL (q.F b 1)) (slK (q.F b 1)) 1 [.int .u32 (x:Nat)] i) :
  (i.D b/\2<=i.S b)/\qiP q g n b Q 0 x ⟨i.D,i.S,j7 i.F b 1 (.slice (some ⟨i.b,i.c,none⟩) (slL (q.F b 1)+1) i.k)⟩:=by
 obtain⟨v,E,h1,h2,h3⟩:=h.own0 0;rw[h1.a.s1]at hp ⊢;obtain⟨r1,r2,r3⟩:=h1.own hx hp;refine⟨⟨r1.a.D,by have:i.S b=6:=r1.a.S;omega⟩,qiP.of h ?_⟩;obtain⟨r4,r5⟩:=r1.qt0;refine⟨_,r4,h.b.symm,r5,?_,λy hy=>?_,r3.mono λy _ hw=>?_⟩
 ·rw[h3];exact List.perm_append_singleton x E
 ·rcases List.mem_cons.1 hy with rfl|hy
  ·exact .inl h.bfp
  ·rcases r2 y hy with h4|h4
   ·exact .inl (by rw[h2];exact List.mem_cons_of_mem _ h4)
   ·exact .inr h4
 ·rw[h2];rcases hw with rfl|hw
  ·simp
  ·exact List.mem_cons_of_mem _ hw
theorem b6U(h:qiA q g n b Q (d+1) k)(hs:a0E (q.F b 0)=true∨slL (q.F b 1)≠32){x:Nat}(hx:a2A (rcF g n) n Q x){i:ApI}(hp:R0 q.D q.S q.F 1 (slB (q.F b 1)) (slC (q.F b 1)) (slL (q.F b 1)) (slK (q.F b 1)) 1 [.int .u32 (x:Nat)] i) :
  (i.D b/\2<=i.S b)/\qiP q g n b Q (d+1) x ⟨i.D,i.S,j7 i.F b 1 (.slice (some ⟨i.b,i.c,none⟩) (slL (q.F b 1)+1) i.k)⟩:=by
 obtain⟨sp,v,E,ks,h1,h0,h2,h3,hne⟩:=h.own1;rw[h1.a.s0,h1.a.s1]at hs;rw[h1.a.s1]at hp ⊢;obtain⟨r1,r2,r3⟩:=h1.own hx hp;refine⟨⟨r1.a.D,by have:i.S b=6:=r1.a.S;omega⟩,qiP.of h ?_⟩
 obtain⟨r4,r5⟩:=r1.qt (λe=>by
  obtain⟨e1,e2⟩:=h0 e;refine⟨e1,?_⟩;have e3:=h1.a.u.n;rcases hs with hs|hs
  ·rw[e]at hs;exact absurd hs (by decide)
  ·simp;omega) hne
 refine⟨_,r4,h.b.symm,r5,?_,λy hy=>?_,r3.mono λy _ hw=>?_⟩
 ·rw[h3,List.append_assoc];exact List.perm_middle
 ·rcases List.mem_cons.1 hy with rfl|hy
  ·exact .inl h.bfp
  ·rcases List.mem_append.1 hy with hy|hy
   ·rcases r2 y hy with h4|h4
    ·exact .inl (by rw[h2];exact List.mem_cons_of_mem _ (List.mem_append_left _ h4))
    ·exact .inr h4
   ·exact .inl (by rw[h2];exact List.mem_cons_of_mem _ (List.mem_append_right _ hy))
 ·rw[h2];rcases hw with rfl|hw
  ·simp
  ·exact List.mem_cons_of_mem _ (List.mem_append_left _ hw)
theorem a4T(o:Option QK):a4r (a7U o):=by
 cases o with
 | none=>exact .inl rfl
 | some x=>exact .inr ⟨_,rfl⟩
theorem a2a(o:Option QK):U2 (a7U o)=o.isNone:=by cases o <;> rfl
theorem qnA.kid{sp:Bool}{v:Value}{E:List Nat}{ks:List (Option QK)}(h:qnA q b sp v E ks){c:Nat}(hc:c<4):∃ o,ks[c]? = some o/\q.F b (2+c)=a7U o:=by
 have:=List.getElem?_eq_getElem (by rw[h.kl];exact hc:c<ks.length);exact⟨_,this,h.k _ _ this⟩
theorem qiA.kidc(h:qiA q g n b Q (d+1) k){c:Nat}(hc:c<4):a4r (q.F b (2+c)):=by
 obtain⟨sp,v,E,ks,h1,_⟩:=h.own1;obtain⟨o,_,h5⟩:=h1.a.kid hc;rw[h5];exact a4T o
theorem a9G(q:RM)(b:Nat):a2f q b<=1:=by unfold a2f;split <;> omega
theorem c3R(h:qiA q g n b Q (d+1) k)(hs:a0E (q.F b 0)=true){c x:Nat}(hc:c<4)(hn:U2 (q.F b (2+c))=true)(hx:¬q.D x) :
  qcP q g n b Q d c ⟨L4 q.D x,E5 q.S x 6,j7 (D7 q.F x (rz tys 191)) b (2+c) (.pointer (some ⟨x,0,none⟩))⟩:=by
 obtain⟨sp,v,E,ks,h1,h0,h2,h3,hne⟩:=h.own1;obtain⟨o,h4,h5⟩:=h1.a.kid hc;rw[h5,a2a]at hn;obtain rfl:o=none:=by simpa using hn
 obtain rfl:sp=true:=by rw[h1.a.s0]at hs;exact hs
 obtain⟨r1,r2⟩:=h1.new h4 hx;have hl:c<ks.length:=by rw[h1.a.kl];exact hc
 refine⟨k,v,E,_,⟨x,[x],[]⟩,h,r1,?_,⟨λy hy=>?_,λy hy=>.inl (by rw[h2];exact List.mem_cons_of_mem _ (List.mem_append_left _ hy))⟩,r2.mono λy _ hw=>by rw[hw];exact h.bfp,by simp[hl],hne.setX⟩
 ·rw[h3];obtain⟨A,B,rfl,_,h6⟩:=a0v h4;rw[h6];simp[R7]
 ·rcases a3O h4 y hy with h6|h6
  ·simp[kfp]at h6;subst h6;exact .inr hx
  ·exact .inl (by rw[h2];exact List.mem_cons_of_mem _ (List.mem_append_right _ h6))
theorem c4t(h:qiA q g n b Q (d+1) k)(hs:a0E (q.F b 0)=true){c:Nat}(hc:c<4)(hn:U2 (q.F b (2+c))=false):qcP q g n b Q d c q:=by
 obtain⟨sp,v,E,ks,h1,h0,h2,h3,hne⟩:=h.own1;obtain⟨o,h4,h5⟩:=h1.a.kid hc;rw[h5,a2a]at hn
 obtain⟨y,rfl⟩:∃ y,o=some y:=by cases o with
  | none=>simp at hn
  | some y=>exact⟨y,rfl⟩
 obtain rfl:sp=true:=by rw[h1.a.s0]at hs;exact hs
 exact⟨k,v,E,ks,y,h,h1,by rw[h3],⟨λy hy=>.inl (by rw[h2];exact List.mem_cons_of_mem _ (List.mem_append_right _ hy)),λy hy=>.inl (by rw[h2];exact List.mem_cons_of_mem _ (List.mem_append_left _ hy))⟩,frQ.refl _ _,h4,hne.x c⟩
theorem a9m{ks:List (Option QK)}{c:Nat}{y:QK}(h:ks[c]? = some (some y)):y.its.length<=(ks.flatMap R7).length:=by
 obtain⟨A,B,rfl,_,_⟩:=a0v h;simp only[List.flatMap_append,List.flatMap_cons,List.length_append,R7];omega
theorem c2J{ks:List (Option QK)}{c:Nat}{y:QK}(h:ks[c]? = some (some y))(hn:(ks.flatMap kfp).Nodup):y.fp.Nodup:=by
 obtain⟨A,B,rfl,_,_⟩:=a0v h;simp only[List.flatMap_append,List.flatMap_cons,List.nodup_append,kfp]at hn;exact hn.2.1.1
theorem qpN.sub{sp:Bool}{v:Value}{E xs:List Nat}{ks:List (Option QK)}(h:qpN q (rcF g n) n d Q b sp v E ks xs){c:Nat}{y:QK}(hy:ks[c]? = some (some y))(hl:(ks.flatMap R7).length<=1000) :
  q.F b (2+c)=.pointer (some ⟨y.b,0,none⟩)/\qiA q g n y.b (qbV Q (c:Int)) d y:=by
 refine⟨h.a.k _ _ hy,h.kid _ _ hy,rfl,c2J hy (nd4.1 h.nd).2.1.2.1,?_⟩;have:=a9m hy;omega
theorem b8E{c:Nat}{q':RM}{v:Value}{E:List Nat}{ks:List (Option QK)}{y:QK}(h:qcA q g n b Q d c q' k v E ks y)(hl:k.its.length<1000) :
  (q'.D b/\q'.S b=6)/\q'.F b (2+c)=.pointer (some ⟨y.b,0,none⟩)/\qiA q' g n y.b (qbV Q (c:Int)) d y/\y.its.length<1000:=by
 have h1:=h.pm.length_eq;rw[List.length_append]at h1;have h2:=a9m h.hy;obtain⟨h3,h4⟩:=h.p.sub h.hy (by omega);exact⟨⟨h.p.a.D,h.p.a.S⟩,h3,h4,by omega⟩
theorem c3Q{c x:Nat}{q' q'':RM}{v:Value}{E:List Nat}{ks:List (Option QK)}{y:QK}(h:qcA q g n b Q d c q' k v E ks y)(hl:k.its.length<1000)(hP:qiP q' g n y.b (qbV Q (c:Int)) d x q''):qiP q g n b Q (d+1) x q'':=by
 obtain⟨_,_,h3,_⟩:=b8E h hl;obtain⟨x',r1,r2,r3,r4,r5⟩:=h.p.child h.hy (hP y h3);obtain⟨s1,s2⟩:=r1.qt (by simp) (h.ne.set r5);refine qiP.of h.hk ⟨_,s1,h.hk.b.symm,s2,?_,λz hz=>?_,h.fr.trans r4 (λ_ _ hw=>hw) λz hz hw=>?_⟩
 ·show (E++_).Perm _;refine(List.Perm.append_left E r2).trans (List.perm_middle.trans ?_);exact h.pm.cons x
 ·rcases List.mem_cons.1 hz with rfl|hz
  ·exact .inl h.hk.bfp
  ·rcases List.mem_append.1 hz with hz|hz
   ·exact h.nw.2 z hz
   ·rcases r3 z hz with h5|h5
    ·exact h.nw.1 z h5
    ·exact .inr λh6=>h5 (h.fr z h6).1
 ·rcases h.nw.1 z (J6 h.hy hw)with h5|h5
  ·exact h5
  ·exact absurd hz h5
theorem c0A(h:qiA q g n b Q (d+1) k)(hs:a0E (q.F b 0)=false)(hl:slL (q.F b 1)=32):qlI q g n b Q d ⟨0, .slice none 0 0,q⟩:=by
 obtain⟨sp,v,E,ks,h1,h0,h2,h3,hne⟩:=h.own1;obtain rfl:sp=false:=by rw[h1.a.s0]at hs;exact hs
 obtain⟨rfl,_⟩:=h0 rfl;rw[h1.a.s1]at hl;exact⟨k,v,E,[],nok,⟨h,⟨by rw[h3,a6k];simp,by rw[<-h1.a.u.n];exact hl⟩,h1,isU.nil q,by simp,by rw[a6k];simp,by simp,frQ.refl _ _,by rw[b0u];simp,by simp[fpU,slK]⟩,kne.nok⟩
variable {v:Value} {E N:List Nat} {ks:List (Option QK)} {s:QI}
theorem b1d(h:qlA q g n b Q d k v E N ks s):(s.q.D b/\s.q.S b=6)/\s.q.F b 1=v/\isSlN v/\slL v=32:=by
 refine⟨⟨h.p.a.D,h.p.a.S⟩,h.p.a.s1,h.p.a.u.sl,?_⟩;rw[h.p.a.u.n];exact h.hE.2
theorem b9N(h:qlA q g n b Q d k v E N ks s)(hj:s.j<32):∃ x,E[s.j]? = some x/\isSl v/\(s.q.D (slB v)/\slC v+s.j<s.q.S (slB v))/\s.q.F (slB v) (slC v+s.j)=.int .u32 (x:Nat):=by
 have h1:=List.getElem?_eq_getElem (by rw[h.hE.2];exact hj:s.j<E.length);have h2:=h.p.a.u.pos h1;obtain⟨h3,h4⟩:=h.p.a.u.D h2;have h5:=h.p.a.u.le;have h6:=(b1d h).2.2.2;refine⟨_,h1,?_,⟨h3,by omega⟩,h.p.a.u.c _ _ h1⟩;rcases h.p.a.u.sl with e|e
 ·rw[e]at h2;exact absurd h2 (by decide)
 ·exact e
theorem b4o{E L:List Nat}{j x:Nat}(h:L.Perm (E.take j))(hj:E[j]? = some x):(x :: L).Perm (E.take (j+1)):=by
 rw[List.take_add_one,hj];exact(h.cons x).trans (List.perm_append_singleton x _).symm
theorem b4y(h:qlA q g n b Q d k v E N ks s){x:Nat}(hx:E[s.j]? = some x):a2A (rcF g n) n Q x/\s.j<32:=by
 refine⟨h.p.ok x (List.mem_of_getElem? hx),?_⟩;have:=(List.getElem?_eq_some_iff.1 hx).1;rw[h.hE.2]at this;exact this
theorem b0y(h:qlA q g n b Q d k v E N ks s):N.length+(ks.flatMap R7).length<=32:=by
 have h1:=h.pm.length_eq;rw[List.length_append,List.length_take]at h1;have:=h.j;omega
theorem b9E(h:qlA q g n b Q d k v E N ks s)(hne:kne ks){x:Nat}(hx:E[s.j]? = some x){i:ApI}(hp:R0 s.q.D s.q.S s.q.F 1 (slB s.v) (slC s.v) (slL s.v) (slK s.v) 1 [.int .u32 (x:Nat)] i) :
  qlI q g n b Q d ⟨s.j+1, .slice (some ⟨i.b,i.c,none⟩) (slL s.v+1) i.k,⟨i.D,i.S,i.F⟩⟩:=by
 obtain⟨r1,r2,r3,r4⟩:=h.p.aside h.w hp;obtain⟨h1,h2⟩:=b4y h hx;refine⟨k,v,E,N++[x],ks,⟨h.hk,h.hE,r1,r2,λy hy=>?_,?_,h2,h.fr.trans r4 (λ_ _ hw=>hw) λy hy hw=>?_,h.nw.1,λy hy=>?_⟩,hne⟩
 ·rcases List.mem_append.1 hy with hy|hy
  ·exact h.hN y hy
  ·simp at hy;subst hy;exact h1
 ·refine(List.Perm.append_right _ (List.perm_append_singleton x N)).trans ?_;exact b4o h.pm hx
 ·rcases h.nw.2 y hw with h3|h3
  ·exact h3
  ·exact absurd hy h3
 ·rcases r3 y hy with h3|h3
  ·exact h.nw.2 y h3
  ·exact .inr λh4=>h3 (h.fr y h4).1
theorem c3M(h:qlA q g n b Q d k v E N ks s)(hne:kne ks){x:Nat}(hx:E[s.j]? = some x)(hq:0<=cqV Q (rcF g n x)/\cqV Q (rcF g n x)<4/\inQ (qbV Q (cqV Q (rcF g n x))) (rcF g n x)){z:Nat}(hn:U2 (s.q.F b (2+(cqV Q (rcF g n x)).toNat))=true)(hz:¬s.q.D z) :
  qlY q g n b Q d s x ⟨L4 s.q.D z,E5 s.q.S z 6,j7 (D7 s.q.F z (rz tys 191)) b (2+(cqV Q (rcF g n x)).toNat) (.pointer (some ⟨z,0,none⟩))⟩:=by
 have hc:(cqV Q (rcF g n x)).toNat<4:=by omega
 generalize hC:(cqV Q (rcF g n x)).toNat=c at *;obtain⟨o,h4,h5⟩:=h.p.a.kid hc;rw[h5,a2a]at hn;obtain rfl:o=none:=by simpa using hn
 obtain⟨r1,r2⟩:=h.p.new h4 hz;have hl:c<ks.length:=by rw[h.p.a.kl];exact hc
 have hbw:b∉fpU s.v:=(nd4.1 h.p.nd).1.2.2;refine⟨k,v,E,N,ks.set c (some ⟨z,[z],[]⟩),⟨z,[z],[]⟩,⟨h.hk,h.hE,r1,h.w.same λy hy=>?_,h.hN,?_,h.j,h.fr.trans r2 (λ_ _ hw=>hw) λy hy hw=>by rw[hw];exact h.hk.bfp,λy hy=>?_,h.nw.2⟩,hx,hq,by rw[hC];simp[hl],by rw[hC];exact hne.setX⟩
 ·have h6:=r2 y (h.w.D' y hy);exact⟨h6.1,h6.2 λe=>hbw (e▸hy)⟩
 ·obtain⟨A,B,rfl,_,h6⟩:=a0v h4;rw[h6];have:=h.pm;simpa [R7]using this
 ·rcases a3O h4 y hy with h6|h6
  ·simp[kfp]at h6;subst h6;exact .inr λh7=>hz (h.fr _ h7).1
  ·exact h.nw.1 y h6
theorem c4i(h:qlA q g n b Q d k v E N ks s)(hne:kne ks){x:Nat}(hx:E[s.j]? = some x)(hq:0<=cqV Q (rcF g n x)/\cqV Q (rcF g n x)<4/\inQ (qbV Q (cqV Q (rcF g n x))) (rcF g n x))(hn:U2 (s.q.F b (2+(cqV Q (rcF g n x)).toNat))=false) :
  qlY q g n b Q d s x s.q:=by
 obtain⟨o,h4,h5⟩:=h.p.a.kid (c:=(cqV Q (rcF g n x)).toNat) (by omega);rw[h5,a2a]at hn
 obtain⟨y,rfl⟩:∃ y,o=some y:=by cases o with
  | none=>simp at hn
  | some y=>exact⟨y,rfl⟩
 exact⟨k,v,E,N,ks,y,h,hx,hq,h4,hne.x _⟩
theorem b8I{q' q'':RM}{x c:Nat}{y:QK}(h:qlA q g n b Q d k v E N ks ⟨s.j,s.v,q'⟩)(hx:E[s.j]? = some x)(hy:ks[c]? = some (some y))(hne:b2P c ks)(hP:qiP q' g n y.b (qbV Q (c:Int)) d x q''):qlI q g n b Q d ⟨s.j+1,s.v,q''⟩:=by
 have h0:=b0y h;obtain⟨_,h3⟩:=h.p.sub hy (by omega);obtain⟨x',r1,r2,r3,r4,r5⟩:=h.p.child hy (hP y h3);obtain⟨h1,h2⟩:=b4y h hx;have hd:∀ z∈fpU s.v,z∉y.fp:=λz hz hz2=>(nd4.1 h.p.nd).2.2.2.2 z (J6 hy hz2) hz
 refine⟨k,v,E,N,_,⟨h.hk,h.hE,r1,h.w.same λz hz=>?_,h.hN,?_,h2,h.fr.trans r4 (λ_ _ hw=>hw) λz hz hw=>?_,λz hz=>?_,h.nw.2⟩,hne.set r5⟩
 ·have h6:=r4 z (h.w.D' z hz);exact⟨h6.1,h6.2 (hd z hz)⟩
 ·refine(List.Perm.append_left N r2).trans (List.perm_middle.trans ?_);exact b4o h.pm hx
 ·rcases h.nw.1 z (J6 hy hw)with h5|h5
  ·exact h5
  ·exact absurd hz h5
 ·rcases r3 z hz with h5|h5
  ·exact h.nw.1 z h5
  ·exact .inr λh6=>h5 (h.fr z h6).1
theorem c4C(h:qlA q g n b Q d k v E N ks s)(hne:kne ks)(hj:¬s.j<32):∃ k1,qiA ⟨s.q.D,s.q.S,j7 (j7 s.q.F b 1 s.v) b 0 (.bool true)⟩ g n b Q (d+1) k1/\k1.its.length<1000/\
  ∀ x q',qiP ⟨s.q.D,s.q.S,j7 (j7 s.q.F b 1 s.v) b 0 (.bool true)⟩ g n b Q (d+1) x q'->qiP q g n b Q (d+1) x q':=by
 obtain⟨r1,r2⟩:=h.p.done h.w h.hN;obtain⟨s1,s2⟩:=r1.qt (by simp) hne;have hlen:=b0y h;have hE:E.take s.j=E:=List.take_of_length_le (by rw[h.hE.2];omega);have hpm:=h.pm;rw[hE]at hpm;have ha:qiA ⟨s.q.D,s.q.S,j7 (j7 s.q.F b 1 s.v) b 0 (.bool true)⟩ g n b Q (d+1) ⟨b,b :: (fpU s.v++ks.flatMap kfp),N++ks.flatMap R7⟩:=⟨s1,rfl,s2,by simp only[List.length_append];omega⟩;refine⟨_,ha,by simp only[List.length_append];omega,λx q' hP=>qiP.of h.hk ?_⟩
 refine qiR.trans (k1:=⟨b,b :: (fpU s.v++ks.flatMap kfp),N++ks.flatMap R7⟩) h.hk.b.symm (h.fr.trans r2 (λ_ _ hw=>hw) λy hy hw=>by rw[hw];exact h.hk.bfp) (λy hy=>?_) (by rw[h.hE.1];exact hpm) (hP _ ha);rcases List.mem_cons.1 hy with rfl|hy
 ·exact .inl h.hk.bfp
 ·rcases List.mem_append.1 hy with hy|hy
  ·exact h.nw.2 y hy
  ·exact h.nw.1 y hy
end
open Int (toNat)
open Go.IntKind (wrap)
noncomputable section
def GQ0:Ctx:=⟨⟨tys,FP⟩,[(112,A7 b1k),(113,z3 a1K),(123,a3m (q7 Unit ⟨()⟩ b9o) ()),(124,z3 b1A)]⟩
theorem gQ0:B9 prog GQ0:=⟨⟨D6,b5P⟩,l8.cons c4J (l8.cons (.pure a8y) (l8.cons c9i (l8.cons (.pure c4d) l8.nil))),by kernel_rfl⟩
def qH(ts:List Nat)(cl cw cv:Bool)(k:Int)(x y z w n:Nat)(g:Nat->Nat)(a0 a1 a2 a3 r0 r1 r2 r3:Nat)(q:RM):A1 :=
 [(0,rwO ts q),(1,⟨false,150,a0D cl cw cv k x y z w 2 n,0⟩),(2,⟨false,100, .flts .f64 (2*n) g,0⟩),(3,⟨true,102, .cells [.flt .f64 a0, .flt .f64 a1, .flt .f64 a2, .flt .f64 a3],0⟩),(4,⟨true,102, .cells [.flt .f64 r0, .flt .f64 r1, .flt .f64 r2, .flt .f64 r3],0⟩)]
def qH5(ts:List Nat)(cl cw cv:Bool)(k:Int)(x y z w n:Nat)(g:Nat->Nat)(a0 a1 a2 a3 r0 r1 r2 r3:Nat)(Q:Q4)(q:RM):A1 :=
 [(0,rwO ts q),(1,⟨false,150,a0D cl cw cv k x y z w 2 n,0⟩),(2,⟨false,100, .flts .f64 (2*n) g,0⟩),(3,⟨true,102, .cells [.flt .f64 a0, .flt .f64 a1, .flt .f64 a2, .flt .f64 a3],0⟩),(4,⟨true,102, .cells [.flt .f64 r0, .flt .f64 r1, .flt .f64 r2, .flt .f64 r3],0⟩),(5,⟨true,102, .cells [.flt .f64 Q.x0, .flt .f64 Q.y0, .flt .f64 Q.x1, .flt .f64 Q.y1],0⟩)]
def qH6(ts:List Nat)(cl cw cv:Bool)(k:Int)(x y z w n:Nat)(g:Nat->Nat)(a0 a1 a2 a3 r0 r1 r2 r3:Nat)(R Q:Q4)(q:RM):A1 :=
 [(0,rwO ts q),(1,⟨false,150,a0D cl cw cv k x y z w 2 n,0⟩),(2,⟨false,100, .flts .f64 (2*n) g,0⟩),(3,⟨true,102, .cells [.flt .f64 a0, .flt .f64 a1, .flt .f64 a2, .flt .f64 a3],0⟩),(4,⟨true,102, .cells [.flt .f64 r0, .flt .f64 r1, .flt .f64 r2, .flt .f64 r3],0⟩),(5,⟨true,102, .cells [.flt .f64 R.x0, .flt .f64 R.y0, .flt .f64 R.x1, .flt .f64 R.y1],0⟩),(6,⟨true,102, .cells [.flt .f64 Q.x0, .flt .f64 Q.y0, .flt .f64 Q.x1, .flt .f64 Q.y1],0⟩)]
def qL(ts:List Nat)(cl cw cv:Bool)(k:Int)(x y z w n:Nat)(g:Nat->Nat)(a0 a1 a2 a3 r0 r1 r2 r3:Nat)(q:RM)(b:Nat)(i dp:Int):S9 :=
 ⟨⟨QI,λs=>⟨175,[(0, .pb 0 b 0),(1, .ptr 1 0),(4, .int .i64 i),(5, .int .i64 dp),(8, .ptr 3 0),(9, .ptr 4 0),(14, .dv 0 s.v),(15, .int .i64 s.j)],qH ts cl cw cv k x y z w n g a0 a1 a2 a3 r0 r1 r2 r3 s.q,5⟩,qlI q g n b ⟨a0,a1,a2,a3⟩ (16-dp.toNat-1),λs=>32-s.j⟩,
  λs=>[(17,⟨Nat,λt=>⟨175,[(0, .pb 0 b 0),(1, .ptr 1 0),(4, .int .i64 i),(5, .int .i64 dp),(8, .ptr 3 0),(9, .ptr 4 0),(14, .dv 0 s.v),(15, .int .i64 s.j),(16, .int .u32 t)],qH ts cl cw cv k x y z w n g a0 a1 a2 a3 r0 r1 r2 r3 s.q,5⟩,λt=>qlX q g n b ⟨a0,a1,a2,a3⟩ (16-dp.toNat-1) s t,λ_=>0⟩),
   (24,⟨Nat×RM,λt=>⟨175,[(0, .pb 0 b 0),(1, .ptr 1 0),(4, .int .i64 i),(5, .int .i64 dp),(8, .ptr 3 0),(9, .ptr 4 0),(14, .dv 0 s.v),(15, .int .i64 s.j),(16, .int .u32 (t.1:Nat)),(17, .ptr 5 0),(18, .int .i64 (cqV ⟨a0,a1,a2,a3⟩ (rcF g n t.1))),(19, .ptr 6 0)],qH6 ts cl cw cv k x y z w n g a0 a1 a2 a3 r0 r1 r2 r3 (rcF g n t.1) (qbV ⟨a0,a1,a2,a3⟩ (cqV ⟨a0,a1,a2,a3⟩ (rcF g n t.1))) t.2,7⟩,λt=>qlY q g n b ⟨a0,a1,a2,a3⟩ (16-dp.toNat-1) s t.1 t.2,λ_=>0⟩)]⟩
def a6U(K:Nat):List SV->RRd RM
 | [.pb nn b c, .ptr s 0, .agg [.flt .f64 a0, .flt .f64 a1, .flt .f64 a2, .flt .f64 a3], .agg [.flt .f64 r0, .flt .f64 r1, .flt .f64 r2, .flt .f64 r3], .int .i64 i, .int .i64 dp]=>.read nn λo0=>(match J4 o0 with
  | some (ts,q)=>.read s λo1=>(match a4o o1.c with
   | some (cl,cw,cv,k,x,y,z,w,p,n)=>.read p λo2=>(match z9 .f64 o2.c with
    | some (m2,g)=>.ret ⟨[.pb 0 b 0, .ptr 1 0, .agg [.flt .f64 a0, .flt .f64 a1, .flt .f64 a2, .flt .f64 a3], .agg [.flt .f64 r0, .flt .f64 r1, .flt .f64 r2, .flt .f64 r3], .int .i64 i, .int .i64 dp],
      [(0,rwO ts q),(1,⟨false,150,a0D cl cw cv k x y z w 2 n,0⟩),(2,⟨false,100, .flts .f64 m2 g,0⟩)],some (0=c/\m2=2*n/\((0<=dp/\dp<=16/\2*(16-dp.toNat)+a2f q b<K)/\(0<=i/\i<n)/\qiO q g n b ⟨a0,a1,a2,a3⟩ ⟨r0,r1,r2,r3⟩ i.toNat (16-dp.toNat))),
      λj=>qiP q g n b ⟨a0,a1,a2,a3⟩ (16-dp.toNat) i.toNat j,λj=>⟨[],[], .tup [],[(0,rwO ts (j))],[],none⟩⟩
    | none=>.fail)
   | none=>.fail)
  | none=>.fail)
 | _=>.fail
def X11(H:Nat):G9:=⟨GQ0,[(117,q7 RM ⟨default⟩ (a6U H))],[(191,0)],[],[(188,0)]⟩
theorem x11(H:Nat)(ih:A5 prog 117 (q7 RM ⟨default⟩ (a6U H))):C0 prog (X11 H):=⟨gQ0,y9.cons ih y9.nil⟩
def c2g(K:Nat):List SV->RRd (RM)
 | [.pb nn b c, .ptr s 0, .agg [.flt .f64 a0, .flt .f64 a1, .flt .f64 a2, .flt .f64 a3], .agg [.flt .f64 r0, .flt .f64 r1, .flt .f64 r2, .flt .f64 r3], .int .i64 i, .int .i64 dp]=>.read nn λo0=>(match J4 o0 with
  | some (ts,q)=>.read s λo1=>(match a4o o1.c with
  | some (cl,cw,cv,k,x,y,z,w,p,n)=>.read p λo2=>(match z9 .f64 o2.c with
  | some (m2,g)=>.ret ⟨[.pb 0 b 0, .ptr 1 0, .agg [.flt .f64 a0, .flt .f64 a1, .flt .f64 a2, .flt .f64 a3], .agg [.flt .f64 r0, .flt .f64 r1, .flt .f64 r2, .flt .f64 r3], .int .i64 i, .int .i64 dp],[(0,rwO ts q),(1,⟨false,150,a0D cl cw cv k x y z w 2 n,0⟩),(2,⟨false,100, .flts .f64 m2 g,0⟩)],some (0=c/\m2=2*n/\((0<=dp/\dp<=16/\2*(16-dp.toNat)+a2f q b<K)/\(0<=i/\i<n)/\qiO q g n b ⟨a0,a1,a2,a3⟩ ⟨r0,r1,r2,r3⟩ i.toNat (16-dp.toNat))),λj=>qiP q g n b ⟨a0,a1,a2,a3⟩ (16-dp.toNat) i.toNat j,λj=>⟨[],[], .tup [],[(0,rwO ts (j))],[],none⟩⟩
  | none=>.fail)
  | none=>.fail)
  | none=>.fail)
 | _=>.fail
theorem c0t(R:Option Ob->SV->Prop)(H:Nat)(ts:List Nat)(q:RM)(b:Nat)(cl cw cv:Bool)(k:Int)(x y z w:Nat)(_:Nm)(n:Nat)(a0 a1 a2 a3 r0 r1 r2 r3:Nat)(i dp:Int)(g:Nat->Nat){T1}(t1:T1=λ(j:Nat)=>(Q4.mk (E8 (g (2*toNat (wrap .i64 (↑j:Int)))) (g (2*nx n (toNat (wrap .i64 (↑j:Int)))))) (E8 (g (2*toNat (wrap .i64 (↑j:Int))+1)) (g (2*nx n (toNat (wrap .i64
 (↑j:Int)))+1))) (E6 (g (2*toNat (wrap .i64 (↑j:Int)))) (g (2*nx n (toNat (wrap .i64 (↑j:Int)))))) (E6 (g (2*toNat (wrap .i64 (↑j:Int))+1)) (g (2*nx n (toNat (wrap .i64 (↑j :
 Int)))+1))))){T2}(t2:T2=(Q4.mk a0 a1 a2 a3)){T3}(t3:T3=(cqV T2 (Q4.mk r0 r1 r2 r3))){T4}(t4:T4=(cl=cl/\cw=cw/\cv=cv/\k=k/\True/\x=x/\y=y/\z=z/\w=w/\(True/\n=n)/\True)){T5}(t5:T5=λ(j:Nat) (pq:Nat×RM)=>(102=102/\
 0=0/\E8 (g (2*toNat (wrap .i64 (↑j:Int)))) (g (2*nx n (toNat (wrap .i64 (↑j:Int)))))=E8 (g (2*pq.1)) (g (2*nx n (pq.1)))/\E8 (g (2*toNat (wrap .i64 (↑j:Int))+1)) (g (2*nx n
 (toNat (wrap .i64 (↑j:Int)))+1))=E8 (g (2*pq.1+1)) (g (2*nx n (pq.1)+1))/\E6 (g (2*toNat (wrap .i64 (↑j:Int)))) (g (2*nx n (toNat (wrap .i64 (↑j:Int)))))=E6 (g (2*pq.1)) (g (2*nx
 n (pq.1)))/\E6 (g (2*toNat (wrap .i64 (↑j:Int))+1)) (g (2*nx n (toNat (wrap .i64 (↑j:Int)))+1))=E6 (g (2*pq.1+1)) (g (2*nx n (pq.1)+1))/\True)){T6}(t6:T6=(RM.mk (RM.D q) (RM.S q) (RM.F
 q))){T7}(t7:T7=(102=102/\0=0/\a0=a0/\a1=a1/\a2=a2/\a3=a3/\True)){T8}(t8:T8=(102=102/\0=0/\r0=r0/\r1=r1/\r2=r2/\r3=r3/\True)){T9}(t9:T9=λ(i_1:QI)=>(RM.mk (RM.D (QI.q i_1)) (RM.S (QI.q i_1)) (RM.F (QI.q
 i_1)))){T10}(t10:T10=(2*n<=2*n/\∀ (i:Nat),i<2*n->g i=g i)){T11}(t11:T11=(True/\0=0)){T12}(t12:T12=λ(i_1:ApI)=>(R0 (RM.D q) q.2 q.3 1 (slB (q.3 b 1)) (slC (q.3 b 1)) (slL (q.3 b 1)) (slK (q.3 b 1)) 1 [Value.int IntKind.u32
 (wrap IntKind.u32 i)] i_1->(i_1.4 b/\2<=i_1.5 b)/\R (Option.some (Ob.mk true 0 (b9.raw ts (ApI.D i_1) i_1.5 (j7 i_1.6 b 1 (Value.slice (Option.some (Addr.mk i_1.1 i_1.2 Option.none)) (slL (q.3 b 1)+1) i_1.3))) 0)) (SV.tup
 []))){T13}(t13:T13=(16-toNat (wrap .i64 (dp+(1:Int))))){T14}(t14:T14=(Q4.mk r0 r1 r2 r3)){T15}(t15:T15=(16-toNat dp-1)){T16}(t16:T16=λ(j:Nat×RM)=>(cqV T2 (rcF g n (j.1)))){T17}(t17:T17=λ(i_1:QI)=>(RM.mk (RM.D (QI.q
 i_1)) (QI.q i_1).2 (j7 (j7 (QI.q i_1).3 b 1 (QI.v i_1)) b 0 (Value.bool true)))){T18}(t18:T18=(True/\b=b/\0=0)){T19}(t19:T19=λ(i_1:QI)=>(↑(QI.j i_1):Int)){T20}(t20:T20=(2+toNat T3*1)){T21}(t21:T21=(102=102/\0=0/\qb0 T2
 T3=qb0 T2 T3/\qb1 T2 T3=qb1 T2 T3/\qb2 T2 T3=qb2 T2 T3/\qb3 T2 T3=qb3 T2 T3/\True)){T22}(t22:T22=(isSlN (q.3 b 1)/\appO (RM.D q) q.2 1 4 (slB (q.3 b 1)) (slC (q.3 b 1)) (slL (q.3 b 1)) (slK (q.3 b 1)) 1)){T23}(t23:T23=((0:Int)<=cqV
 T2 T14/\cqV T2 T14<(4:Int))){T24}(t24:T24=λ(j:Nat)=>(cqV T2 (T1 j))){T25}(t25:T25=(T18/\T11/\i=i/\dp=dp/\T11/\cqV T2 T14=cqV T2 T14/\T11/\True)){T26}(t26:T26=λ(i_1:QI)=>((QI.q i_1).3 b 1)){T27}(t27:T27=λ(j:Nat×
 RM)=>((j.2).3 b (2+toNat (T16 j)*1))){T28}(t28:T28=(midOk a0 a2/\midOk a1 a3)){T29}(t29:T29=(T6.3 b 1)){T30}(t30:T30=(Q4.mk (qb0 T2 T3) (qb1 T2 T3) (qb2 T2 T3) (qb3 T2 T3))){T31}(t31:T31=λ(j:Nat×RM)=>(Q4.mk (qb0 T2 (T16 j)) (qb1 T2
 (T16 j)) (qb2 T2 (T16 j)) (qb3 T2 (T16 j)))){T32}(t32:T32=λ(pq:Nat×RM)=>(cqV T2 (rcF g n (pq.1)))){T33}(t33:T33=λ(i_1:QI)=>((QI.q i_1).3 (slB (T26 i_1)) (slC (T26 i_1)+toNat (T19 i_1)*1))){T34}(t34:T34=λ(j:Nat)=>(2+toNat
 (T24 j)*1)):O9 (X11 H) 3 [(14,qL ts cl cw cv k x y z w n g a0 a1 a2 a3 r0 r1 r2 r3 q b i dp)] [(10,⟨RM,λq'=>⟨175,[(0, .pb 0 b 0),(1, .ptr 1 0),(4, .int .i64 i),(5, .int .i64 dp),(9, .ptr 4 0),(12, .int .i64 (cqV ⟨a0,a1,a2,a3⟩ ⟨r0,r1,r2,r3⟩)),(13, .ptr 5 0)],qH5 ts cl cw cv k x y z w n g a0 a1 a2 a3 r0 r1 r2 r3 (qbV ⟨a0,a1,a2,a3⟩ (cqV ⟨a0,a1,a2,a3⟩ ⟨r0,r1,r2,r3⟩)) q',6⟩,λq'=>qcP q g n b ⟨a0,a1,a2,a3⟩ (16-dp.toNat-1) (cqV ⟨a0,a1,a2,a3⟩ ⟨r0,r1,r2,r3⟩).toNat q',λ_=>0⟩)] (p7 f117) (A8 f117.ntmps [.pb 0 b 0, .ptr 1 0, .agg [.flt .f64 a0, .flt .f64 a1, .flt .f64 a2, .flt .f64 a3], .agg [.flt .f64 r0, .flt .f64 r1, .flt .f64 r2, .flt .f64 r3], .int .i64 i, .int .i64 dp] [(0,rwO ts q),(1,⟨false,150,a0D cl cw cv k x y z w 2 n,0⟩),(2,⟨false,100, .flts .f64 (2*n) g,0⟩)] 3) (B5 (X11 H).G.E.T f117.results.toList λS v=>R (Go.Sx.look S.H 0) v)=(
 ((dp==(16:Int))=true->(q.1 b/\1<q.2 b)/\∀(i_1:ApI),T22/\(T12 i_1))/\((dp==(16:Int))=false->(q.1 b/\0<q.2 b/\b0N (q.3 b 0))/\(a0E (q.3 b 0)=true->T28/\((cqV T2 T14==(-1:Int))=true->(q.1 b/\1<T6.2 b)/\∀
 (i_1:ApI),(isSlN T29/\appO (RM.D T6) q.2 1 4 (slB T29) (slC T29) (slL T29) (slK T29) 1)/\(R0 (RM.D T6) q.2 q.3 1 (slB T29) (slC T29) (slL T29) (slK T29) 1 [Value.int IntKind.u32 (wrap IntKind.u32 i)] i_1->(i_1.4 b/\2<=i_1.5 b)/\R
 (Option.some (Ob.mk true 0 (b9.raw ts (ApI.D i_1) i_1.5 (j7 i_1.6 b 1 (Value.slice (Option.some (Addr.mk i_1.1 i_1.2 Option.none)) (slL T29+1) i_1.3))) 0)) (SV.tup [])))/\((cqV T2 T14==(-1:Int))=false->(T28/\(0:Int)<=cqV T2 T14/\
 cqV T2 T14<(4:Int))/\(T23/\(q.1 b/\2+toNat T3*1<T6.2 b)/\a4r (T6.3 b T20)/\(U2 (T6.3 b T20)=true->∀(i_1:Nat),¬q.1 i_1->T23/\((b=i_1∨q.1 b)/\2+toNat T3*1+1<=K8 (RM.D T6) q.2 i_1 6 b)/\∃(pq:RM),
 qcP q g n b T2 T15 (toNat T3) pq/\T25/\True/\(0=0/\0=0/\ts=ts/\j7 (J5 (RM.D T6) q.3 i_1 (rz tys 191)) b T20 (Value.pointer (Option.some (Addr.mk i_1 0 Option.none)))=pq.3/\K8 (RM.D T6) q.2 i_1 6=pq.2/\L4 (RM.D T6) i_1
 = RM.D pq)/\True/\T4/\True/\T10/\True/\T7/\True/\T8/\True/\T21/\True)/\(U2 (T6.3 b T20)=false->∃(pq:RM),qcP q g n b T2 T15 (toNat T3) pq/\T25/\True/\(0=0/\0=0/\ts=ts/\q.3=pq.3/\q.2=pq.2/\RM.D T6=RM.D pq)/\
 True/\T4/\True/\T10/\True/\T7/\True/\T8/\True/\T21/\True))/\∀(j:RM),qcP q g n b T2 T15 (toNat T3) j->∀(i_1:RM),T23/\(j.1 b/\2+toNat T3*1<j.2 b)/\((0=ptC (j.3 b T20)/\2*n=2*n/\((0:Int)<=wrap
 .i64 (dp+(1:Int))/\wrap .i64 (dp+(1:Int))<=(16:Int)/\2*T13+a2f (RM.mk (RM.D j) j.2 j.3) (ptB (j.3 b T20))<H)/\((0:Int)<=i/\i<(↑n:Int))/\qiO (RM.mk (RM.D j) j.2 j.3) g n (ptB (j.3 b T20)) T30 T14 (toNat i)
 T13)/\a1w (j.3 b T20))/\true=true/\(qiP (RM.mk (RM.D j) j.2 j.3) g n (ptB (j.3 b T20)) T30 T13 (toNat i) i_1->R (Option.some (Ob.mk true 0 (b9.raw ts (RM.D i_1) i_1.2 i_1.3) 0)) (SV.tup []))))/\(a0E (q.3 b 0)=false->(q.1 b/\1<q.2
 b)/\isSlN (q.3 b 1)/\(((↑(slL (q.3 b 1)):Int)==(32:Int))=true->(∃(pq:QI),qlI q g n b T2 T15 pq/\(T18/\T11/\i=i/\dp=dp/\T11/\T11/\QI.v pq=Value.slice Option.none 0 0/\0=(↑(QI.j pq):Int)/\True)/\True/\(0=0/\0=0
 /\ts=ts/\q.3=(QI.q pq).3/\q.2=(QI.q pq).2/\RM.D q=RM.D (QI.q pq))/\True/\T4/\True/\T10/\True/\T7/\True/\T8/\True)/\∀(i_1:QI),qlI q g n b T2 T15 i_1->((QI.q i_1).1 b/\1<(QI.q i_1).2 b)/\isSlN (T26 i_1)/\(decide ((T19
 i_1)<(↑(slL (T26 i_1)):Int))=true->(((QI.q i_1).1 b/\1<(QI.q i_1).2 b)/\(Go.Sx.isSl (T26 i_1)/\0<=(T19 i_1)/\(T19 i_1)<(↑(slL (T26 i_1)):Int))/\((QI.q i_1).1 (slB (T26 i_1))/\slC (T26 i_1)+toNat (T19 i_1)*1<(QI.q i_1).2
 (slB (T26 i_1))/\C9 IntKind.u32 (T33 i_1))/\∃(j:Nat),qlX q g n b T2 T15 i_1 j/\(T18/\T11/\i=i/\dp=dp/\T11/\T11/\(True/\QI.v i_1=QI.v i_1)/\(T19 i_1)=(T19 i_1)/\p9 (T33 i_1)=(↑j:Int)/\True)/\True/\(0=0/\0=0/\
 ts=ts/\(QI.q i_1).3=(QI.q i_1).3/\(QI.q i_1).2=(QI.q i_1).2/\RM.D (QI.q i_1)=RM.D (QI.q i_1))/\True/\T4/\True/\T10/\True/\T7/\True/\T8/\True)/\∀(j:Nat),qlX q g n b T2 T15 i_1 j->(2*n=2*n/\(0:Int)<=wrap .i64
 (↑j:Int)/\wrap .i64 (↑j:Int)<(↑n:Int)/\n<=1000000)/\T28/\((cqV T2 (T1 j)==(-1:Int))=true->∀(i_2:ApI),(isSlN (QI.v i_1)/\appO (RM.D (T9 i_1)) (QI.q i_1).2 1 4 (slB (QI.v i_1)) (slC (QI.v i_1)) (slL (QI.v i_1)) (slK
 (QI.v i_1)) 1)/\(R0 (RM.D (T9 i_1)) (QI.q i_1).2 (QI.q i_1).3 1 (slB (QI.v i_1)) (slC (QI.v i_1)) (slL (QI.v i_1)) (slK (QI.v i_1)) 1 [Value.int IntKind.u32 (↑j:Int)] i_2->∃(pq:QI),qlI q g n b T2 T15 pq/\32-QI.j pq<32-QI.j i_1/\(T18
 /\T11/\i=i/\dp=dp/\T11/\T11/\(True/\QI.v pq=Value.slice (Option.some (Addr.mk i_2.1 i_2.2 Option.none)) (slL (QI.v i_1)+1) i_2.3)/\wrap .i64 ((T19 i_1)+1)=(↑(QI.j pq):Int)/\True)/\True/\(0=0/\0=0/\ts=ts/\i_2.6
 = (QI.q pq).3/\i_2.5=(QI.q pq).2/\ApI.D i_2=RM.D (QI.q pq))/\True/\T4/\True/\T10/\True/\T7/\True/\T8/\True))/\((cqV T2 (T1 j)==(-1:Int))=false->(T28/\(0:Int)<=cqV T2 (T1 j)/\cqV T2 (T1 j)<(4:Int))/\(((0:Int)<=cqV
 T2 (T1 j)/\cqV T2 (T1 j)<(4:Int))/\((QI.q i_1).1 b/\2+toNat (T24 j)*1<(T9 i_1).2 b)/\a4r ((T9 i_1).3 b (T34 j))/\(U2 ((T9 i_1).3 b (T34 j))=true->∀(i_2:Nat),¬(QI.q i_1).1 i_2->((0:Int)<=cqV T2 (T1 j)/\cqV T2 (T1 j)
 < (4:Int))/\((b=i_2∨(QI.q i_1).1 b)/\2+toNat (T24 j)*1+1<=K8 (RM.D (T9 i_1)) (QI.q i_1).2 i_2 6 b)/\∃(pq:Nat×RM),qlY q g n b T2 T15 i_1 (pq.1) (pq.2)/\(T18/\T11/\i=i/\dp=dp/\T11/\T11/\(True/\QI.v i_1=QI.v
 i_1)/\(T19 i_1)=(T19 i_1)/\(↑j:Int)=(↑(pq.1):Int)/\T11/\cqV T2 (T1 j)=cqV T2 (rcF g n (Prod.fst pq))/\T11/\True)/\True/\(0=0/\0=0/\ts=ts/\j7 (J5 (RM.D (T9 i_1)) (QI.q i_1).3 i_2 (rz tys 191)) b (T34 j) (Value.pointer
 (Option.some (Addr.mk i_2 0 Option.none)))=(pq.2).3/\K8 (RM.D (T9 i_1)) (QI.q i_1).2 i_2 6=(pq.2).2/\L4 (RM.D (T9 i_1)) i_2=RM.D (pq.2))/\True/\T4/\True/\T10/\True/\T7/\True/\T8/\True/\(T5 j pq)/\True/\(102=102/\0=0/\
 qb0 T2 (T24 j)=qb0 T2 (T32 pq)/\qb1 T2 (T24 j)=qb1 T2 (cqV T2 (rcF g n (Prod.fst pq)))/\qb2 T2 (T24 j)=qb2 T2 (T32 pq)/\qb3 T2 (T24 j)=qb3 T2 (T32 pq)/\True)/\True)/\(U2 ((T9 i_1).3 b (T34 j))=false->∃(pq:Nat×RM),qlY q g n b
 T2 T15 i_1 (pq.1) (pq.2)/\(T18/\T11/\i=i/\dp=dp/\T11/\T11/\(True/\QI.v i_1=QI.v i_1)/\(T19 i_1)=(T19 i_1)/\(↑j:Int)=(↑(pq.1):Int)/\T11/\cqV T2 (T1 j)=cqV T2 (rcF g n (pq.1))/\T11/\True)/\True/\(0=0/\0=0/\ts=ts
 /\(QI.q i_1).3=(pq.2).3/\(QI.q i_1).2=(pq.2).2/\RM.D (T9 i_1)=RM.D (pq.2))/\True/\T4/\True/\T10/\True/\T7/\True/\T8/\True/\(T5 j pq)/\True/\(102=102/\0=0/\qb0 T2 (T24 j)=qb0 T2 (cqV T2 (rcF g n (Prod.fst pq)))/\qb1 T2
 (T24 j)=qb1 T2 (T32 pq)/\qb2 T2 (T24 j)=qb2 T2 (T32 pq)/\qb3 T2 (T24 j)=qb3 T2 (cqV T2 (rcF g n (Prod.fst pq)))/\True)/\True))/\∀(j:Nat×RM),qlY q g n b T2 T15 i_1 (j.1) (j.2)->∀(i_2:RM),((0:Int)<=cqV T2 (rcF g n (j.1))/\cqV
 T2 (rcF g n (j.1))<(4:Int))/\((j.2).1 b/\2+toNat (T16 j)*1<(j.2).2 b)/\((0=ptC (T27 j)/\2*n=2*n/\((0:Int)<=wrap .i64 (dp+(1:Int))/\wrap .i64 (dp+(1:Int))<=(16:Int)/\2*T13+a2f (RM.mk
 (RM.D (j.2)) (j.2).2 (j.2).3) (ptB (T27 j))<H)/\((0:Int)<=wrap .i64 (↑(j.1):Int)/\wrap .i64 (↑(j.1):Int)<(↑n:Int))/\qiO (RM.mk (RM.D (j.2)) (j.2).2 (j.2).3) g n (ptB (T27 j)) (T31 j) (Q4.mk (E8 (g (2*j.1)) (g (2 *
 nx n (j.1)))) (E8 (g (2*j.1+1)) (g (2*nx n (j.1)+1))) (E6 (g (2*j.1)) (g (2*nx n (j.1)))) (E6 (g (2*j.1+1)) (g (2*nx n (j.1)+1)))) (toNat (wrap .i64 (↑(j.1):Int))) T13)/\a1w (T27 j))/\true=true/\(qiP
 (RM.mk (RM.D (j.2)) (j.2).2 (j.2).3) g n (ptB ((j.2).3 b (2+toNat (cqV T2 (rcF g n (Prod.fst j)))*1))) (T31 j) T13 (toNat (wrap .i64 (↑(j.1):Int))) i_2->∃(pq:QI),qlI q g n b T2 T15 pq/\32-QI.j pq<32-QI.j i_1/\(T18/\
 T11/\i=i/\dp=dp/\T11/\T11/\(True/\QI.v i_1=QI.v pq)/\wrap .i64 ((T19 i_1)+1)=(↑(QI.j pq):Int)/\True)/\True/\(0=0/\0=0/\ts=ts/\i_2.3=(QI.q pq).3/\i_2.2=(QI.q pq).2/\RM.D i_2=RM.D (QI.q pq))/\True/\T4/\
 True/\T10/\True/\T7/\True/\T8/\True)))/\(decide ((T19 i_1)<(↑(slL (T26 i_1)):Int))=false->(((QI.q i_1).1 b/\2<=(QI.q i_1).2 b)/\Value.oneCell' (QI.v i_1)=true)/\((QI.q i_1).1 b/\1<=(QI.q i_1).2 b)/\∀(i_2:RM),(0=0/\2*n
 = 2*n/\((0:Int)<=dp/\dp<=(16:Int)/\2*(16-toNat dp)+a2f (T17 i_1) b<H)/\((0:Int)<=i/\i<(↑n:Int))/\qiO (T17 i_1) g n b T2 T14 (toNat i) (16-toNat dp))/\(qiP (T17 i_1) g n b T2 (16-toNat dp) (toNat
 i) i_2->R (Option.some (Ob.mk true 0 (b9.raw ts (RM.D i_2) i_2.2 i_2.3) 0)) (SV.tup []))))/\(((↑(slL (q.3 b 1)):Int)==(32:Int))=false->(q.1 b/\1<q.2 b)/\∀(i_1:ApI),T22/\(T12 i_1))))):=by subst t1 t2 t3 t4 t5 t6 t7 t8 t9 t10 t11 t12 t13 t14 t15 t16 t17 t18 t19 t20 t21 t22 t23 t24 t25 t26 t27 t28 t29 t30 t31 t32 t33 t34;kernel_rfl
theorem c9h(H:Nat)(ih:A5 prog 117 (q7 RM ⟨default⟩ (a6U H))):A5 prog 117 (q7 (RM) ⟨default⟩ (c2g (H+1))):=by
 refine E4 (x11 H ih) func117 rfl (by kernel_rfl) λargs=>?_
 unfold c2g;split;rotate_left;trivial;rename_i nn b c s a0 a1 a2 a3 r0 r1 r2 r3 i dp;intro o0;try dsimp only
 split;rotate_left;trivial;rename_i ts q hm0;intro o1;try dsimp only
 split;rotate_left;trivial;rename_i cl cw cv k x y z w p n hm1;intro o2;try dsimp only
 split;rotate_left;trivial;rename_i m2 g hm2;intro ho;replace ho:0=c/\m2=2*n/\((0<=dp/\dp<=16/\2*(16-dp.toNat)+a2f q b<(H+1))/\(0<=i/\i<n)/\qiO q g n b ⟨a0,a1,a2,a3⟩ ⟨r0,r1,r2,r3⟩ i.toNat (16-dp.toNat)):=ho;obtain⟨heq0,hsz2,ho⟩:=ho;subst heq0;subst hsz2
 refine⟨?_,Nat.succ_pos _,ts,λ(j:RM)=>j,λ(j:RM)=>.tup [],λ_=>rfl,?_,_,_,(c0t (K0 3 ts (λ(j:RM)=>qiP q g n b ⟨a0,a1,a2,a3⟩ (16-dp.toNat) i.toNat j) (λ(j:RM)=>j) (λ(j:RM)=>.tup [])) H ts q b cl cw cv k x y z w p n a0 a1 a2 a3 r0 r1 r2 r3 i dp g rfl rfl rfl rfl rfl rfl rfl rfl rfl rfl rfl rfl rfl rfl rfl rfl rfl rfl rfl rfl rfl rfl rfl rfl rfl rfl rfl rfl rfl rfl rfl rfl rfl rfl).mpr ?_⟩
 ·refine l9 rfl ⟨λ_=>rfl,?_,⟨trivial,C6 hm0,⟨trivial,U8 hm1 a9,⟨trivial,(A2 hm2).1,trivial⟩⟩⟩⟩;simp[y5,z6,A4,C5,z7,z5,nth,a9]
 ·intro j _;rfl
 ·obtain⟨⟨dp0,dp16,hK⟩,⟨i0,i1⟩,⟨hd16,hQ,hn⟩,hr,hit,k0,hk,hl⟩:=ho;obtain⟨t,rfl⟩:∃ t:Nat,i=(t:Nat):=⟨i.toNat,by omega⟩;obtain⟨d,rfl,hd⟩:∃ d:Nat,dp=((16-d:Nat):Int)/\d<=16:=⟨16-dp.toNat,by omega,by omega⟩;have hdd:16-(16-d)=d:=by omega
  simp only[hdd,tN9]at hK hd16 hQ hr hit hk;obtain⟨c1,c2,c3,c4,c5⟩:=hk.cells;have hu:wrap .u32 (t:Int)=t:=by show (t:Int) % 4294967296=_;omega
  simp only[true_and,and_true,eq_self,tN9,Nat.mul_one,decide_eq_true_eq,decide_eq_false_iff_not,implies_true];simp only[hdd,hu,hr];refine⟨λh=>?_,λh=>⟨⟨c1,by omega,c3⟩,λhs=>?_,λhs=>?_⟩⟩
  ·have h0:d=0:=by
    have:(((16-d:Nat):Int))=16:=by simpa using h
    omega
   subst h0;refine⟨⟨c1,by omega⟩,λj=>⟨⟨c4,c5⟩,λhp=>?_⟩⟩;obtain⟨e1,e2⟩:=c3A hk hit hp;exact⟨e1,_,e2,rfl,trivial⟩
  ·have h0:d≠0:=λe=>by rw[e]at h;exact absurd h (by decide)
   obtain⟨e,rfl⟩:∃ e,d=e+1:=⟨d-1,by omega⟩;have hmid:midOk a0 a2/\midOk a1 a3:=hQ.midOk (by omega);generalize (⟨a0,a1,a2,a3⟩:Q4)=A at *;refine⟨hmid,λhc=>⟨⟨c1,by omega⟩,λj=>⟨⟨c4,c5⟩,λhp=>?_⟩⟩,λhc=>?_⟩
   ·obtain⟨e1,e2⟩:=b6U hk (.inl hs) hit hp;exact⟨e1,_,e2,rfl,trivial⟩
   obtain⟨⟨hc0,hc4⟩,hcI⟩:(0<=cqV A (rcF g n t)/\cqV A (rcF g n t)<4)/\inQ (qbV A (cqV A (rcF g n t))) (rcF g n t):=by
    rcases b4T (by omega) hQ hit.2.1 hit.2.2 with h1|h1
    ·rw[h1]at hc;exact absurd hc (by decide)
    ·exact h1
   refine⟨⟨hmid,hc0,hc4⟩,⟨⟨hc0,hc4⟩,⟨c1,by omega⟩,hk.kidc (by omega),λhn z hz=>?_,λhn=>⟨q,c4t hk hs (by omega) hn,⟨rfl,rfl,rfl⟩,Nat.le_refl _⟩⟩,?_⟩
   ·simp only[R1 hz,R3 hz];refine⟨⟨hc0,hc4⟩,⟨.inr c1,?_⟩,_,c3R hk hs (by omega) hn hz,⟨rfl,rfl,rfl⟩,Nat.le_refl _⟩;have:b≠z:=λe=>hz (e▸c1)
    simp only[E5];rw[if_neg this];omega
   rintro q' ⟨k1,v,E,ks,y,hq⟩;obtain rfl:k1=k0:=hk.uniq hq.hk;obtain⟨⟨d1,d2⟩,d3,d4,d5⟩:=b8E hq hl;have hw:IntKind.i64.wrap (((16-(e+1):Nat):Int)+1)=((16-e:Nat):Int):=by rw[j8 (by omega) (by omega)];omega
   have hce:(((cqV A (rcF g n t)).toNat:Nat):Int)=cqV A (rcF g n t):=by omega
   have hee:16-(16-e)=e:=by omega
   rw[hce]at d4;have hsp:=a9G q' y.b;intro q'';simp only[hw,d3,hee,tN9,ptB,ptC];refine⟨⟨hc0,hc4⟩,⟨d1,by omega⟩,⟨⟨trivial,⟨by omega,by omega,?_⟩,⟨by omega,by omega⟩,⟨⟨by omega,hQ.sub (by omega) _,hn⟩,rfl,⟨hit.1,hit.2.1,hcI⟩,y,d4,d5⟩⟩,rfl⟩,λhP=>⟨_,c3Q hq hl (by rw[hce];exact hP),rfl,trivial⟩⟩;show 2*e+a2f q' y.b<H;omega
  ·have h0:d≠0:=λe=>by rw[e]at h;exact absurd h (by decide)
   obtain⟨e,rfl⟩:∃ e,d=e+1:=⟨d-1,by omega⟩;have hmid:midOk a0 a2/\midOk a1 a3:=hQ.midOk (by omega);have hrc:∀ j,Q4.mk (E8 (g (2*j)) (g (2*nx n j))) (E8 (g (2*j+1)) (g (2*nx n j+1))) (E6 (g (2*j)) (g (2*nx n j))) (E6 (g (2*j+1)) (g (2*nx n j+1)))=rcF g n j:=λ_=>rfl
   generalize (⟨a0,a1,a2,a3⟩:Q4)=A at *;refine⟨⟨c1,by omega⟩,c4,λhl2=>⟨⟨_,c0A hk hs ?_,⟨rfl,rfl⟩,⟨rfl,rfl,rfl⟩,Nat.le_refl _⟩,?_⟩,λhl2=>⟨⟨c1,by omega⟩,λj=>⟨⟨c4,c5⟩,λhp=>?_⟩⟩⟩
   ·have:((slL (q.F b 1):Nat):Int)=32:=by simpa using hl2
    omega
   ·rintro⟨sj,sv,sq⟩ ⟨k1,v,E,N,ks,hq,hne⟩;obtain rfl:k1=k0:=hk.uniq hq.hk;obtain⟨⟨b1,b2⟩,b3,b4,b5⟩:=b1d hq;dsimp only at b1 b2 b3;simp only[b3,b5];have hw1:IntKind.i64.wrap (((16-(e+1):Nat):Int)+1)=((16-e:Nat):Int):=by rw[j8 (by omega) (by omega)];omega
    have hee:16-(16-e)=e:=by omega
    refine⟨⟨b1,by omega⟩,b4,λhj=>⟨?_,?_⟩,λhj=>?_⟩
    ·obtain⟨x,x1,x2,x3,x4⟩:=b9N hq (by show sj<32;omega);dsimp only at x1 x2 x3 x4;exact⟨⟨b1,by omega⟩,⟨x2,by omega,by omega⟩,⟨x3.1,x3.2,by rw[x4];rfl⟩,x,⟨k1,v,E,N,ks,hq,x1,hne⟩,by rw[x4];rfl,Nat.le_refl _⟩
    ·rintro j ⟨k2,v2,E2,N2,ks2,hq2,hx,hne2⟩;obtain rfl:k2=k1:=hk.uniq hq2.hk;obtain⟨o1,o2⟩:=b4y hq2 hx;have hjn:j<n:=o1.1;have hw:IntKind.i64.wrap (j:Int)=j:=j8 (by omega) (by omega);have hcs:=b4T (by omega) hQ o1.2.1 o1.2.2;have hlen:=b0y hq2;have hNn:=hq2.w.n;dsimp only at hNn o2 hx;have hws:IntKind.i64.wrap ((sj:Int)+1)=((sj+1:Nat):Int):=by rw[j8 (by omega) (by omega)];omega
     simp only[hw,tN9,hrc,hws];refine⟨⟨by omega,by omega,hn⟩,hmid,λhc=>λi=>⟨hq2.w.appO (by omega),λhp=>⟨_,b9E hq2 hne2 hx hp,by show 32-(sj+1)<32-sj;omega,⟨rfl,rfl⟩,⟨rfl,rfl,rfl⟩,Nat.le_refl _⟩⟩,λhc=>?_⟩
     obtain⟨⟨hc0,hc4⟩,hcI⟩:(0<=cqV A (rcF g n j)/\cqV A (rcF g n j)<4)/\inQ (qbV A (cqV A (rcF g n j))) (rcF g n j):=by
      rcases hcs with h1|h1
      ·rw[h1]at hc;exact absurd hc (by decide)
      ·exact h1
     have hck:=hq2.p.a.kid (c:=(cqV A (rcF g n j)).toNat) (by omega);refine⟨⟨hmid,hc0,hc4⟩,⟨⟨hc0,hc4⟩,⟨b1,by omega⟩,?_,λhnl z hz=>?_,λhnl=>⟨(j,sq),c4i hq2 hne2 hx ⟨hc0,hc4,hcI⟩ hnl,⟨rfl,rfl⟩,⟨rfl,rfl,rfl⟩,Nat.le_refl _,⟨rfl,rfl,rfl,rfl⟩,⟨rfl,rfl,rfl,rfl⟩⟩⟩,?_⟩
     ·obtain⟨o,_,h5⟩:=hck;dsimp only at h5;rw[h5];exact a4T o
     ·simp only[R1 hz,R3 hz];have hbz:b≠z:=λe=>hz (e▸b1)
      refine⟨⟨hc0,hc4⟩,⟨.inr b1,by simp only[E5];rw[if_neg hbz];omega⟩,(j,_),c3M hq2 hne2 hx ⟨hc0,hc4,hcI⟩ hnl hz,⟨rfl,rfl⟩,⟨rfl,rfl,rfl⟩,Nat.le_refl _,⟨rfl,rfl,rfl,rfl⟩,⟨rfl,rfl,rfl,rfl⟩⟩
     rintro⟨j2,q2⟩ ⟨k3,v3,E3,N3,ks3,y,hq3,hx3,⟨hc0,hc4,hcI⟩,hy,hne3⟩;dsimp only at hx3 hy hc0 hc4 hcI ⊢;obtain rfl:k3=k2:=hk.uniq hq3.hk;obtain⟨o3,_⟩:=b4y (s:=⟨sj,sv,q2⟩) hq3 hx3;have hlen3:=b0y hq3;have hj2:j2<n:=o3.1;have hw2:IntKind.i64.wrap (j2:Int)=j2:=j8 (by omega) (by omega);obtain⟨d3,d4⟩:=hq3.p.sub hy (by omega);have hyl:=a9m hy;have hce:(((cqV A (rcF g n j2)).toNat:Nat):Int)=cqV A (rcF g n j2):=by omega
     have hsp:=a9G q2 y.b;have hsp0:a2f q b=1:=by unfold a2f;rw[hs];rfl
     have d3':q2.F b (2+(cqV A (rcF g n j2)).toNat)=.pointer (some ⟨y.b,0,none⟩):=d3;have d2':q2.S b=6:=hq3.p.a.S;simp only[hw1,hw2,d3',hee,tN9,ptB,ptC];rw[hce]at d4;refine λq4=>⟨⟨hc0,hc4⟩,⟨hq3.p.a.D,by omega⟩,⟨⟨trivial,⟨by omega,by omega,?_⟩,⟨by omega,by omega⟩,⟨⟨by omega,hQ.sub (by omega) _,hn⟩,rfl,⟨o3.1,o3.2.1,hcI⟩,y,d4,by omega⟩⟩,rfl⟩,λhP=>⟨_,b8I (s:=⟨sj,sv,q2⟩) hq3 hx3 hy hne3 (by rw[hce];exact hP),by show 32-(sj+1)<32-sj;omega,⟨rfl,rfl⟩,⟨rfl,rfl,rfl⟩,Nat.le_refl _⟩⟩
     show 2*e+a2f q2 y.b<H;omega
    ·obtain⟨k2,f1,f2,f3⟩:=c4C hq hne (by show ¬sj<32;omega);dsimp only at f1 f2 f3
     have hsv:sv.oneCell'=true:=by
      rcases hq.w.sl with e1|e1
      ·have e1:sv=_:=e1;rw[e1];rfl
      ·have e1:sv=_:=e1;rw[e1];rfl
     have hsp0:a2f q b=1:=by unfold a2f;rw[hs];rfl
     have hsp1:a2f ⟨sq.D,sq.S,j7 (j7 sq.F b 1 sv) b 0 (.bool true)⟩ b=0:=by
      have e0:a0E ((j7 (j7 sq.F b 1 sv) b 0 (.bool true)) b 0)=true:=by
       rw[show (j7 (j7 sq.F b 1 sv) b 0 (.bool true)) b 0=.bool true from A6];rfl
      exact if_pos e0
     refine⟨⟨⟨b1,by omega⟩,hsv⟩,⟨b1,by omega⟩,λq4=>⟨⟨⟨by omega,by omega,by rw[hsp1];omega⟩,⟨by omega,by omega⟩,⟨⟨by omega,hQ,hn⟩,rfl,hit,k2,f1,f2⟩⟩,λhP=>⟨_,f3 _ _ hP,rfl,trivial⟩⟩⟩
   ·have e0:slL (q.F b 1)≠32:=λe1=>by rw[e1]at hl2;exact absurd hl2 (by decide)
    obtain⟨e1,e2⟩:=b6U hk (.inr e0) hit hp;exact⟨e1,_,e2,rfl,trivial⟩
theorem b6a:A5 prog 117 (q7 RM ⟨default⟩ (a6U 0)):=by
 refine a1W x0 func117 rfl (by kernel_rfl) λargs=>?_
 unfold a6U;split;rotate_left;trivial;rename_i nn b c s a0 a1 a2 a3 r0 r1 r2 r3 i dp;intro o0;try dsimp only
 split;rotate_left;trivial;intro o1;try dsimp only
 split;rotate_left;trivial;intro o2;try dsimp only
 split;rotate_left;trivial;intro ho;exfalso;obtain⟨_,_,⟨_,_,h2⟩,_⟩:=ho;omega
theorem b3Y:∀ H,A5 prog 117 (q7 RM ⟨default⟩ (a6U H))
 | 0=>b6a
 | H+1=>c9h H (b3Y H)
end
structure EQ where
 a:Nat
 e:Nat
 its:List Nat
def b9r:Option EQ->List Nat
 | none=>[]
 | some k=>k.its
def qsz{α:Type}:Option α->Nat
 | none=>1
 | some _=>5
def K6{α:Type}(ks:List (Option α))(t:Nat):Nat:=((ks.take t).map qsz).sum
structure a7l (g:Nat->Int) (a w:Nat) (E:List Nat):Prop where
 hw:w=1∨w=2∨w=4
 hg:g a=(w:Nat)
 hn:leN g (a+1) w=(E.length:Nat)
 hi:∀(j x:Nat),E[j]? = some x->leN g (a+1+w+w*j) w=(x:Nat)
def a5A(g : Nat -> Int)(R : Nat -> Q4)(m : Nat) : Nat -> Nat -> Nat -> Q4 -> List Nat -> Prop
 | 0, a, e, Q, its => ∃ w, a7l g a w its /\ a + 2 + w + w * its.length <= e /\ g (a + 1 + w + w * its.length) = 0 /\ ∀ x ∈ its, a2A R m Q x
 | d + 1, a, e, Q, its => ∃(w : Nat)(E : List Nat)(ks : List (Option EQ)), a7l g a w E /\ its = E ++ ks.flatMap b9r /\ (∀ x ∈ E, a2A R m Q x) /\
     ((ks = [] /\ a + 2 + w + w * E.length <= e /\ g (a + 1 + w + w * E.length) = 0) ∨
      (ks.length = 4 /\ g (a + 1 + w + w * E.length) = 1 /\ a + 2 + w + w * E.length + K6 ks 4 <= e /\ (∀ t, ks[t]? = some none -> g (a + 2 + w + w * E.length + K6 ks t) = 0) /\
       ∀ t k, ks[t]? = some (some k) -> g (a + 2 + w + w * E.length + K6 ks t) = 1 /\ leN g (a + 2 + w + w * E.length + K6 ks t + 1) 4 = (k.a : Nat) /\
         a + 2 + w + w * E.length + K6 ks 4 <= k.a /\ k.e <= e /\ a5A g R m d k.a k.e (qbV Q (t : Int)) k.its))
theorem a7l.congr{g g':Nat->Int}{a w:Nat}{E:List Nat}(h:a7l g a w E)(hg:∀ p,a<=p->p<a+1+w+w*E.length->g' p=g p):a7l g' a w E where
 hw:=h.hw
 hg:=by rw[hg _ (by omega) (by omega)];exact h.hg
 hn:=by rw[N9 λi hi=>hg _ (by omega) (by omega)];exact h.hn
 hi:=λj x hj=>by
  have hlt:=(List.getElem?_eq_some_iff.1 hj).1;have hm:w*(j+1)<=w*E.length:=Nat.mul_le_mul_left w hlt;rw[Nat.mul_add,Nat.mul_one]at hm;rw[N9 λi hi=>hg _ (by omega) (by omega)];exact h.hi j x hj
theorem b4d{α:Type}:∀(ks:List (Option α))(t s:Nat),t<=s->K6 ks t<=K6 ks s
 | [],t,s,_=>by simp[K6]
 | o :: r,0,s,_=>by simp[K6]
 | o :: r,t+1,0,h=>absurd h (by omega)
 | o :: r,t+1,s+1,h=>by
  have:=b4d r t s (by omega);simp only[K6,List.take_succ_cons,List.map_cons,List.sum_cons]at *;omega
theorem a4K{α:Type}{ks:List (Option α)}{t:Nat}{o:Option α}(h:ks[t]? = some o):K6 ks (t+1)=K6 ks t+qsz o:=by
 unfold K6;rw[List.take_add_one,h];simp
theorem a3v{g g':Nat->Int}{R:Nat->Q4}{m:Nat}:∀ {d a e:Nat} {Q:Q4} {its:List Nat},a5A g R m d a e Q its->(∀ p,a<=p->p<e->g' p=g p)->a5A g' R m d a e Q its
 | 0,a,e,Q,its,⟨w,h1,h2,h3,h4⟩,hg=>⟨w,h1.congr λp p1 p2=>hg p p1 (by omega),h2,by rw[hg _ (by omega) (by omega)];exact h3,h4⟩
 | d+1,a,e,Q,its,⟨w,E,ks,h1,h2,h3,h4⟩,hg=>by
  have hlo:a+2+w+w*E.length<=e:=by
   rcases h4 with h4|h4
   ·exact h4.2.1
   ·have:=h4.2.2.1;omega
  refine⟨w,E,ks,h1.congr λp p1 p2=>hg p p1 (by omega),h2,h3,?_⟩;rcases h4 with⟨k1,k2,k3⟩|⟨k1,k2,k3,k4,k5⟩
  ·exact .inl ⟨k1,k2,by rw[hg _ (by omega) (by omega)];exact k3⟩
  ·have hsz:∀ {t:Nat} {o:Option EQ},ks[t]? = some o->K6 ks t+qsz o<=K6 ks 4:=fun {t o} ht=>by
    have:=(List.getElem?_eq_some_iff.1 ht).1;rw[<-a4K ht];exact b4d ks _ _ (by omega)
   refine .inr ⟨k1,by rw[hg _ (by omega) (by omega)];exact k2,k3,λt ht=>?_,λt k ht=>?_⟩
   ·have:=hsz ht;simp only[qsz]at this;rw[hg _ (by omega) (by omega)];exact k4 t ht
   ·have:=hsz ht;simp only[qsz]at this;obtain⟨l1,l2,l3,l4,l5⟩:=k5 t k ht;refine⟨by rw[hg _ (by omega) (by omega)];exact l1,by rw[N9 λi hi=>hg _ (by omega) (by omega)];exact l2,l3,l4,a3v l5 λp p1 p2=>hg p (by omega) (by omega)⟩
def qBy(d n:Nat):Nat:=26*(1+d*n)+4*n
def kBy(d:Nat):Option QK->Nat
 | none=>0
 | some x=>qBy d x.its.length
theorem a9x{d:Nat}:∀ {ks:List (Option QK)},(∀ x,some x∈ks->1<=x.its.length)->(ks.map (kBy d)).sum<=26*((d+1)*(ks.flatMap R7).length)+4*(ks.flatMap R7).length
 | [],_=>by simp
 | none :: r,h=>by
  have:=a9x (d:=d) (ks:=r) λx hx=>h x (List.mem_cons_of_mem _ hx)
  simpa [kBy,R7]using this
 | some x :: r,h=>by
  have h1:=a9x (d:=d) (ks:=r) λx hx=>h x (List.mem_cons_of_mem _ hx)
  have h2:=h x (by simp);simp only[List.map_cons,List.sum_cons,List.flatMap_cons,List.length_append,kBy,R7,qBy,Nat.mul_add,Nat.add_mul]at *;omega
theorem b1b{d:Nat}{ks:List (Option QK)}(h:kne ks)(E:List Nat):26+4*E.length+(ks.map (kBy d)).sum<=qBy (d+1) (E++ks.flatMap R7).length:=by
 have h1:=a9x (d:=d) (ks:=ks) λx hx=>by
  obtain⟨j,hj,e⟩:=List.getElem_of_mem hx;exact h j x (by rw[List.getElem?_eq_getElem hj,e])
 have h2:(d+1)*(ks.flatMap R7).length<=(d+1)*(E++ks.flatMap R7).length:=Nat.mul_le_mul_left _ (by simp);simp only[qBy,List.length_append]at *;omega
structure qmA (q:RM) (R:Nat->Q4) (m d b0:Nat) (Q:Q4) (k:QK) (b:Nat):Prop where
 t:isQT q R m d Q k
 kb:k.b=b0
 nd:k.fp.Nodup
 le:k.its.length<=1000
 bf:b∉k.fp
 lt:∀ x∈k.its,x<4294967296
def qnL(q:RM)(b0:Nat):Nat:=slL (q.F b0 1)
def qit(q:RM)(b0 t:Nat):Int:=p9 (q.F (slB (q.F b0 1)) (slC (q.F b0 1)+t))
def a4C(q:RM)(b0 t:Nat):Bool:=U2 (q.F b0 (2+t))
def qhI(q:RM)(b0:Nat)(w:Int)(j:Nat):List Int:=[w]++byL (qnL q b0:Nat) w.toNat++(List.range j).flatMap λt=>byL (qit q b0 t) w.toNat
def qfl(q:RM)(b0 t:Nat):List Int:=if a4C q b0 t=true then [0]else [1,0,0,0,0]
def qhF(q:RM)(b0:Nat)(w:Int)(j:Nat):List Int:=qhI q b0 w (qnL q b0)++[1]++(List.range j).flatMap (qfl q b0)
def qmP(q:RM)(b0:Nat)(Q:Q4)(b c l:Nat)(i:DI):Prop:=∀ R m d k,qmA q R m d b0 Q k b->l+qBy d k.its.length<=100000000->∃ us,apd q b c l us i/\us.length<=qBy d k.its.length/\a5A (bG i) R m d l i.l Q k.its
def qmO(q:RM)(b0:Nat)(Q:Q4)(b c l kk K:Nat):Prop:=byO q b c l kk/\∃ R m d k,qmA q R m d b0 Q k b/\l+qBy d k.its.length<=100000000/\d<K/\d<=16/\QB d Q
structure QC where
 i:DI
 j:Nat
 w:Int
 g:Nat->Int
def q1P(q:RM)(b0:Nat)(p:Nat×Int):Prop:=p.1<=qnL q b0/\wOk p.2/\nbI (qnL q b0:Nat)<=p.2/\∀ t,t<p.1->nbI (qit q b0 t)<=p.2
def q2P(q:RM)(b0 b c l:Nat)(p:C1):Prop:=apd q b c l (qhI q b0 p.w p.j) p.i/\q1P q b0 (qnL q b0,p.w)/\p.j<=qnL q b0
def q3M(q:RM)(b0 l:Nat)(w:Int)(j:Nat)(g:Nat->Int):Prop:=∀ t,t<j->a4C q b0 t=false->g t=((l+(qhF q b0 w t).length+1:Nat):Int)
def q3P(q:RM)(b0 b c l:Nat)(p:QC):Prop:=a0E (q.F b0 0)=true/\apd q b c l (qhF q b0 p.w p.j) p.i/\q1P q b0 (qnL q b0,p.w)/\p.j<=4/\q3M q b0 l p.w p.j p.g
def q4K(q:RM)(R:Nat->Q4)(m d b0:Nat)(Q:Q4)(b c l:Nat)(p:QC)(k:QK):Prop:=∃ us v E ks,apd q b c l us p.i/\qpN q R m d Q b0 true v E ks []/\kne ks/\k.its=E++ks.flatMap R7/\k.fp=b0 :: (fpU v++ks.flatMap kfp)/\
 (∀ t,t<(qhI q b0 p.w (qnL q b0)++[1]).length->bG p.i (l+t)=(qhI q b0 p.w (qnL q b0)++[1]).getD t 0)/\
 (∀ t,t<4->bG p.i (l+(qhF q b0 p.w t).length)=if a4C q b0 t=true then 0 else 1)/\(qhF q b0 p.w 4).length<=us.length/\
 us.length<=26+4*E.length+((ks.take p.j).map (kBy d)).sum/\
 ∀ t x,t<p.j->ks[t]? = some (some x)->∃ a e,leN (bG p.i) (l+(qhF q b0 p.w t).length+1) 4=(a:Nat)/\l+(qhF q b0 p.w 4).length<=a/\e<=p.i.l/\a5A (bG p.i) R m d a e (qbV Q (t:Int)) x.its
def q4P(q:RM)(b0:Nat)(Q:Q4)(b c l:Nat)(p:QC):Prop:=a0E (q.F b0 0)=true/\q1P q b0 (qnL q b0,p.w)/\p.j<=4/\q3M q b0 l p.w 4 p.g/\
 ∀ R m d k,qmA q R m (d+1) b0 Q k b->l+qBy (d+1) k.its.length<=100000000->q4K q R m d b0 Q b c l p k
theorem apd.refl{q:RM}{b c l kk:Nat}(h:byO q b c l kk):apd q b c l [] ⟨q,b,c,l,kk⟩ where
 o:=h
 n:=by simp
 old:=λ_ _=>rfl
 new:=λj x hx=>by simp at hx
 keep:=λx hx=>⟨hx,rfl,λ_ _=>rfl⟩
 nw:=.inl rfl
section
variable {q:RM} {R:Nat->Q4} {m d b0 b c l:Nat} {Q:Q4} {k:QK}
theorem qmA.node(h:qmA q R m d b0 Q k b):∃ sp v E ks,qnA q b0 sp v E ks/\(∀ y∈fpU v,y∈k.fp)/\b0∈k.fp/\E.length<=k.its.length/\(∀ x∈E,x∈k.its/\a2A R m Q x)/\(sp=false->ks=nok/\k.its=E):=by
 have hb:=h.kb;subst hb
 cases d with
 | zero =>
  obtain⟨v,E,h1,h2,h3,h4⟩:=h.t;exact⟨_,v,E,_,h1,λy hy=>by rw[h2];exact List.mem_cons_of_mem _ hy,by rw[h2];simp,by rw[h3];exact Nat.le_refl _,λx hx=>⟨by rw[h3];exact hx,h4 x hx⟩,λ_=>⟨rfl,h3⟩⟩
 | succ d =>
  obtain⟨sp,v,E,ks,h1,h0,h2,h3,h4,h5,h6⟩:=h.t;refine⟨sp,v,E,ks,h1,λy hy=>by rw[h2];exact List.mem_cons_of_mem _ (List.mem_append_left _ hy),by rw[h2];simp,by rw[h3];simp,λx hx=>⟨by rw[h3];exact List.mem_append_left _ hx,h4 x hx⟩,λe=>⟨(h0 e).1,?_⟩⟩;rw[h3,(h0 e).1,a6k];simp
theorem qmA.bne(h:qmA q R m d b0 Q k b):b0≠b:=λe=>by
 obtain⟨_,_,_,_,_,_,h1,_⟩:=h.node;exact h.bf (e▸h1)
theorem qmA.off(h:qmA q R m d b0 Q k b){us:List Int}{i:DI}(hp:apd q b c l us i):(i.q.D b0/\i.q.S b0=6)/\∀ y,i.q.F b0 y=q.F b0 y:=by
 obtain⟨sp,v,E,ks,h1,_⟩:=h.node;have h2:=hp.keep _ h1.D;exact⟨⟨h2.1,h2.2.1.trans h1.S⟩,h2.2.2 h.bne⟩
theorem qmA.sl(h:qmA q R m d b0 Q k b):isSlN (q.F b0 1)/\b0N (q.F b0 0)/\qnL q b0<=1000/\(∀ t,t<4->a4r (q.F b0 (2+t)))/\(q.D b0/\q.S b0=6):=by
 obtain⟨sp,v,E,ks,h1,h2,h3,h4,_⟩:=h.node;have h5:=h.le;refine⟨by rw[h1.s1];exact h1.u.sl,by rw[h1.s0];rfl,?_,λt ht=>?_,h1.D,h1.S⟩
 ·unfold qnL;rw[h1.s1,h1.u.n];omega
 ·obtain⟨o,_,h6⟩:=h1.kid ht;rw[h6];exact a4T o
theorem qmA.item(h:qmA q R m d b0 Q k b){us:List Int}{i:DI}(hp:apd q b c l us i){t:Nat}(ht:t<qnL q b0):isSl (q.F b0 1)/\(i.q.D (slB (q.F b0 1))/\slC (q.F b0 1)+t<i.q.S (slB (q.F b0 1)))/\
  i.q.F (slB (q.F b0 1)) (slC (q.F b0 1)+t)=.int .u32 (qit q b0 t)/\0<=qit q b0 t/\qit q b0 t<4294967296:=by
 obtain⟨sp,v,E,ks,h1,h2,h3,h4,h4b,_⟩:=h.node;have e1:=h1.s1;unfold qnL at ht;rw[e1]at ht;have hg:=List.getElem?_eq_getElem (by rw[<-h1.u.n];exact ht:t<E.length);have hpos:=h1.u.pos hg;obtain⟨d1,d2⟩:=h1.u.D hpos;have hne:slB v≠b:=λe=>h.bf (e▸h2 _ (a6C hpos))
 obtain⟨k1,k2,k3⟩:=hp.keep _ d1;have hc:=h1.u.c _ _ hg;have hle:=h1.u.le
 have hq:qit q b0 t=((E[t]'(by rw[<-h1.u.n];exact ht):Nat):Int):=by
  unfold qit;rw[e1,hc];rfl
 have hlt:=h.lt _ (h4b _ (List.mem_of_getElem? hg)).1;rw[e1,hq];refine⟨?_,⟨k1,by rw[k2];omega⟩,by rw[k3 hne];exact hc,by omega,by omega⟩;rcases h1.u.sl with e|e
 ·rw[e]at hpos;exact absurd hpos (by decide)
 ·exact e
theorem qmA.its(h:qmA q R m d b0 Q k b):∃ sp v E ks,qnA q b0 sp v E ks/\(∀ x∈E,x∈k.its/\a2A R m Q x)/\(sp=false->ks=nok/\k.its=E)/\qnL q b0=E.length/\∀(t x:Nat),E[t]? = some x->qit q b0 t=(x:Nat):=by
 obtain⟨sp,v,E,ks,h1,h2,h3,h4,h5,h6⟩:=h.node;refine⟨sp,v,E,ks,h1,h5,h6,by unfold qnL;rw[h1.s1,h1.u.n],λt x ht=>?_⟩;unfold qit;rw[h1.s1,h1.u.c _ _ ht];rfl
end
section
variable {q:RM} {b0:Nat} {w:Nat}
theorem S4(j:Nat):(qhI q b0 (w:Nat) j).length=1+w+w*j:=by
 have:=a0c (f:=λt=>byL (qit q b0 t) w) (λt=>G4 _ _) j;simp only[qhI,List.length_append,G4,tN9,this,List.length_cons,List.length_nil]
theorem c6M(j:Nat):(qhI q b0 (w:Nat) j)[0]? = some (w:Int):=by simp[qhI]
theorem c6K(j:Nat){s:Nat}(hs:s<w):(qhI q b0 (w:Nat) j)[1+s]? = some (byI (qnL q b0:Nat) s):=by
 unfold qhI;rw[List.append_assoc,List.getElem?_append_right (by simp),List.getElem?_append_left (by simp[G4,hs])];simp[byL,hs]
theorem c6n{j t s:Nat}(ht:t<j)(hs:s<w):(qhI q b0 (w:Nat) j)[1+w+(w*t+s)]? = some (byI (qit q b0 t) s):=by
 unfold qhI;rw[List.getElem?_append_right (by simp[G4];omega)];simp only[List.length_append,List.length_cons,List.length_nil,G4,tN9];rw[show 1+w+(w*t+s)-(0+1+w)=w*t+s by omega];rw[a7d (f:=λt=>byL (qit q b0 t) w) (λt=>G4 _ _) hs ht];simp[byL,hs]
theorem b8N(w:Int)(j:Nat):qhI q b0 w (j+1)=qhI q b0 w j++byL (qit q b0 j) w.toNat:=by
 unfold qhI;rw[List.range_succ,List.flatMap_append,<-List.append_assoc];simp
theorem b4e{v w:Int}(hw:wOk w)(h:nbI v<=w)(h0:0<=v)(h1:v<4294967296){g:Nat->Int}{p:Nat}(hg:∀ s,s<w.toNat->g (p+s)=byI v s):leN g p w.toNat=v:=by
 unfold nbI at h;rcases hw with e|e|e <;> subst e
 ·exact c2a hg h0 (by split at h <;> (try split at h) <;> omega)
 ·exact c2k hg h0 (by split at h <;> (try split at h) <;> omega)
 ·exact b1Q hg h0 h1
theorem b4V{E:List Nat}{gB:Nat->Int}{l:Nat}(hb:∀ t,t<1+w+w*E.length->∀ x,(qhI q b0 (w:Nat) E.length)[t]? = some x->gB (l+t)=x)(hn:qnL q b0=E.length)(hq:q1P q b0 (qnL q b0,(w:Nat)))
  (hit:∀(t x:Nat),E[t]? = some x->qit q b0 t=(x:Nat)) (hl:E.length<4294967296) (hlt:∀ x∈E,x<4294967296):a7l gB l w E:=by
 obtain⟨_,q2,q3,q4⟩:=hq;dsimp only at q2 q3 q4;have hw:w=1∨w=2∨w=4:=by unfold wOk at q2;omega
 refine⟨hw,?_,?_,λj x hj=>?_⟩
 ·have:=hb 0 (by omega) _ (c6M _);simpa using this
 ·have:=b4e (g:=gB) (p:=l+1) q2 q3 (by omega) (by omega) λs hs=>by
   rw[tN9]at hs;rw[Nat.add_assoc];exact hb (1+s) (by have:=Nat.le_refl w;omega) _ (c6K _ hs)
  rw[tN9,hn]at this;exact this
 ·have hjl:=(List.getElem?_eq_some_iff.1 hj).1;have hx:=hlt x (List.mem_of_getElem? hj);have e:=hit j x hj;have hm:w*(j+1)<=w*E.length:=Nat.mul_le_mul_left w hjl;rw[Nat.mul_add,Nat.mul_one]at hm
  have:=b4e (g:=gB) (p:=l+1+w+w*j) q2 (q4 j (by omega)) (by omega) (by omega) λs hs=>by
   rw[tN9]at hs;rw[show l+1+w+w*j+s=l+(1+w+(w*j+s)) by omega];exact hb _ (by omega) _ (c6n hjl hs)
  rw[tN9,e]at this;exact this
theorem a3w(t:Nat):(qfl q b0 t).length=if a4C q b0 t=true then 1 else 5:=by
 unfold qfl;split <;> rfl
theorem a0j(w:Int)(j:Nat):qhF q b0 w (j+1)=qhF q b0 w j++qfl q b0 j:=by
 unfold qhF;rw[List.range_succ,List.flatMap_append,<-List.append_assoc];simp
theorem a7p(w:Int):qhF q b0 w 0=qhI q b0 w (qnL q b0)++[1]:=by simp[qhF]
theorem a5I{ks:List (Option QK)}(h:∀ t o,ks[t]? = some o->a4C q b0 t=o.isNone)(hl:ks.length=4):∀ j,j<=4->(qhF q b0 (w:Nat) j).length=2+w+w*qnL q b0+K6 ks j
 | 0,_=>by rw[a7p,List.length_append,S4];simp[K6];omega
 | j+1,hj=>by
  have ih:=a5I h hl j (by omega);have hg:=List.getElem?_eq_getElem (by omega:j<ks.length);have h1:=h _ _ hg;rw[a0j,List.length_append,ih,a4K hg,a3w,h1];generalize ks[j]=o at *;cases o <;> simp[qsz] <;> omega
end
theorem b1t{P:Nat->QK->EQ->Prop}(hP:∀ t x e,P t x e->e.its=x.its):∀(ks:List (Option QK))(s:Nat),(∀(t:Nat)(x:QK),ks[t]? = some (some x)->∃ e,P (s+t) x e)->
  ∃ es:List (Option EQ),es.length=ks.length/\es.flatMap b9r=ks.flatMap R7/\(∀ t,K6 es t=K6 ks t)/\(∀ t:Nat,es[t]? = some none->ks[t]? = some none)/\∀(t:Nat)(e:EQ),es[t]? = some (some e)->∃ x,ks[t]? = some (some x)/\P (s+t) x e
 | [],s,_=>⟨[],rfl,rfl,λt=>by simp[K6],λt h=>by simp at h,λt e h=>by simp at h⟩
 | o :: r,s,h=>by
  obtain⟨es,h1,h2,h3,h4,h5⟩:=b1t hP r (s+1) λt x ht=>by
   have:=h (t+1) x (by simpa using ht);rw[show s+1+t=s+(t+1) by omega];exact this
  cases o with
  | none =>
   refine⟨none :: es,by simp[h1],by simp[b9r,R7,h2],λt=>?_,λt ht=>?_,λt e ht=>?_⟩
   ·cases t with
    | zero=>simp[K6]
    | succ t=>have:=h3 t;simp only[K6,List.take_succ_cons,List.map_cons,List.sum_cons,qsz]at *;omega
   ·cases t with
    | zero=>rfl
    | succ t=>simpa using h4 t (by simpa using ht)
   ·cases t with
    | zero=>simp at ht
    | succ t =>
     obtain⟨x,g1,g2⟩:=h5 t e (by simpa using ht);exact⟨x,by simpa using g1,by rw[show s+(t+1)=s+1+t by omega];exact g2⟩
  | some x =>
   obtain⟨e0,he0⟩:=h 0 x rfl;refine⟨some e0 :: es,by simp[h1],by simp[b9r,R7,h2,hP _ _ _ he0],λt=>?_,λt ht=>?_,λt e ht=>?_⟩
   ·cases t with
    | zero=>simp[K6]
    | succ t=>have:=h3 t;simp only[K6,List.take_succ_cons,List.map_cons,List.sum_cons,qsz]at *;omega
   ·cases t with
    | zero=>simp at ht
    | succ t=>simpa using h4 t (by simpa using ht)
   ·cases t with
    | zero =>
     simp at ht;subst ht;exact⟨x,rfl,he0⟩
    | succ t =>
     obtain⟨y,g1,g2⟩:=h5 t e (by simpa using ht);exact⟨y,by simpa using g1,by rw[show s+(t+1)=s+1+t by omega];exact g2⟩
theorem wOk.nat{w:Int}(h:wOk w):∃ n:Nat,w=(n:Int)/\n<=4/\1<=n:=by
 rcases h with e|e|e <;> subst e
 ·exact⟨1,rfl,by omega,by omega⟩
 ·exact⟨2,rfl,by omega,by omega⟩
 ·exact⟨4,rfl,by omega,by omega⟩
section
variable {q:RM} {R:Nat->Q4} {m d b0 b c l:Nat} {Q:Q4} {k:QK}
theorem a4H(w:Int){t:Nat}:∀ {j:Nat},t<j->∃ r,qhF q b0 w j=qhF q b0 w t++qfl q b0 t++r
 | 0,h=>absurd h (Nat.not_lt_zero t)
 | j+1,h=>by
  rw[a0j];by_cases e:t=j
  ·subst e;exact⟨[],by simp⟩
  ·obtain⟨r,hr⟩:=a4H w (t:=t) (j:=j) (by omega);exact⟨r++qfl q b0 j,by rw[hr];simp⟩
theorem a0G(w:Int){t j:Nat}(h:t<=j):(qhF q b0 w t).length<=(qhF q b0 w j).length:=by
 by_cases e:t=j
 ·subst e;exact Nat.le_refl _
 ·obtain⟨r,hr⟩:=a4H (q:=q) (b0:=b0) w (t:=t) (j:=j) (by omega);rw[hr];simp only[List.length_append];omega
theorem c4p(t:Nat):(qfl q b0 t)[0]? = some (if a4C q b0 t=true then 0 else 1):=by unfold qfl;split <;> rfl
theorem a5O{w n:Nat}(h:w<=4):w*n<=4*n:=Nat.mul_le_mul_right n h
theorem c4j(h:qmA q R m d b0 Q k b)(hs:a0E (q.F b0 0)=false){w:Int}{i:DI}(hp:apd q b c l (qhI q b0 w (qnL q b0)++[0]) i)(hq:q1P q b0 (qnL q b0,w)) :
  ∃ us,apd q b c l us i/\us.length<=qBy d k.its.length/\a5A (bG i) R m d l i.l Q k.its:=by
 obtain⟨sp,v,E,ks,h1,h5,h6,hn,hit⟩:=h.its;obtain⟨w,rfl,hw,_⟩:=hq.2.1.nat;obtain rfl:sp=false:=by rw[h1.s0]at hs;exact hs
 obtain⟨_,hE⟩:=h6 rfl;have hle:=h.le
 have hH:a7l (bG i) l w E:=by
  refine b4V (λt ht x hx=>a1c hp ?_) hn hq hit (by rw[hE]at hle;omega) λx hx=>h.lt x (h5 x hx).1
  rw[hn,List.getElem?_append_left (by rw[S4];exact ht)];exact hx
 have hz:bG i (l+1+w+w*E.length)=0:=by
  rw[show l+1+w+w*E.length=l+(1+w+w*E.length) by omega];refine a1c hp ?_;rw[hn,List.getElem?_append_right (by rw[S4];exact Nat.le_refl _),S4];simp
 have hl:=hp.n;rw[List.length_append,S4,hn]at hl;simp only[List.length_cons,List.length_nil]at hl;have hm:=a5O (n:=E.length) hw;refine⟨_,hp,?_,?_⟩
 ·rw[List.length_append,S4,hn,hE];simp only[List.length_cons,List.length_nil,qBy];have:26*1<=26*(1+d*E.length):=Nat.mul_le_mul_left _ (by omega);omega
 ·cases d with
  | zero=>exact⟨w,by rw[hE];exact hH,by rw[hE];omega,by rw[hE];exact hz,λx hx=>(h5 x (by rw[<-hE];exact hx)).2⟩
  | succ d=>exact⟨w,E,[],hH,by rw[hE];simp,λx hx=>(h5 x hx).2, .inl ⟨rfl,by omega,hz⟩⟩
theorem qmA.split(h:qmA q R m (d+1) b0 Q k b)(hs:a0E (q.F b0 0)=true):∃ v E ks,qpN q R m d Q b0 true v E ks []/\kne ks/\k.its=E++ks.flatMap R7/\k.fp=b0 :: (fpU v++ks.flatMap kfp):=by
 obtain⟨sp,v,E,ks,h1,_,h3,h4,h5⟩:=c1Z h.t h.nd;rw[h.kb]at h1 h3;obtain rfl:sp=true:=by rw[h1.a.s0]at hs;exact hs
 exact⟨v,E,ks,h1,h5,h4,h3⟩
theorem a0r{v:Value}{E xs:List Nat}{ks:List (Option QK)}{sp:Bool}(h:qpN q R m d Q b0 sp v E ks xs):∀(t:Nat)(o:Option QK),ks[t]? = some o->a4C q b0 t=o.isNone:=λt o ht=>by
 unfold a4C;rw[h.a.k t o ht,a2a]
theorem c8j{v:Value}{E xs:List Nat}{ks:List (Option QK)}{sp:Bool}(h:qpN q R m d Q b0 sp v E ks xs):qnL q b0=E.length:=by
 unfold qnL;rw[h.a.s1,h.a.u.n]
theorem c2i{ks:List (Option QK)}(h:ks.length=4):K6 ks 4<=20:=by
 match ks,h with
 | [a,b,c,d],_=>cases a <;> cases b <;> cases c <;> cases d <;> simp[K6,qsz]
theorem b9V(h:qmA q R m (d+1) b0 Q k b)(hs:a0E (q.F b0 0)=true){w:Int}(hw:wOk w):(qhF q b0 w 4).length<=26+4*qnL q b0:=by
 obtain⟨wn,rfl,hw4,_⟩:=hw.nat;obtain⟨v,E,ks,h1,_⟩:=h.split hs;rw[a5I (a0r h1) h1.a.kl 4 (Nat.le_refl _)];have h2:=c2i h1.a.kl;have h3:=a5O (n:=qnL q b0) hw4;omega
theorem qmA.pos(h:qmA q R m d b0 Q k b)(hs:a0E (q.F b0 0)=true):∃ e,d=e+1:=by
 cases d with
 | succ e=>exact⟨e,rfl⟩
 | zero =>
  obtain⟨v,E,h1,_⟩:=h.t;have h2:=h1.s0;rw[h.kb]at h2;rw[h2]at hs;exact absurd hs (by decide)
theorem b8q(h:qmA q R m (d+1) b0 Q k b)(hs:a0E (q.F b0 0)=true){p p':QC}(hp:apd q b c l (qhF q b0 p.w 4) p.i)(hw:wOk p.w)(e1:p'.i=p.i)(e2:p'.j=0)(e3:p'.w=p.w):q4K q R m d b0 Q b c l p' k:=by
 obtain⟨v,E,ks,h1,h2,h3,h4⟩:=h.split hs;obtain⟨w,e,hw4,_⟩:=hw.nat;have hpos:=a5I (q:=q) (b0:=b0) (w:=w) (a0r h1) h1.a.kl 4 (Nat.le_refl _);have h20:=c2i h1.a.kl;have hm:=a5O (n:=E.length) hw4;rw[c8j h1]at hpos;rw[q4K,e1,e2,e3];refine⟨_,v,E,ks,hp,h1,h2,h3,h4,λt ht=>a1c hp ?_,λt ht=>a1c hp ?_,Nat.le_refl _,?_,λt x ht=>absurd ht (Nat.not_lt_zero t)⟩
 ·unfold qhF;rw[List.getElem?_append_left ht,List.getElem?_eq_getElem ht,List.getD_eq_getElem?_getD,List.getElem?_eq_getElem ht];rfl
 ·obtain⟨r,hr⟩:=a4H (q:=q) (b0:=b0) p.w ht;rw[hr,List.append_assoc,List.getElem?_append_right (Nat.le_refl _),Nat.sub_self,List.getElem?_append_left (by rw[a3w];split <;> omega)];exact c4p t
 ·rw[e,hpos];simp;omega
theorem b9n{p p':QC}(hK:q4K q R m d b0 Q b c l p k)(hj:p.j<4)(hn:a4C q b0 p.j=true)(e1:p'.i=p.i)(e2:p'.j=p.j+1)(e3:p'.w=p.w):q4K q R m d b0 Q b c l p' k:=by
 obtain⟨us,v,E,ks,k1,k2,k3,k4,k5,k6,k7,k8,k9,k10⟩:=hK;have hg:=List.getElem?_eq_getElem (by rw[k2.a.kl];exact hj:p.j<ks.length);have hno:=a0r k2 _ _ hg;rw[q4K,e1,e2,e3];refine⟨us,v,E,ks,k1,k2,k3,k4,k5,k6,k7,k8,?_,λt x ht hx=>?_⟩
 ·rw[List.take_add_one,List.map_append,List.sum_append];omega
 ·by_cases e:t=p.j
  ·subst e;rw[hx]at hg;simp only[oI9]at hg;rw[<-hg,hn]at hno;exact absurd hno (by simp)
  ·exact k10 t x (by omega) hx
theorem b4j(h:qmA q R m (d+1) b0 Q k b)(hbd:l+qBy (d+1) k.its.length<=100000000){p:QC}(hw:wOk p.w)(hK:q4K q R m d b0 Q b c l p k)(hj:p.j<4)(hn:a4C q b0 p.j=false) :
  ∃ x:QK,q.F b0 (2+p.j)=.pointer (some ⟨x.b,0,none⟩)/\l+((qhF q b0 p.w p.j).length+1)+4<=p.i.l/\p.i.l<=100000000/\byO p.i.q p.i.b p.i.c p.i.l p.i.k/\
  byO (p4R p.i.q p.i.b (p.i.c+(l+((qhF q b0 p.w p.j).length+1))) (p.i.l:Nat)) p.i.b p.i.c p.i.l p.i.k/\
  qmA (p4R p.i.q p.i.b (p.i.c+(l+((qhF q b0 p.w p.j).length+1))) (p.i.l:Nat)) R m d x.b (qbV Q (p.j:Int)) x p.i.b/\p.i.l+qBy d x.its.length<=100000000/\
  ∀ i',qmP (p4R p.i.q p.i.b (p.i.c+(l+((qhF q b0 p.w p.j).length+1))) (p.i.l:Nat)) x.b (qbV Q (p.j:Int)) p.i.b p.i.c p.i.l i'->q4K q R m d b0 Q b c l ⟨i',p.j+1,p.w,p.g⟩ k:=by
 obtain⟨us,v,E,ks,k1,k2,k3,k4,k5,k6,k7,k8,k9,k10⟩:=hK;obtain⟨w,e,hw4,_⟩:=hw.nat;have hn1:=k1.n;obtain⟨o,hg,hcell⟩:=k2.a.kid hj;have hno:=a0r k2 _ _ hg;rw[hn]at hno
 obtain⟨x,rfl⟩:∃ x,o=some x:=by cases o with
  | none=>simp at hno
  | some x=>exact⟨x,rfl⟩
 have hF1:(qhF q b0 p.w (p.j+1)).length=(qhF q b0 p.w p.j).length+5:=by rw[a0j,List.length_append,a3w,hn];simp
 have hF4:=a0G (q:=q) (b0:=b0) p.w (t:=p.j+1) (j:=4) (by omega);have hF0:=a0G (q:=q) (b0:=b0) p.w (t:=0) (j:=p.j) (by omega);rw[a7p]at hF0;generalize hS:(qhF q b0 p.w p.j).length=S at *;obtain⟨us2,v1,v2,v3,v4⟩:=b0U k1 (s:=S+1) (by omega) (p.i.l:Nat)
 have hsum:((ks.take (p.j+1)).map (kBy d)).sum=((ks.take p.j).map (kBy d)).sum+qBy d x.its.length:=by
  rw[List.take_add_one,hg,List.map_append,List.sum_append];simp[kBy]
 have hsum4:((ks.take (p.j+1)).map (kBy d)).sum<=(ks.map (kBy d)).sum:=by
  conv=>rhs;rw[<-List.take_append_drop (p.j+1) ks]
  rw[List.map_append,List.sum_append];omega
 have hnode:=b1b (d:=d) k3 E;rw[<-k4]at hnode;have hxk:∀ y∈x.fp,y∈k.fp:=λy hy=>by rw[k5];exact List.mem_cons_of_mem _ (List.mem_append_right _ (J6 hg hy))
 have hkx:qmA (p4R p.i.q p.i.b (p.i.c+(l+(S+1))) (p.i.l:Nat)) R m d x.b (qbV Q (p.j:Int)) x p.i.b:=by
  have hD:=(k2.kid _ _ hg).D;have hne:∀ y∈x.fp,y≠b:=λy hy e=>h.bf (e▸hxk y hy)
  refine⟨(k2.kid _ _ hg).same λy hy=>?_,rfl,c2J hg (nd4.1 k2.nd).2.1.2.1,?_,λhb=>?_,λy hy=>h.lt y ?_⟩
  ·obtain⟨g1,g2,g3⟩:=v2.keep y (hD y hy);exact⟨g1,g2,g3 (hne y hy)⟩
  ·have g1:=a9m hg;have g2:=h.le;rw[k4,List.length_append]at g2;omega
  ·rcases k1.nw with g1|g1
   ·exact hne _ hb g1
   ·exact g1 (hD _ hb)
  ·rw[k4];exact List.mem_append_right _ (List.mem_flatMap.2 ⟨some x,List.mem_of_getElem? hg,hy⟩)
 refine⟨x,hcell,by omega,by omega,k1.o,v2.o,hkx,by omega,λi' hi'=>?_⟩;obtain⟨us3,w1,w2,w3⟩:=hi' R m d x hkx (by omega);have hall:=v2.trans w1;have hn3:=w1.n
 have old:∀ pp,pp<p.i.l->bG i' pp=bG ⟨p4R p.i.q p.i.b (p.i.c+(l+(S+1))) (p.i.l:Nat),p.i.b,p.i.c,p.i.l,p.i.k⟩ pp:=λpp hpp=>by
  unfold bG;rw[w1.old pp hpp]
 have old2:∀ pp,pp<p.i.l->(pp<l+(S+1)∨l+(S+1)+4<=pp)->bG i' pp=bG p.i pp:=λpp h1 h2=>(old pp h1).trans (v4 pp h2)
 have far:∀ t,t<4->t≠p.j->(qhF q b0 p.w t).length+(qfl q b0 t).length<=S∨S+5<=(qhF q b0 p.w t).length:=λt ht hne=>by
  rcases Nat.lt_or_ge t p.j with c1|c1
  ·have:=a0G (q:=q) (b0:=b0) p.w (t:=t+1) (j:=p.j) (by omega);rw[a0j,List.length_append,hS]at this;exact .inl this
  ·have:=a0G (q:=q) (b0:=b0) p.w (t:=p.j+1) (j:=t) (by omega);rw[hF1]at this;exact .inr this
 have l4:∀ t,t<4->(qhF q b0 p.w t).length+(qfl q b0 t).length<=(qhF q b0 p.w 4).length:=λt ht=>by
  have:=a0G (q:=q) (b0:=b0) p.w (t:=t+1) (j:=4) (by omega);rw[a0j,List.length_append]at this;exact this
 have flp:∀ t,1<=(qfl q b0 t).length:=λt=>by rw[a3w];split <;> omega
 unfold q4K;dsimp only;refine⟨us2++us3,v,E,ks,hall,k2,k3,k4,k5,λt ht=>?_,λt ht=>?_,by rw[List.length_append];omega,?_,λt y ht hy=>?_⟩
 ·have ht:t<(qhI q b0 p.w (qnL q b0)++[1]).length:=ht;exact(old2 _ (by omega) (by omega)).trans (k6 t ht)
 ·have g1:=flp t;have g2:=l4 t ht;by_cases ce:t=p.j
  ·subst ce;exact(old2 _ (by rw[hS];omega) (by rw[hS];omega)).trans (k7 _ ht)
  ·have g3:=far t ht ce;exact(old2 _ (by omega) (by omega)).trans (k7 t ht)
 ·show (us2++us3).length<=26+4*E.length+((ks.take (p.j+1)).map (kBy d)).sum;rw[hsum,List.length_append];omega
 ·have ht:t<p.j+1:=ht;by_cases ce:t=p.j
  ·subst ce;rw[hg]at hy;simp only[oI9]at hy;subst hy;refine⟨p.i.l,i'.l,?_,by show l+(qhF q b0 p.w 4).length<=p.i.l;omega,Nat.le_refl _,w3⟩;show leN (bG i') (l+(qhF q b0 p.w p.j).length+1) 4=_;rw[hS];refine b1Q (λj hj4=>?_) (by omega) (by omega);rw[show l+S+1+j=l+(S+1)+j by omega];exact(old _ (by omega)).trans (v3 j hj4)
  ·obtain⟨a,e',a1,a2,a3,a4⟩:=k10 t y (by omega) hy;have g2:=l4 t (by omega);have g3:=far t (by omega) ce
   have g4:(qfl q b0 t).length=5:=by
    rw[a3w,a0r k2 _ _ hy];simp
   refine⟨a,e',?_,a2,by show e'<=i'.l;omega,a3v a4 λpp p1 p2=>old2 pp (by omega) (by omega)⟩;show leN (bG i') (l+(qhF q b0 p.w t).length+1) 4=_;rw[N9 λj hj=>old2 _ (by omega) (by omega)];exact a1
theorem c3y(h:qmA q R m (d+1) b0 Q k b){p:QC}(hq:q1P q b0 (qnL q b0,p.w))(hK:q4K q R m d b0 Q b c l p k)(hj:4<=p.j) :
  ∃ us,apd q b c l us p.i/\us.length<=qBy (d+1) k.its.length/\a5A (bG p.i) R m (d+1) l p.i.l Q k.its:=by
 obtain⟨us,v,E,ks,k1,k2,k3,k4,k5,k6,k7,k8,k9,k10⟩:=hK;obtain⟨w,e,hw4,_⟩:=hq.2.1.nat;dsimp only at e;rw[e]at hq k6 k7 k8 k10;have hn1:=k1.n;have hnE:=c8j k2;have hpos:=a5I (q:=q) (b0:=b0) (w:=w) (a0r k2) k2.a.kl;rw[hnE]at hpos k6;have hnode:=b1b (d:=d) k3 E;rw[<-k4]at hnode;have hle:=h.le;have hEl:E.length<=k.its.length:=by rw[k4];simp
 obtain⟨es,e1,e2,e3,e4,e5⟩:=b1t (P:=λt x kk=>kk.its=x.its/\leN (bG p.i) (l+2+w+w*E.length+K6 ks t+1) 4=(kk.a:Nat)/\l+2+w+w*E.length+K6 ks 4<=kk.a/\kk.e<=p.i.l/\a5A (bG p.i) R m d kk.a kk.e (qbV Q (t:Int)) kk.its) (λ_ _ _ hh=>hh.1) ks 0 λt x hx=>by
  have ht4:t<4:=by rw[<-k2.a.kl];exact(List.getElem?_eq_some_iff.1 hx).1
  obtain⟨a,e',a1,a2,a3,a4⟩:=k10 t x (by omega) hx;rw[hpos t (by omega)]at a1;rw[hpos 4 (by omega)]at a2;refine⟨⟨a,e',x.its⟩,rfl,?_,by show _<=a;omega,a3,?_⟩
  ·rw[Nat.zero_add,show l+2+w+w*E.length+K6 ks t+1=l+(2+w+w*E.length+K6 ks t)+1 by omega];exact a1
  ·rw[Nat.zero_add];exact a4
 have hlen:(qhI q b0 (w:Nat) E.length++[1]).length=2+w+w*E.length:=by rw[List.length_append,S4];simp;omega
 refine⟨us,k1,?_,w,E,es,?_,by rw[e2,k4],k2.ok, .inr ⟨by rw[e1,k2.a.kl],?_,?_,λt ht=>?_,λt kk ht=>?_⟩⟩
 ·have:ks.take p.j=ks:=List.take_of_length_le (by rw[k2.a.kl];exact hj);rw[this]at k9;omega
 ·refine b4V (λt ht x hx=>?_) hnE hq (λt x hx=>?_) (by omega) λx hx=>h.lt x (by rw[k4];exact List.mem_append_left _ hx)
  ·rw[k6 t (by omega),List.getD_eq_getElem?_getD,List.getElem?_append_left (by rw[S4];exact ht),hx];rfl
  ·unfold qit;rw[k2.a.s1,k2.a.u.c _ _ hx];rfl
 ·have:=k6 (1+w+w*E.length) (by omega);rw[List.getD_eq_getElem?_getD,List.getElem?_append_right (by rw[S4];exact Nat.le_refl _),S4]at this;rw[show l+1+w+w*E.length=l+(1+w+w*E.length) by omega,this];simp
 ·rw[e3 4];rw[hpos 4 (by omega)]at k8;omega
 ·have hx:=e4 t ht;have ht4:t<4:=by rw[<-k2.a.kl];exact(List.getElem?_eq_some_iff.1 hx).1
  have:=k7 t ht4;rw[hpos t (by omega),a0r k2 _ _ hx]at this;rw[e3 t,show l+2+w+w*E.length+K6 ks t=l+(2+w+w*E.length+K6 ks t) by omega,this];rfl
 ·obtain⟨x,hx,g1,g2,g3,g4,g5⟩:=e5 t kk ht;have ht4:t<4:=by rw[<-k2.a.kl];exact(List.getElem?_eq_some_iff.1 hx).1
  have:=k7 t ht4;rw[hpos t (by omega),a0r k2 _ _ hx]at this;rw[Nat.zero_add]at g2 g5;rw[e3 t,e3 4];refine⟨?_,g2,g3,g4,g5⟩;rw[show l+2+w+w*E.length+K6 ks t=l+(2+w+w*E.length+K6 ks t) by omega,this];rfl
end
open Int (toNat)
open Go.IntKind (wrap)
noncomputable section
def qcH(ts:List Nat)(a0 a1 a2 a3:Nat)(q:RM):A1:=[(0,rwO ts q),(1,⟨true,102, .cells [.flt .f64 a0, .flt .f64 a1, .flt .f64 a2, .flt .f64 a3],0⟩)]
def c7p(ts:List Nat)(a0 a1 a2 a3:Nat)(q:RM)(g:Nat->Int):A1:=[(0,rwO ts q),(1,⟨true,102, .cells [.flt .f64 a0, .flt .f64 a1, .flt .f64 a2, .flt .f64 a3],0⟩),(2,⟨true,206, .ints .i64 4 g,0⟩)]
def q1L(ts:List Nat)(q:RM)(b0 b c l kk a0 a1 a2 a3:Nat):S9:=⟨⟨Nat×Int,λp=>⟨143,[(0, .pb 0 b0 0),(1, .slb 0 b c l kk),(5, .ptr 1 0),(7, .int .u8 p.2),(8, .int .i64 p.1)],qcH ts a0 a1 a2 a3 q,2⟩,q1P q b0,λp=>qnL q b0-p.1⟩,λ_=>[]⟩
def q2L(ts:List Nat)(q:RM)(b0 b c l a0 a1 a2 a3:Nat):S9:=⟨⟨C1,λp=>⟨143,[(0, .pb 0 b0 0),(1, .slb 0 p.i.b p.i.c p.i.l p.i.k),(5, .ptr 1 0),(7, .int .u8 p.w),(10, .int .i64 p.j)],qcH ts a0 a1 a2 a3 p.i.q,2⟩,q2P q b0 b c l,λp=>qnL q b0-p.j⟩,λ_=>[]⟩
def q3L(ts:List Nat)(q:RM)(b0 b c l a0 a1 a2 a3:Nat):S9:=⟨⟨QC,λp=>⟨143,[(0, .pb 0 b0 0),(1, .slb 0 p.i.b p.i.c p.i.l p.i.k),(5, .ptr 1 0),(11, .ptr 2 0),(12, .int .i64 p.j)],c7p ts a0 a1 a2 a3 p.i.q p.g,3⟩,q3P q b0 b c l,λp=>4-p.j⟩,λ_=>[]⟩
def q4L(ts:List Nat)(q:RM)(b0 b c l a0 a1 a2 a3:Nat):S9:=⟨⟨QC,λp=>⟨143,[(0, .pb 0 b0 0),(1, .slb 0 p.i.b p.i.c p.i.l p.i.k),(5, .ptr 1 0),(11, .ptr 2 0),(13, .int .i64 p.j)],c7p ts a0 a1 a2 a3 p.i.q p.g,3⟩,q4P q b0 ⟨a0,a1,a2,a3⟩ b c l,λp=>4-p.j⟩,λ_=>[]⟩
def a6z(K:Nat):List SV->RRd DI
 | [.pb n b0 c0, .slb n1 b c l kk, .agg [.flt .f64 a0, .flt .f64 a1, .flt .f64 a2, .flt .f64 a3]]=>.read n λo0=>(match J4 o0 with
  | some (ts,q)=>.ret ⟨[.pb 0 b0 0, .slb 0 b c l kk, .agg [.flt .f64 a0, .flt .f64 a1, .flt .f64 a2, .flt .f64 a3]],[(0,rwO ts q)],some (n=n1/\0=c0/\(qmO q b0 ⟨a0,a1,a2,a3⟩ b c l kk K)),λi=>qmP q b0 ⟨a0,a1,a2,a3⟩ b c l i,λi=>⟨[],[], .slb 0 i.b i.c i.l i.k,[(0,rwO ts (i.q))],[],none⟩⟩
  | none=>.fail)
 | _=>.fail
def GQc:Ctx:=⟨⟨tys,[]⟩,[(125,z3 b4L),(124,z3 b1A)]⟩
theorem gQc:B9 prog GQc:=⟨⟨D6,FlatsOk.nil⟩,l8.cons (.pure c8a) (l8.cons (.pure c4d) l8.nil),by kernel_rfl⟩
def X12(H:Nat):G9:=⟨GQc,[(118,q7 DI ⟨default⟩ (a6z H)),(121,q7 Unit ⟨()⟩ a8f),(126,q7 DI ⟨default⟩ a5V)],[],[],[(185,0)]⟩
theorem x12(H:Nat)(ih:A5 prog 118 (q7 DI ⟨default⟩ (a6z H))):C0 prog (X12 H):=⟨gQc,y9.cons ih (y9.cons c1b (y9.cons b6G y9.nil))⟩
def c2T(K:Nat):List SV->RRd (DI)
 | [.pb n b0 c0, .slb n1 b c l kk, .agg [.flt .f64 a0, .flt .f64 a1, .flt .f64 a2, .flt .f64 a3]]=>.read n λo0=>(match J4 o0 with
  | some (ts,q)=>.ret ⟨[.pb 0 b0 0, .slb 0 b c l kk, .agg [.flt .f64 a0, .flt .f64 a1, .flt .f64 a2, .flt .f64 a3]],[(0,rwO ts q)],some (n=n1/\0=c0/\(qmO q b0 ⟨a0,a1,a2,a3⟩ b c l kk K)),λi=>qmP q b0 ⟨a0,a1,a2,a3⟩ b c l i,λi=>⟨[],[], .slb 0 i.b i.c i.l i.k,[(0,rwO ts (i.q))],[],none⟩⟩
  | none=>.fail)
 | _=>.fail
theorem b9B(R:Option Ob->SV->Prop)(H:Nat)(ts:List Nat)(q:RM)(b0 b c l kk a0 a1 a2 a3:Nat){T1}(t1:T1=λ(i:QC)=>(pB (pB (pB (DI.q (QC.i i)).3 (DI.b (QC.i i)) (DI.c (QC.i i)+toNat (i.4 (0+toNat (↑(QC.j i):Int)*1))*1) (wrap IntKind.u32 (↑(DI.l (QC.i i)):Int)) 0) (DI.b (QC.i i)) (DI.c (QC.i i)+toNat (i.4 (0
 + toNat (↑(QC.j i):Int)*1))*1) (wrap IntKind.u32 (↑(DI.l (QC.i i)):Int)) 1) (DI.b (QC.i i)) (DI.c (QC.i i)+toNat (i.4 (0+toNat (↑(QC.j i):Int)*1))*1) (wrap IntKind.u32 (↑(DI.l (QC.i i)):Int))
 2)){T2}(t2:T2=(102=102/\0=0/\a0=a0/\a1=a1/\a2=a2/\a3=a3/\True)){T3}(t3:T3=λ(i:QC)=>(↑(QC.j i):Int)){T4}(t4:T4=λ(i:QC)=>(pB (T1 i) (DI.b (QC.i i)) (DI.c (QC.i i)+toNat (i.4 (0+toNat (T3 i)*1))*1)
 (wrap IntKind.u32 (↑(DI.l (QC.i i)):Int)) 3 b0 (2+toNat (T3 i)*1))){T5}(t5:T5=λ(i:QC)=>(p4R (RM.mk (RM.D (DI.q (QC.i i))) (RM.S (DI.q (QC.i i))) (RM.F (DI.q (QC.i i)))) (DI.b (QC.i i)) (DI.c (QC.i i)+toNat (QC.g i (0 +
 toNat (T3 i)*TI.size ty3))*TI.size ty5) (wrap IntKind.u32 (↑(DI.l (QC.i i)):Int)))){T6}(t6:T6=λ(i:C1)=>(DI.q (C1.i i))){T7}(t7:T7=λ(i:QC)=>(DI.q (QC.i i))){T8}(t8:T8=(True/\b0=b0/\0=0)){T9}(t9:T9=λ(i:C1)=>((T6 i).3
 (slB ((T6 i).3 b0 1)) (slC ((T6 i).3 b0 1)+toNat (↑(C1.j i):Int)*1))){T10}(t10:T10=(True/\0=0)){T11}(t11:T11=λ(i:Nat×Int)=>(q.3 (slB (q.3 b0 1)) (slC (q.3 b0 1)+toNat (↑(i.1):Int)*1))){T12}(t12:T12=(Q4.mk a0 a1 a2
 a3)){T13}(t13:T13=λ(i:QC)=>(RM.mk (RM.D (T5 i)) (T7 i).2 (pB (T1 i) (DI.b (QC.i i)) (DI.c (QC.i i)+toNat (i.4 (0+toNat (T3 i)*1))*1) (wrap IntKind.u32 (↑(DI.l (QC.i i)):Int)) 3))){T14}(t14:T14=λ(i:QC)=>((T7 i).3 b0 (2
 + toNat (T3 i)*1))){T15}(t15:T15=(0=0/\0=0/\ts=ts/\q.3=q.3/\q.2=q.2/\RM.D q=RM.D q)){T16}(t16:T16=λ(pq:QC)=>(DI.q (QC.i pq))){T17}(t17:T17=λ(i:QC) (pq:QC)=>(True/\DI.b (QC.i i)=DI.b (QC.i pq)/\DI.c (QC.i i)=DI.c
 (QC.i pq)/\DI.l (QC.i i)=DI.l (QC.i pq)/\DI.k (QC.i i)=DI.k (QC.i pq))){T18}(t18:T18=λ(i:QC)=>(0+toNat (T3 i)*1)){T19}(t19:T19=(True/\b=b/\c=c/\l=l/\kk=kk)){T20}(t20:T20=λ(i:QC) (pq:QC)=>(0=0/\0=0/\ts=ts/\(T7
 i).3=(T16 pq).3/\(T7 i).2=(T16 pq).2/\RM.D (T7 i)=RM.D (T16 pq))){T21}(t21:T21=(↑(slL (q.3 b0 1)):Int)){T22}(t22:T22=λ(i:QC)=>(DI.b (QC.i i))){T23}(t23:T23=λ(i:QC)=>(Q4.mk (qb0 T12 (T3 i)) (qb1 T12 (T3 i)) (qb2 T12 (T3 i)) (qb3 T12
 (T3 i)))){T24}(t24:T24=λ(i:QC)=>(DI.l (QC.i i))){T25}(t25:T25=λ(i:QC) (pq:QC)=>(206=206/\0=0/\4<=4/\∀ (i_4:Nat),i_4<4->i.4 i_4=pq.4 i_4)){T26}(t26:T26=λ(i:C1)=>(↑(C1.j i):Int)){T27}(t27:T27=λ(pq:QC)=>(↑(QC.j pq) :
 Int)){T28}(t28:T28=λ(i:C1)=>((T6 i).3 b0 1)):O9 (X12 H) 1 [(3,q1L ts q b0 b c l kk a0 a1 a2 a3),(11,q2L ts q b0 b c l a0 a1 a2 a3),(20,q3L ts q b0 b c l a0 a1 a2 a3),(28,q4L ts q b0 b c l a0 a1 a2 a3)] [] (p7 f118) (A8 f118.ntmps [.pb 0 b0 0, .slb 0 b c l kk, .agg [.flt .f64 a0, .flt .f64 a1, .flt .f64 a2, .flt .f64 a3]] [(0,rwO ts q)] 1) (B5 (X12 H).G.E.T f118.results.toList λS v=>R (Go.Sx.look S.H 0) v)=(
 (q.1 b0/\1<q.2 b0)/\isSlN (q.3 b0 1)/\(∃(pq:Nat×Int),q1P q b0 pq/\(T8/\T19/\T10/\nbI (wrap IntKind.u32 T21)=pq.2/\0=(↑(pq.1):Int)/\True)/\True/\T15/\True/\T2/\True)/\∀(i:Nat×Int),q1P q b0 i->(q.1 b0/\1 <
 q.2 b0)/\isSlN (q.3 b0 1)/\(decide ((↑(i.1):Int)<T21)=true->(q.1 b0/\1<q.2 b0)/\(Go.Sx.isSl (q.3 b0 1)/\0<=(↑(i.1):Int)/\(↑(i.1):Int)<T21)/\(q.1 (slB (q.3 b0 1))/\slC (q.3 b0 1)+toNat (↑(i.1):Int)*1<q.2 (slB (q.3
 b0 1))/\C9 IntKind.u32 (T11 i))/\(decide (i.2<nbI (p9 (T11 i)))=true->∃(pq:Nat×Int),q1P q b0 pq/\qnL q b0-pq.1<qnL q b0-i.1/\(T8/\T19/\T10/\nbI (p9 (T11 i))=pq.2/\wrap .i64 ((↑(i.1):Int)+1)=(↑(pq.1) :
 Int)/\True)/\True/\T15/\True/\T2/\True)/\(decide (i.2<nbI (p9 (T11 i)))=false->∃(pq:Nat×Int),q1P q b0 pq/\qnL q b0-pq.1<qnL q b0-i.1/\(T8/\T19/\T10/\i.2=pq.2/\wrap .i64 ((↑(i.1):Int)+1)=(↑(pq.1):Int)
 /\True)/\True/\T15/\True/\T2/\True))/\(decide ((↑(i.1):Int)<T21)=false->∀(i_1:ApI),appO (RM.D q) q.2 1 1 b c l kk 1/\(R0 (RM.D q) q.2 q.3 1 b c l kk 1 [Value.int .u8 (i.2)] i_1->(i_1.4 b0/\1<i_1.5 b0)/\isSlN (i_1.6 b0 1)/\∀
 (i_2:DI),((byO (RM.mk (ApI.D i_1) i_1.5 i_1.6) i_1.1 i_1.2 (l+1) i_1.3/\l+1<=1000000000)/\((0:Int)<=wrap IntKind.u32 (↑(slL (i_1.6 b0 1)):Int)/\wrap IntKind.u32 (↑(slL (i_1.6 b0 1)):Int)<4294967296)/\(i.2=(1 :
 Int)∨i.2=(2:Int)∨i.2=(4:Int)))/\(apd (RM.mk (ApI.D i_1) i_1.5 i_1.6) i_1.1 i_1.2 (l+1) (byL (wrap IntKind.u32 (↑(slL (i_1.6 b0 1)):Int)) (toNat (i.2))) i_2->(∃(pq:C1),q2P q b0 b c l pq/\(T8/\(True/\DI.b i_2=DI.b
 (C1.i pq)/\DI.c i_2=DI.c (C1.i pq)/\DI.l i_2=DI.l (C1.i pq)/\DI.k i_2=DI.k (C1.i pq))/\T10/\i.2=C1.w pq/\0=(↑(C1.j pq):Int)/\True)/\True/\(0=0/\0=0/\ts=ts/\(DI.q i_2).3=(DI.q (C1.i pq)).3/\(DI.q i_2).2=(DI.q (C1.i
 pq)).2/\RM.D (DI.q i_2)=RM.D (DI.q (C1.i pq)))/\True/\T2/\True)/\∀(i:C1),q2P q b0 b c l i->((T6 i).1 b0/\1<(T6 i).2 b0)/\isSlN (T28 i)/\(decide ((T26 i)<(↑(slL (T28 i)):Int))=true->((T6 i).1 b0/\1<(T6 i).2 b0)/\(Go.Sx.isSl
 (T28 i)/\0<=(T26 i)/\(T26 i)<(↑(slL (T28 i)):Int))/\((T6 i).1 (slB (T28 i))/\slC (T28 i)+toNat (T26 i)*1<(T6 i).2 (slB (T28 i))/\C9 IntKind.u32 (T9 i))/\∀(i_3:DI),((byO (RM.mk (RM.D (T6 i)) (T6 i).2 (T6 i).3) (DI.b (C1.i
 i)) (DI.c (C1.i i)) (DI.l (C1.i i)) (DI.k (C1.i i))/\DI.l (C1.i i)<=1000000000)/\((0:Int)<=p9 (T9 i)/\p9 (T9 i)<(4294967296:Int))/\(C1.w i=(1:Int)∨C1.w i=(2:Int)∨C1.w i=(4:Int)))/\(apd (RM.mk (RM.D (T6 i)) (T6 i).2
 (T6 i).3) (DI.b (C1.i i)) (DI.c (C1.i i)) (DI.l (C1.i i)) (byL (p9 (T9 i)) (toNat (C1.w i))) i_3->∃(pq:C1),q2P q b0 b c l pq/\qnL q b0-C1.j pq<qnL q b0-C1.j i/\(T8/\(True/\DI.b i_3=DI.b (C1.i pq)/\DI.c i_3=DI.c (C1.i pq)/\
 DI.l i_3=DI.l (C1.i pq)/\DI.k i_3=DI.k (C1.i pq))/\T10/\C1.w i=C1.w pq/\wrap .i64 ((T26 i)+1)=(↑(C1.j pq):Int)/\True)/\True/\(0=0/\0=0/\ts=ts/\(DI.q i_3).3=(DI.q (C1.i pq)).3/\(DI.q i_3).2=(DI.q (C1.i pq)).2/\
 RM.D (DI.q i_3)=RM.D (DI.q (C1.i pq)))/\True/\T2/\True))/\(decide ((T26 i)<(↑(slL (T28 i)):Int))=false->((T6 i).1 b0/\0<(T6 i).2 b0/\b0N ((T6 i).3 b0 0))/\((!a0E ((T6 i).3 b0 0))=true->∀(i_3:ApI),appO (RM.D (T6 i)) (T6
 i).2 1 1 (DI.b (C1.i i)) (DI.c (C1.i i)) (DI.l (C1.i i)) (DI.k (C1.i i)) 1/\(R0 (RM.D (T6 i)) (T6 i).2 (T6 i).3 1 (DI.b (C1.i i)) (DI.c (C1.i i)) (DI.l (C1.i i)) (DI.k (C1.i i)) 1 [Value.int .u8 (0:Int)] i_3->R (Option.some (Ob.mk true 0
 (b9.raw ts (ApI.D i_3) i_3.5 i_3.6) 0)) (SV.slb 0 i_3.1 i_3.2 (DI.l (C1.i i)+1) i_3.3)))/\((!a0E ((T6 i).3 b0 0))=false->∀(i_3:ApI),appO (RM.D (T6 i)) (T6 i).2 1 1 (DI.b (C1.i i)) (DI.c (C1.i i)) (DI.l (C1.i i)) (DI.k (C1.i i)) 1/\(R0
 (RM.D (T6 i)) (T6 i).2 (T6 i).3 1 (DI.b (C1.i i)) (DI.c (C1.i i)) (DI.l (C1.i i)) (DI.k (C1.i i)) 1 [Value.int .u8 (1:Int)] i_3->(∃(pq:QC),q3P q b0 b c l pq/\(T8/\(True/\i_3.1=DI.b (QC.i pq)/\i_3.2=DI.c (QC.i pq)/\DI.l (C1.i i)+1 =
 DI.l (QC.i pq)/\i_3.3=DI.k (QC.i pq))/\T10/\T10/\0=(T27 pq)/\True)/\True/\(0=0/\0=0/\ts=ts/\i_3.6=(T16 pq).3/\i_3.5=(T16 pq).2/\ApI.D i_3=RM.D (T16 pq))/\True/\T2/\True/\(206=206/\0=0/\4<=4/\∀(i:Nat),i<4
 ->List.getD [(0:Int),(0:Int),(0:Int),(0:Int)] i (0:Int)=pq.4 i)/\True)/\∀(i:QC),q3P q b0 b c l i->(decide ((T3 i)<4)=true->(0<=(T3 i)/\(T3 i)<(4:Int))/\((T7 i).1 b0/\2+toNat (T3 i)*1<(T7 i).2 b0)/\a4r
 (T14 i)/\(U2 (T14 i)=true->∀(i_4:ApI),appO (RM.D (T7 i)) (T7 i).2 1 1 (T22 i) (DI.c (QC.i i)) (T24 i) (DI.k (QC.i i)) 1/\(R0 (RM.D (T7 i)) (T7 i).2 (T7 i).3 1 (T22 i) (DI.c (QC.i i)) (T24 i) (DI.k (QC.i i)) 1 [Value.int .u8 (0:Int)]
 i_4->∃(pq:QC),q3P q b0 b c l pq/\4-QC.j pq<4-QC.j i/\(T8/\(True/\i_4.1=DI.b (QC.i pq)/\i_4.2=DI.c (QC.i pq)/\DI.l (QC.i i)+1=DI.l (QC.i pq)/\i_4.3=DI.k (QC.i pq))/\T10/\T10/\wrap .i64 ((T3 i)+(1:Int))=(T27
 pq)/\True)/\True/\(0=0/\0=0/\ts=ts/\i_4.6=(T16 pq).3/\i_4.5=(T16 pq).2/\ApI.D i_4=RM.D (T16 pq))/\True/\T2/\True/\(206=206/\0=0/\4<=4/\∀(i_5:Nat),i_5<4->i.4 i_5=pq.4 i_5)/\True))/\(U2 (T14 i)=false->∀
 (i_4:ApI),appO (RM.D (T7 i)) (T7 i).2 1 1 (T22 i) (DI.c (QC.i i)) (T24 i) (DI.k (QC.i i)) 1/\(R0 (RM.D (T7 i)) (T7 i).2 (T7 i).3 1 (T22 i) (DI.c (QC.i i)) (T24 i) (DI.k (QC.i i)) 1 [Value.int .u8 (1:Int)] i_4->((0<=(T3 i)/\(T3 i)<4)/\1
 <=4)/\0+toNat (T3 i)*1+1<=4/\∀(i_5:ApI),appO (ApI.D i_4) i_4.5 1 1 i_4.1 i_4.2 (DI.l (QC.i i)+1) i_4.3 4/\(R0 (ApI.D i_4) i_4.5 i_4.6 1 i_4.1 i_4.2 (DI.l (QC.i i)+1) i_4.3 4 [Value.int .u8 (0:Int),Value.int .u8 (0:Int),
 Value.int .u8 (0:Int),Value.int .u8 (0:Int)] i_5->∃(pq:QC),q3P q b0 b c l pq/\4-QC.j pq<4-QC.j i/\(T8/\(True/\i_5.1=DI.b (QC.i pq)/\i_5.2=DI.c (QC.i pq)/\DI.l (QC.i i)+1+4=DI.l (QC.i pq)/\i_5.3=DI.k (QC.i pq))/\T10
 /\T10/\wrap .i64 ((T3 i)+1)=(T27 pq)/\True)/\True/\(0=0/\0=0/\ts=ts/\i_5.6=(T16 pq).3/\i_5.5=(T16 pq).2/\ApI.D i_5=RM.D (T16 pq))/\True/\T2/\True/\(206=206/\0=0/\4<=4/\∀(i_6:Nat),i_6<4->upd (QC.g i)
 (T18 i) (↑(DI.l (QC.i i)+1):Int) i_6=pq.4 i_6)/\True))))/\(decide ((T3 i)<4)=false->(∃(pq:QC),q4P q b0 T12 b c l pq/\(T8/\(T17 i pq)/\T10/\T10/\(0:Int)=(T27 pq)/\True)/\True/\(T20 i pq)/\True/\T2/\True/\(T25 i pq)/\
 True)/\∀(i:QC),q4P q b0 T12 b c l i->(decide ((T3 i)<4)=true->(0<=(T3 i)/\(T3 i)<(4:Int))/\((T7 i).1 b0/\2+toNat (T3 i)*1<(T7 i).2 b0)/\a4r (T14 i)/\((!U2 (T14 i))=true->∀(_:Unit),((0<=(T3 i)/\(T3 i)<4)/\
 1<=4)/\0+toNat (T3 i)*1+1<=4/\((0:Int)<=i.4 (T18 i)/\toNat (i.4 (T18 i))<=DI.l (QC.i i)/\toNat (i.4 (T18 i))<DI.k (QC.i i))/\(((0:Int)<=wrap IntKind.u32 (↑(T24 i):Int)/\wrap IntKind.u32 (↑(T24 i) :
 Int)<4294967296)/\(4<=DI.l (QC.i i)-toNat (i.4 (T18 i))/\(T7 i).1 (T22 i)/\DI.c (QC.i i)+toNat (i.4 (T18 i))*1+4<=(RM.mk (RM.D (T7 i)) (RM.S (T7 i)) (RM.F (T7 i))).2 (T22 i))/\C9 .u8 ((RM.mk (RM.D (T7 i)) (RM.S (T7 i))
 (RM.F (T7 i))).3 (T22 i) (DI.c (QC.i i)+toNat (i.4 (T18 i))*1+3)))/\true=true/\(True->∀(i_5:DI),(0<=(T3 i)/\(T3 i)<4)/\((T7 i).1 b0/\2+toNat (T3 i)*1<(T5 i).2 b0)/\((midOk a0 a2/\midOk a1 a3)/\0<=(T3 i)/\(T3 i)
 < 4)/\((0=0/\0=ptC (T4 i)/\qmO (T13 i) (ptB (T4 i)) (T23 i) (T22 i) (DI.c (QC.i i)) (T24 i) (DI.k (QC.i i)) H)/\a1w (T4 i))/\true=true/\(qmP (T13 i) (ptB (T4 i)) (T23 i) (T22 i) (DI.c (QC.i i)) (T24 i) i_5->∃(pq:QC),q4P q b0 T12 b c
 l pq/\4-QC.j pq<4-QC.j i/\(T8/\(True/\DI.b i_5=DI.b (QC.i pq)/\DI.c i_5=DI.c (QC.i pq)/\DI.l i_5=DI.l (QC.i pq)/\DI.k i_5=DI.k (QC.i pq))/\T10/\T10/\wrap .i64 ((T3 i)+1)=(T27 pq)/\True)/\True/\(0=0/\0=0/\
 ts=ts/\(DI.q i_5).3=(T16 pq).3/\(DI.q i_5).2=(T16 pq).2/\RM.D (DI.q i_5)=RM.D (T16 pq))/\True/\T2/\True/\(206=206/\0=0/\4<=4/\∀(i_6:Nat),i_6<4->i.4 i_6=pq.4 i_6)/\True)))/\((!U2 (T14 i))=false->∃(pq:QC),q4P
 q b0 T12 b c l pq/\4-QC.j pq<4-QC.j i/\(T8/\(T17 i pq)/\T10/\T10/\wrap .i64 ((T3 i)+1)=(T27 pq)/\True)/\True/\(T20 i pq)/\True/\T2/\True/\(T25 i pq)/\True))/\(decide ((T3 i)<4)=false->R (Option.some (Ob.mk true 0
 (b9.raw ts (RM.D (T7 i)) (T7 i).2 (T7 i).3) 0)) (SV.slb 0 (T22 i) (DI.c (QC.i i)) (T24 i) (DI.k (QC.i i)))))))))))):=by subst t1 t2 t3 t4 t5 t6 t7 t8 t9 t10 t11 t12 t13 t14 t15 t16 t17 t18 t19 t20 t21 t22 t23 t24 t25 t26 t27 t28;kernel_rfl
theorem c8r(H:Nat)(ih:A5 prog 118 (q7 DI ⟨default⟩ (a6z H))):A5 prog 118 (q7 (DI) ⟨default⟩ (c2T (H+1))):=by
 refine E4 (x12 H ih) func118 rfl (by kernel_rfl) λargs=>?_
 unfold c2T;split;rotate_left;trivial;rename_i n b0 c0 n1 b c l kk a0 a1 a2 a3;intro o0;try dsimp only
 split;rotate_left;trivial;rename_i ts q hm0;intro ho;replace ho:n=n1/\0=c0/\(qmO q b0 ⟨a0,a1,a2,a3⟩ b c l kk (H+1)):=ho;obtain⟨heq0,heq1,ho⟩:=ho;subst heq0;subst heq1;refine⟨?_,Nat.succ_pos _,ts,λ(i:DI)=>i.q,λ(i:DI)=>.slb 0 i.b i.c i.l i.k,λ_=>rfl,?_,_,_,(b9B (K0 1 ts (λ(i:DI)=>qmP q b0 ⟨a0,a1,a2,a3⟩ b c l i) (λ(i:DI)=>i.q) (λ(i:DI)=>.slb 0 i.b i.c i.l i.k)) H ts q b0 b c l kk a0 a1 a2 a3 rfl rfl rfl rfl rfl rfl rfl rfl rfl rfl rfl rfl rfl rfl rfl rfl rfl rfl rfl rfl rfl rfl rfl rfl rfl rfl rfl rfl).mpr ?_⟩
 ·refine l9 rfl ⟨λ_=>rfl,?_,⟨trivial,C6 hm0,trivial⟩⟩;simp[y5,z6,C5,z7,z5,nth,a9]
 ·intro i _;rfl
 ·obtain⟨hO,R,m,d,k,hA,hbd,hdK,hd16,hQB⟩:=ho;obtain⟨s1,s2,s3,s4,s5,s6⟩:=hA.sl;have hL:slL (q.F b0 1)=qnL q b0:=rfl
  have hw32:∀ v:Nat,v<=100000000->wrap .u32 ((v:Nat):Int)=((v:Nat):Int):=λv hv=>by
   show ((v:Nat):Int) % 4294967296=_;omega
  have hI:∀ t,p9 (q.F (slB (q.F b0 1)) (slC (q.F b0 1)+t))=qit q b0 t:=λ_=>rfl
  simp only[true_and,and_true,eq_self,tN9,Nat.mul_one,decide_eq_true_eq,decide_eq_false_iff_not,true_implies];simp only[hL,hw32 _ (show qnL q b0<=100000000 by omega),hI];refine⟨⟨s5,by omega⟩,s1,⟨(0,nbI (qnL q b0:Nat)),⟨Nat.zero_le _,b3f _,Int.le_refl _,λt ht=>absurd ht (Nat.not_lt_zero t)⟩,rfl,rfl⟩,?_⟩;rintro⟨j,w⟩ ⟨p1,p2,p3,p4⟩;dsimp only at p1 p2 p3 p4 ⊢;refine⟨⟨s5,by omega⟩,s1,λhlt=>?_,λhge=>?_⟩
  ·obtain⟨i1,i2,i3,i4,i5⟩:=hA.item (apd.refl hO) (t:=j) (by omega);have hwj:IntKind.i64.wrap ((j:Int)+1)=((j+1:Nat):Int):=by rw[j8 (by omega) (by omega)];rfl
   refine⟨⟨s5,by omega⟩,⟨i1,by omega,by omega⟩,⟨i2.1,i2.2,by rw[i3];rfl⟩,λhw=>⟨(j+1,nbI (qit q b0 j)),⟨by show j+1<=_;omega,b3f _,by show _<=nbI (qit q b0 j);omega,λt ht=>?_⟩,by show qnL q b0-(j+1)<qnL q b0-j;omega,rfl,hwj⟩,λhw=>⟨(j+1,w),⟨by show j+1<=_;omega,p2,p3,λt ht=>?_⟩,by show qnL q b0-(j+1)<qnL q b0-j;omega,rfl,hwj⟩⟩
   ·show nbI (qit q b0 t)<=nbI (qit q b0 j);have ht:t<j+1:=ht;rcases Nat.lt_or_ge t j with c1|c1
    ·have:=p4 t c1;omega
    ·have:t=j:=by omega
     subst this;exact Int.le_refl _
   ·show nbI (qit q b0 t)<=w;have ht:t<j+1:=ht;rcases Nat.lt_or_ge t j with c1|c1
    ·exact p4 t c1
    ·have:t=j:=by omega
     subst this;omega
  have hj:j=qnL q b0:=by omega
  subst hj;have hq1:q1P q b0 (qnL q b0,w):=⟨Nat.le_refl _,p2,p3,p4⟩;have hl8:l<=100000000:=by omega
  obtain⟨wn,hwn,hw4,hw1⟩:=p2.nat;refine λi=>⟨L7 hO (by omega) (by omega),λhp=>?_⟩
  have a1:=K5 hO (us:=[w]) rfl (by intro x hx;simp at hx;subst hx;exact p2.r) rfl hp;obtain⟨⟨b1,b2⟩,b3⟩:=hA.off a1;dsimp only at b1 b2 b3;simp only[b3,hL,hw32 _ (show qnL q b0<=100000000 by omega)];refine⟨⟨b1,by omega⟩,s1,λi2=>⟨⟨⟨a1.o,by omega⟩,⟨by omega,by omega⟩,p2⟩,λhp2=>?_⟩⟩;have a2:=a1.trans hp2;refine⟨⟨⟨i2,0,w⟩,⟨?_,hq1,Nat.zero_le _⟩,⟨⟨rfl,rfl,rfl,rfl⟩,rfl,rfl⟩,rfl,rfl,rfl⟩,?_⟩
  ·have:qhI q b0 w 0=[w]++byL (qnL q b0:Nat) w.toNat:=by simp[qhI]
   show apd q b c l (qhI q b0 w 0) i2;rw[this];exact a2
  clear a1 a2 b1 b2 b3 hp hp2 hge;rintro⟨i3,j,w2⟩ ⟨g1,g2,g3⟩;dsimp only at g1 g2 g3 ⊢;obtain⟨⟨b1,b2⟩,b3⟩:=hA.off g1;obtain⟨wn2,rfl,hw24,hw21⟩:=g2.2.1.nat;have hlen:=g1.n;rw[S4]at hlen;have hm:=a5O (n:=j) hw24
  have hqb:26+4*qnL q b0<=qBy d k.its.length:=by
   obtain⟨sp,v,E,ks,_,_,_,e4,_⟩:=hA.its;obtain⟨_,_,_,_,f1,_,_,f4,_⟩:=hA.node;have:qnL q b0<=k.its.length:=by unfold qnL;rw[f1.s1,f1.u.n];exact f4
   have h2:26*1<=26*(1+d*k.its.length):=Nat.mul_le_mul_left _ (by omega);unfold qBy;omega
  simp only[b3,hL];refine⟨⟨b1,by omega⟩,s1,λhlt=>?_,λhge=>?_⟩
  ·obtain⟨i1,i2',i3',i4,i5⟩:=hA.item g1 (t:=j) (by omega);have hwj:IntKind.i64.wrap ((j:Int)+1)=((j+1:Nat):Int):=by rw[j8 (by omega) (by omega)];rfl
   simp only[i3',p9];refine⟨⟨b1,by omega⟩,⟨i1,by omega,by omega⟩,⟨i2'.1,i2'.2,rfl⟩,λi6=>⟨⟨⟨g1.o,by omega⟩,⟨i4,i5⟩,g2.2.1⟩,λhp=>⟨⟨i6,j+1,(wn2:Int)⟩,⟨?_,g2,by show j+1<=_;omega⟩,by show qnL q b0-(j+1)<qnL q b0-j;omega,⟨⟨rfl,rfl,rfl,rfl⟩,rfl,hwj⟩,rfl,rfl,rfl⟩⟩⟩;show apd q b c l (qhI q b0 (wn2:Int) (j+1)) i6;rw[b8N];exact g1.trans hp
  have hj:j=qnL q b0:=by omega
  subst hj;refine⟨⟨b1,by omega,s2⟩,λhs=>λi4=>⟨L7 g1.o (by omega) (by omega),λhp=>?_⟩,λhs=>λi4=>⟨L7 g1.o (by omega) (by omega),λhp=>?_⟩⟩
  ·have a1:=g1.trans (K5 g1.o (us:=[0]) rfl (by decide) rfl hp);have hs':a0E (q.F b0 0)=false:=by simpa using hs
   exact⟨⟨⟨i4.D,i4.S,i4.F⟩,i4.b,i4.c,i3.l+1,i4.k⟩,λR' m' d' k' hA' hbd'=>c4j hA' hs' a1 g2,rfl,⟨trivial,rfl,rfl,rfl,rfl⟩⟩
  have hs':a0E (q.F b0 0)=true:=by simpa using hs
  have a1:=g1.trans (K5 g1.o (us:=[1]) rfl (by decide) rfl hp);rw[<-a7p]at a1;refine⟨⟨⟨⟨⟨i4.D,i4.S,i4.F⟩,i4.b,i4.c,i3.l+1,i4.k⟩,0,(wn2:Int),λ_=>0⟩,⟨hs',a1,g2,Nat.zero_le _,λt ht=>absurd ht (Nat.not_lt_zero t)⟩,⟨⟨rfl,rfl,rfl,rfl⟩,rfl⟩,⟨rfl,rfl,rfl⟩,Nat.le_refl _,λt ht=>?_⟩,?_⟩
  ·match t,ht with
   | 0,_=>rfl
   | 1,_=>rfl
   | 2,_=>rfl
   | 3,_=>rfl
  clear a1 hp b1 b2 b3 g1 hlen hm;obtain⟨e,rfl⟩:=hA.pos hs';rintro⟨i5,j,w3,gm⟩ ⟨_,g1,g3,g4,g5⟩;dsimp only at g1 g3 g4 g5 ⊢;obtain⟨⟨b1,b2⟩,b3⟩:=hA.off g1;have hF4:=b9V (w:=w3) hA hs' g3.2.1;have hFj:=a0G (q:=q) (b0:=b0) w3 g4;have hlen:=g1.n;have hN:∀ t,U2 (q.F b0 (2+t))=a4C q b0 t:=λ_=>rfl
  simp only[b3,hN];refine⟨λhlt=>?_,λhge=>?_⟩
  ·have hwj:IntKind.i64.wrap ((j:Int)+1)=((j+1:Nat):Int):=by rw[j8 (by omega) (by omega)];rfl
   refine⟨⟨by omega,by omega⟩,⟨b1,by omega⟩,s4 j (by omega),λhn i6=>⟨L7 g1.o (by omega) (by omega),λhp=>?_⟩,λhn i6=>⟨L7 g1.o (by omega) (by omega),λhp=>⟨⟨⟨by omega,by omega⟩,by omega⟩,by omega,λi7=>⟨?_,λhp2=>?_⟩⟩⟩⟩
   ·have a1:=g1.trans (K5 g1.o (us:=[0]) rfl (by decide) rfl hp);refine⟨⟨⟨⟨i6.D,i6.S,i6.F⟩,i6.b,i6.c,i5.l+1,i6.k⟩,j+1,w3,gm⟩,⟨hs',?_,g3,by show j+1<=4;omega,λt ht ht2=>?_⟩,by show 4-(j+1)<4-j;omega,⟨⟨rfl,rfl,rfl,rfl⟩,hwj⟩,⟨rfl,rfl,rfl⟩,Nat.le_refl _,λ_ _=>rfl⟩
    ·show apd q b c l (qhF q b0 w3 (j+1)) _;rw[a0j,show qfl q b0 j=[0]from if_pos hn];exact a1
    ·have ht:t<j+1:=ht;by_cases c1:t=j
     ·subst c1;rw[hn]at ht2;exact absurd ht2 (by decide)
     ·exact g5 t (by omega) ht2
   ·have a1:=K5 g1.o (us:=[1]) rfl (by decide) rfl hp;exact L7 a1.o (by show i5.l+1<=1000000000;omega) (by omega)
   ·have a1:=K5 g1.o (us:=[1]) rfl (by decide) rfl hp;have a2:=(g1.trans a1).trans (K5 a1.o (us:=[0,0,0,0]) rfl (by decide) rfl hp2);refine⟨⟨⟨⟨i7.D,i7.S,i7.F⟩,i7.b,i7.c,i5.l+1+4,i7.k⟩,j+1,w3,upd gm (0+j) ((i5.l+1:Nat):Int)⟩,⟨hs',?_,g3,by show j+1<=4;omega,λt ht ht2=>?_⟩,by show 4-(j+1)<4-j;omega,⟨⟨rfl,rfl,rfl,rfl⟩,hwj⟩,⟨rfl,rfl,rfl⟩,Nat.le_refl _,λ_ _=>rfl⟩
    ·show apd q b c l (qhF q b0 w3 (j+1)) _;rw[a0j,show qfl q b0 j=[1]++[0,0,0,0]from if_neg (by rw[hn];decide),<-List.append_assoc];exact a2
    ·have ht:t<j+1:=ht;show upd gm (0+j) ((i5.l+1:Nat):Int) t=_;rw[Nat.zero_add];by_cases c1:t=j
     ·subst c1;unfold upd;simp;omega
     ·have:=g5 t (by omega) ht2;unfold upd;simp[c1];rw[this];rfl
  have hj:j=4:=by omega
  subst hj;refine⟨⟨⟨i5,0,w3,gm⟩,⟨hs',g3,Nat.zero_le _,g5,λR' m' d' k' hA' hbd'=>b8q (p:=⟨i5,4,w3,gm⟩) hA' hs' g1 g3.2.1 rfl rfl rfl⟩,⟨⟨rfl,rfl,rfl,rfl⟩,rfl⟩,⟨rfl,rfl,rfl⟩,Nat.le_refl _,λ_ _=>rfl⟩,?_⟩;clear b1 b2 b3 g1 hlen hge hFj hF4 g5 g4;rintro⟨i8,j,w4,gm4⟩ ⟨_,h1,h2,h3,h4⟩;dsimp only at h1 h2 h3 h4 ⊢;have hK:=h4 R m e k hA hbd;obtain⟨us,_,_,_,u1,_⟩:=id hK;obtain⟨⟨b1,b2⟩,b3⟩:=hA.off u1;dsimp only at b1 b2 b3;simp only[b3,hN];refine⟨λhlt=>⟨⟨by omega,by omega⟩,⟨b1,by omega⟩,s4 j (by omega),λhn=>?_,λhn=>?_⟩,λhge=>?_⟩
  ·have hn':a4C q b0 j=false:=by simpa using hn
   have hjl:j<4:=by omega
   have hwj:IntKind.i64.wrap ((j:Int)+1)=((j+1:Nat):Int):=by rw[j8 (by omega) (by omega)];rfl
   obtain⟨x,x1,x2,x3,x4,x5,x6,x7,x8⟩:=b4j hA hbd h1.2.1 hK hjl hn';have hgm:=h3 j hjl hn';dsimp only at x1 x2 x3 x4 x5 x6 x7 x8;rw[Nat.add_assoc]at hgm;have hgm0:gm4 (0+j)=((l+((qhF q b0 w4 j).length+1):Nat):Int):=by rw[Nat.zero_add];exact hgm
   clear hgm;generalize hM:l+((qhF q b0 w4 j).length+1)=M at *;have hl8':=hw32 i8.l (by omega)
   have hby:C9 .u8 (i8.q.F i8.b (i8.c+M+3)):=by
    have:=(x4.is (M+3) (by omega)).i
    rwa [<-Nat.add_assoc]at this
   have hbne:b0≠i8.b:=λe1=>by
    rcases u1.nw with e2|e2
    ·exact hA.bne (e1.trans e2)
    ·exact e2 (e1▸s5)
   have hpt:pB (pB (pB (pB i8.q.F i8.b (i8.c+M) (i8.l:Nat) 0) i8.b (i8.c+M) (i8.l:Nat) 1) i8.b (i8.c+M) (i8.l:Nat) 2) i8.b (i8.c+M) (i8.l:Nat) 3 b0 (2+j)=.pointer (some ⟨x.b,0,none⟩):=by
    unfold pB;rw[g8 (.inl hbne),g8 (.inl hbne),g8 (.inl hbne),g8 (.inl hbne),b3];exact x1
   have x4S:=x4.S;have x4k:=x4.le;simp only[hgm0,tN9,hl8',hpt,ptC,ptB];refine λ_=>⟨⟨⟨by omega,by omega⟩,by omega⟩,by omega,⟨by omega,by omega,by omega⟩,⟨⟨by omega,by omega⟩,⟨by omega,x4.D,by omega⟩,hby⟩,λi9=>⟨⟨by omega,by omega⟩,⟨b1,by show 2+j<i8.q.S b0;omega⟩,⟨hQB.midOk (by omega),by omega,by omega⟩,⟨⟨trivial,?_⟩,rfl⟩,λhP=>⟨⟨i9,j+1,w4,gm4⟩,⟨hs',h1,by show j+1<=4;omega,h3,λR' m' d' k' hA' hbd'=>?_⟩,by show 4-(j+1)<4-j;omega,⟨⟨rfl,rfl,rfl,rfl⟩,hwj⟩,⟨rfl,rfl,rfl⟩,Nat.le_refl _,λ_ _=>rfl⟩⟩⟩
   ·exact⟨x5,R,m,e,x,x6,x7,by omega,by omega,hQB.sub (by omega) _⟩
   ·obtain⟨y,y1,_,_,_,_,_,_,y8⟩:=b4j hA' hbd' h1.2.1 (h4 R' m' d' k' hA' hbd') hjl hn';dsimp only at y1 y8;rw[x1]at y1;have hxy:x.b=y.b:=by simpa using y1
    rw[hM,<-hxy]at y8;exact y8 i9 hP
  ·have hn':a4C q b0 j=true:=by simpa using hn
   have hwj:IntKind.i64.wrap ((j:Int)+1)=((j+1:Nat):Int):=by rw[j8 (by omega) (by omega)];rfl
   exact⟨⟨i8,j+1,w4,gm4⟩,⟨hs',h1,by show j+1<=4;omega,h3,λR' m' d' k' hA' hbd'=>b9n (h4 R' m' d' k' hA' hbd') (by show j<4;omega) hn' rfl rfl rfl⟩,by show 4-(j+1)<4-j;omega,⟨⟨rfl,rfl,rfl,rfl⟩,hwj⟩,⟨rfl,rfl,rfl⟩,Nat.le_refl _,λ_ _=>rfl⟩
  ·refine⟨i8,λR' m' d' k' hA' hbd'=>?_,rfl,⟨trivial,rfl,rfl,rfl,rfl⟩⟩;obtain⟨e',rfl⟩:=hA'.pos hs';exact c3y hA' h1 (h4 R' m' e' k' hA' hbd') (by show 4<=j;omega)
theorem b5o:A5 prog 118 (q7 DI ⟨default⟩ (a6z 0)):=by
 refine a1W x0 func118 rfl (by kernel_rfl) λargs=>?_
 unfold a6z;split;rotate_left;trivial;rename_i n b0 c0 n1 b c l kk a0 a1 a2 a3;intro o0;try dsimp only
 split;rotate_left;trivial;intro ho;exfalso;obtain⟨_,_,_,R,m,d,k,_,_,h,_⟩:=ho;omega
theorem b4n:∀ H,A5 prog 118 (q7 DI ⟨default⟩ (a6z H))
 | 0=>b5o
 | H+1=>c8r H (b4n H)
end
def W22(x:Nat):Prop:=FI x (wh x)/\(wh x).natAbs<=2 ^ 22
def FL2(g:Nat->Nat)(m:Nat):Prop:=∀ j,j<m->W22 (g j)
theorem c6o{a b c d e f:Nat}(ha:W22 a)(hb:W22 b)(hc:W22 c)(hd:W22 d)(he:W22 e)(hf:W22 f):PW a b c d e f :=
 ⟨ha.1,hb.1,hc.1,hd.1,he.1,hf.1,ha.2,hb.2,hc.2,hd.2,he.2,hf.2⟩
theorem W1.w22{x:Nat}(h:W1 x):W22 x:=⟨h.1,h.abs⟩
noncomputable def b3z:List SV->RdM
 | [.ptr s 0]=>.read s λo0=>(match a4o o0.c with
  | some (cl,cw,cv,k,x,y,z,w,p,n)=>.read p λo1=>(match z9 .f64 o1.c with
  | some (m1,g)=>.ret ⟨[.ptr 0 0],[(0,⟨false,150,a0D cl cw cv k x y z w 1 n,0⟩),(1,⟨false,100, .flts .f64 m1 g,0⟩)], .int .i64 (nsg cl n (wz g)),[],[],some (m1=2*n/\n<=1000000/\FL2 g (2*n))⟩
  | none=>.fail)
  | none=>.fail)
 | _=>.fail
theorem b8M(cl cw cv:Bool)(k:Int)(x y z w:Nat)(_:Nm)(n:Nat)(g:Nat->Nat){w9:HC}(e9:w9=⟨[.ptr 0 0],[(0,⟨false,150,a0D cl cw cv k x y z w 1 n,0⟩),(1,⟨false,100, .flts .f64 (2*n) g,0⟩)], .int .i64 (nsg cl n (wz g)),[],[],some (2*n=2*n/\n<=1000000/\FL2 g (2*n))⟩){T1}(t1:T1=(fEq .f64 (g (0 +
 Int.toNat (IntKind.wrap .i64 ((↑n:Int)-1))*2)) (g 0)&&(fEq .f64 (g (0+Int.toNat (IntKind.wrap .i64 ((↑n:Int)-1))*2+1)) (g 1)&&true))){T2}(t2:T2=(↑n:Int)){T3}(t3:T3=(↑(nsg cl n (wz g)):Int)):F7 GPF 2 [] [] (p7 f111) (A8 f111.ntmps w9.args w9.heap 2) (B5 GPF.E.T f111.results.toList λS v=>C8 2 w9 S v)=(
 (cl=true->(decide (T2<3)=true->0=T3/\True)/\(decide (T2<3)=false->(((0:Int)<=IntKind.wrap .i64 (T2-1)/\IntKind.wrap .i64 (T2-1)<T2)/\1<=2*n)/\0+Int.toNat (IntKind.wrap .i64 (T2-1))*2+2<=2*n/\(((0:Int)<=0
 /\0<T2)/\1<=2*n)/\2<=2*n/\true=true/\(T1=true->IntKind.wrap .i64 (T2-1)=T3/\True)/\(T1=false->T2=T3/\True)))/\(cl=false->(decide (T2<2)=true->0=T3/\True)/\(decide (T2<(2:Int))=false->IntKind.wrap .i64
 (T2-1)=T3/\True))):=by subst e9 t1 t2 t3;kernel_rfl
theorem c7K:A9 prog 111 (A7 b3z):=by
 refine y7 gPF func111 rfl (by kernel_rfl) λargs=>?_
 unfold b3z;split;rotate_left;trivial;rename_i s;intro o0;try dsimp only
 split;rotate_left;trivial;rename_i cl cw cv k x y z w p n hm0;intro o1;try dsimp only
 split;rotate_left;trivial;rename_i m1 g hm1;intro ho;replace ho:m1=2*n/\n<=1000000/\FL2 g (2*n):=ho;obtain⟨hsz1,ho⟩:=ho;subst hsz1;refine⟨?_,_,_,(b8M cl cw cv k x y z w p n g rfl rfl rfl rfl).mpr ?_⟩
 ·refine l9 rfl ⟨?_,⟨trivial,U8 hm0 a9,⟨trivial,(A2 hm1).1,trivial⟩⟩⟩;simp[y5,z6,z7,z5,nth,a9]
 ·obtain⟨hn,hg⟩:=ho;have hw:IntKind.i64.wrap ((n:Int)-1)=n-1:=j8 (by omega) (by omega);rw[hw];refine⟨λhc=>⟨λh=>?_,λh=>?_⟩,λhc=>⟨λh=>?_,λh=>?_⟩⟩
  ·have h:=oT9 h;refine⟨?_,trivial⟩;unfold nsg;rw[if_pos hc,if_pos (by omega)];rfl
  ·have h:=of_decide_eq_false h;have e:0+((n:Int)-1).toNat*2=2*(n-1):=by omega
   rw[e];have e1:fEq .f64 (g (2*(n-1))) (g 0)=decide (wz g (2*(n-1))=wz g 0):=N1 (hg _ (by omega)).1 (hg _ (by omega)).1;have e2:fEq .f64 (g (2*(n-1)+1)) (g 1)=decide (wz g (2*(n-1)+1)=wz g 1):=N1 (hg _ (by omega)).1 (hg _ (by omega)).1;rw[e1,e2];refine⟨by omega,by omega,by omega,by omega,rfl,λh1=>⟨?_,trivial⟩,λh1=>⟨?_,trivial⟩⟩
   ·unfold nsg;rw[if_pos hc,if_neg (by omega),if_pos (by simpa using h1)];omega
   ·unfold nsg;rw[if_pos hc,if_neg (by omega),if_neg (by simpa using h1)]
  ·have h:=oT9 h;refine⟨?_,trivial⟩;unfold nsg;rw[if_neg (by simp[hc])];omega
  ·have h:=of_decide_eq_false h;refine⟨?_,trivial⟩;unfold nsg;rw[if_neg (by simp[hc])];omega
structure BI where
 q:RM
 b:Nat
 j:Nat
def biT:List Nat:=[180,191,177,208,210,178,188,183,185,98,5,200]
noncomputable def b5X(g:Nat->Nat)(n i:Nat):Bx:=⟨zI (.float .f64 (rcF g n i).x0),zI (.float .f64 (rcF g n i).y0),zI (.float .f64 (rcF g n i).x1),zI (.float .f64 (rcF g n i).y1)⟩
noncomputable def a5x(g:Nat->Nat)(n j:Nat):List (Int×Bx):=(List.range j).map λ(i:Nat)=>(((i:Nat):Int),b5X g n i)
def b1j(g:Nat->Nat)(n m:Nat)(p:BI):Prop:=p.j<=m/\∃ fp,isRT p.q p.b 0 fp (a5x g n p.j)
def b1L(g:Nat->Nat)(n m:Nat)(Q:Q4)(p:BI):Prop:=p.j<=m/\∃ k,qiA p.q g n p.b Q 16 k/\k.its.Perm (List.range p.j)
def b6X(m:Nat)(k:Int)(n:Nat)(g:Nat->Nat)(Q:Q4)(r:Nat×(Nat->Int)):Prop :=
 ((5<=r.1/\r.1<=2000000)/\∀ p,p<r.1->0<=r.2 p/\r.2 p<256)/\r.2 0=k/\leN r.2 1 4=(r.1:Int)/\
 (k=1->(m=0->r.1=5)/\(m≠0->∃ h its B,its.Perm (a5x g n m)/\h<=100/\r.2 5=((h:Nat):Int)/\6<=r.1/\a0t r.2 h 6 r.1 its B))/\
 (k=2->∃ its,its.Perm (List.range m)/\a5A r.2 (rcF g n) n 16 5 r.1 Q its)
def b8r(m:Nat)(k:Int)(n:Nat)(g:Nat->Nat)(Q:Q4):Prop :=
 (k=1∨k=2)/\n<=100/\FL2 g (2*n)/\(k=2->QB 16 Q/\∀ i,i<m->a2A (rcF g n) n Q i)
theorem b4U(cl:Bool)(n:Nat)(z:Nat->Int):nsg cl n z<=n:=by
 unfold nsg
 repeat' split
 all_goals omega
theorem c3T{n i:Nat}(h:i<n):nx n i<n:=by
 unfold nx;split <;> omega
theorem b4P{x y:Nat}(hx:W22 x)(hy:W22 y):W22 (E8 x y):=by unfold E8;split <;> assumption
theorem b3Z{x y:Nat}(hx:W22 x)(hy:W22 y):W22 (E6 x y):=by unfold E6;split <;> assumption
theorem W22.fz{x:Nat}(h:W22 x):fz (.float .f64 x) (wh x):=⟨rfl,h.1,h.2⟩
theorem b7t{g:Nat->Nat}{n i:Nat}(h:FL2 g (2*n))(hi:i<n):W22 (rcF g n i).x0/\W22 (rcF g n i).y0/\W22 (rcF g n i).x1/\W22 (rcF g n i).y1:=by
 have h1:=c3T hi;exact⟨b4P (h _ (by omega)) (h _ (by omega)),b4P (h _ (by omega)) (h _ (by omega)),b3Z (h _ (by omega)) (h _ (by omega)),b3Z (h _ (by omega)) (h _ (by omega))⟩
theorem b5i(g:Nat->Nat)(n j:Nat):a5x g n (j+1)=a5x g n j++[((j:Int),b5X g n j)]:=by
 unfold a5x;rw[List.range_succ,List.map_append];rfl
theorem a3P(g:Nat->Nat)(n j:Nat):(a5x g n j).length=j:=by simp[a5x]
def nwB(q:RM)(a s:Nat)(f:Nat->Value):RM:=⟨L4 q.D a,E5 q.S a s,D7 q.F a f⟩
theorem a5L{q:RM}{a s:Nat}{f:Nat->Value}(ha:¬q.D a):∀ c,q.D c->(nwB q a s f).D c/\(nwB q a s f).S c=q.S c/\∀ k,(nwB q a s f).F c k=q.F c k:=λc hc=>by
 have hne:c≠a:=λe=>ha (e▸hc)
 exact⟨.inr hc,by simp only[nwB,E5];rw[if_neg hne],λk=>by simp only[nwB,D7];rw[if_neg hne]⟩
theorem a5M(q:RM)(a s:Nat)(f:Nat->Value):(nwB q a s f).D a/\(nwB q a s f).S a=s/\∀ k,(nwB q a s f).F a k=f k:=⟨.inl rfl,by simp[nwB,E5],λk=>by simp[nwB,D7]⟩
theorem b9d(g:Nat->Nat)(n m:Nat){a:Nat}{q:RM}(hD:q.D a)(hS:q.S a=8)(hF:∀ k,q.F a k=rz tys 180 k):b1j g n m ⟨q,a,0⟩:=by
 refine⟨Nat.zero_le _,[], .inl ⟨rfl,rfl,hD,by show 0+8<=q.S a;omega,?_,?_,?_⟩⟩
 ·show q.F a 0=_;rw[hF];rfl
 ·show q.F a (0+1)=_;rw[hF];rfl
 ·show q.F a (0+6)=_;rw[hF];rfl
theorem b8G{g:Nat->Nat}{n m:Nat}{p:BI}(h:b1j g n m p)(hj:p.j<m)(hm:m<=n)(hn:n<=100)(hg:FL2 g (2*n)){a c:Nat}(ha:¬p.q.D a)(hc:¬(c=a∨p.q.D c)){f1 f2:Nat->Value}
  (e1:f1 0=.float .f64 (rcF g n p.j).x0) (e2:f1 1=.float .f64 (rcF g n p.j).y0) (e3:f2 0=.float .f64 (rcF g n p.j).x1) (e4:f2 1=.float .f64 (rcF g n p.j).y1) :
  inO (nwB (nwB p.q a 2 f1) c 2 f2) p.b 0 a 0 2 c 0 2/\∀ q',inP (nwB (nwB p.q a 2 f1) c 2 f2) p.b 0 a 0 c 0 (p.j:Int) q'->b1j g n m ⟨q',p.b,p.j+1⟩:=by
 obtain⟨_,fp,ht⟩:=h;obtain⟨w1,w2,w3,w4⟩:=b7t hg (by omega:p.j<n);have hc':¬(nwB p.q a 2 f1).D c:=λhh=>hc (hh.elim (λe=>.inl e) .inr)
 have o1:=a5L (s:=2) (f:=f1) ha;have n1:=a5M p.q a 2 f1;have o2:=a5L (s:=2) (f:=f2) hc';have n2:=a5M (nwB p.q a 2 f1) c 2 f2;have n1':=o2 a n1.1;have f10:(nwB (nwB p.q a 2 f1) c 2 f2).F a 0=.float .f64 (rcF g n p.j).x0:=by rw[n1'.2.2,n1.2.2,e1]
 have f11:(nwB (nwB p.q a 2 f1) c 2 f2).F a (0+1)=.float .f64 (rcF g n p.j).y0:=by rw[n1'.2.2,n1.2.2];exact e2
 have f20:(nwB (nwB p.q a 2 f1) c 2 f2).F c 0=.float .f64 (rcF g n p.j).x1:=by rw[n2.2.2,e3]
 have f21:(nwB (nwB p.q a 2 f1) c 2 f2).F c (0+1)=.float .f64 (rcF g n p.j).y1:=by rw[n2.2.2];exact e4
 have ht2:isRT (nwB (nwB p.q a 2 f1) c 2 f2) p.b 0 fp (a5x g n p.j):=(ht.same o1).same o2;refine⟨⟨⟨rfl,rfl⟩,a3N.mk' n1'.1 (by rw[n1'.2.1,n1.2.1];omega) (by rw[f10];exact w1.fz) (by rw[f11];exact w2.fz),a3N.mk' n2.1 (by rw[n2.2.1];omega) (by rw[f20];exact w3.fz) (by rw[f21];exact w4.fz),fp,_,ht2,by rw[a3P];omega⟩,λq' hP=>?_⟩;obtain⟨fp',h'⟩:=hP fp _ ht2 (by rw[a3P];omega);refine⟨by show p.j+1<=m;omega,fp',?_⟩;rw[f10,f11,f20,f21]at h';show isRT q' p.b 0 fp' (a5x g n (p.j+1));rw[b5i];exact h'
def b5(k:Int):Nat->Value:=λj=>[Value.int .u8 k, .int .u8 0, .int .u8 0, .int .u8 0, .int .u8 0].getD j (.bool false)
theorem b8g{q:RM}{a:Nat}{k:Int}(hk:0<=k/\k<256):byO (nwB q a 5 (b5 k)) a 0 5 5:=by
 have n1:=a5M q a 5 (b5 k);refine⟨n1.1,Nat.le_refl _,by rw[n1.2.1];omega,λj hj=>?_⟩;rw[n1.2.2]
 match j,hj with
 | 0,_=>exact I0.mk' hk
 | 1,_=>exact I0.mk' (by decide)
 | 2,_=>exact I0.mk' (by decide)
 | 3,_=>exact I0.mk' (by decide)
 | 4,_=>exact I0.mk' (by decide)
theorem b8K{q:RM}{a:Nat}{k:Int}{us:List Int}{i:DI}(hp:apd (nwB q a 5 (b5 k)) a 0 5 us i)(hl:i.l<=2000000):byG (p4R i.q i.b (i.c+1) (i.l:Nat)) i.b i.c 0=k/\leN (byG (p4R i.q i.b (i.c+1) (i.l:Nat)) i.b i.c) 1 4=(i.l:Int)/\
  (∀ p,5<=p->byG (p4R i.q i.b (i.c+1) (i.l:Nat)) i.b i.c p=bG i p)/\∀ p,p<i.l->0<=byG (p4R i.q i.b (i.c+1) (i.l:Nat)) i.b i.c p/\byG (p4R i.q i.b (i.c+1) (i.l:Nat)) i.b i.c p<256:=by
 have off:∀ y,(y<i.c+1∨i.c+1+4<=y)->(p4R i.q i.b (i.c+1) (i.l:Nat)).F i.b y=i.q.F i.b y:=λy hxy=>by
  show pB _ _ _ _ _ i.b y=_;unfold pB;rw[g8 (by omega),g8 (by omega),g8 (by omega),g8 (by omega)]
 have at4:∀ j,j<4->(p4R i.q i.b (i.c+1) (i.l:Nat)).F i.b (i.c+1+j)=.int .u8 (byI (i.l:Nat) j):=λj hj=>by
  show pB _ _ _ _ _ i.b _=_;unfold pB
  match j,hj with
  | 0,_=>rw[g8 (by omega),g8 (by omega),g8 (by omega)];exact A6
  | 1,_=>rw[g8 (by omega),g8 (by omega)];exact A6
  | 2,_=>rw[g8 (by omega)];exact A6
  | 3,_=>exact A6
 refine⟨?_,b1Q (λj hj=>?_) (by omega) (by omega),λp hp5=>?_,λp hpl=>?_⟩
 ·unfold byG;rw[off _ (by omega),hp.old 0 (by omega),(a5M q a 5 (b5 k)).2.2];rfl
 ·unfold byG;rw[<-Nat.add_assoc,at4 j hj];rfl
 ·unfold byG bG;rw[off _ (by omega)]
 ·unfold byG;by_cases h1:1<=p/\p<5
  ·have e:=at4 (p-1) (by omega);rw[show i.c+1+(p-1)=i.c+p by omega]at e;rw[e];show 0<=byI (i.l:Nat) (p-1)/\byI (i.l:Nat) (p-1)<256;unfold byI;exact⟨Int.emod_nonneg _ (by decide),Int.emod_lt_of_pos _ (by decide)⟩
  ·rw[off _ (by omega)];exact(hp.o.is p hpl).2
theorem b9F{g:Nat->Nat}{n m:Nat}{Q:Q4}{p:BI}(h:b1j g n m p)(hj:p.j=m)(hm:m<=n)(hn:n<=100){a:Nat}(ha:¬p.q.D a) :
  (∃ fp its,a3B (nwB p.q a 5 (b5 1)) p.b 0 a 5 fp its)/\∀ i,a4t (nwB p.q a 5 (b5 1)) p.b 0 a 0 5 i->(byO i.q i.b i.c i.l i.k/\5<=i.l/\i.l<=2000000)/\b6X m 1 n g Q (i.l,byG (p4R i.q i.b (i.c+1) (i.l:Nat)) i.b i.c):=by
 obtain⟨_,fp,ht⟩:=h;have o1:=a5L (s:=5) (f:=b5 1) ha
 have hpre:a3B (nwB p.q a 5 (b5 1)) p.b 0 a 5 fp (a5x g n p.j):=⟨ht.same o1,λe=>ha (ht.D.2 _ e),λe=>ha (e▸ht.D.1),by rw[a3P];omega,by omega,λx hx=>by
  obtain⟨t,ht1,rfl⟩:=List.mem_map.1 hx;have:=List.mem_range.1 ht1;dsimp only
  omega⟩
 refine⟨⟨fp,_,hpre⟩,λi hi=>?_⟩;obtain⟨us,u1,u2,u3,u4⟩:=hi _ _ hpre;have hn1:=u1.n;obtain⟨e1,e2,e3,e4⟩:=b8K u1 u2;refine⟨⟨u1.o,by omega,u2⟩,⟨⟨by show 5<=i.l;omega,u2⟩,e4⟩,e1,e2,λ_=>⟨λh0=>?_,λh0=>?_⟩,λh2=>absurd h2 (by decide)⟩
 ·have:a5x g n p.j=[]:=by rw[hj,h0];rfl
  have hus:=u3 this;rw[hus]at hn1;exact hn1
 ·obtain⟨hh,its,B,c1,c2,c3,c4,c5⟩:=u4 (λe=>by
   have:=congrArg List.length e;rw[a3P]at this
   simp at this;omega)
  rw[hj]at c1;exact⟨hh,its,B,c1,c2,(e3 5 (by omega)).trans c3,c4,a2l c5 λp' p1 p2=>e3 p' (by omega)⟩
theorem b7m(g:Nat->Nat)(n m:Nat)(Q:Q4){a:Nat}{q:RM}(hD:q.D a)(hS:q.S a=6)(hF:∀ k,q.F a k=rz tys 191 k):b1L g n m Q ⟨q,a,0⟩ :=
 ⟨Nat.zero_le _,⟨a,[a],[]⟩,⟨b1r hD hS hF,rfl,by simp,by simp⟩,by simp⟩
theorem b8t{g:Nat->Nat}{n m:Nat}{Q:Q4}{p:BI}(h:b1L g n m Q p)(hj:p.j<m)(hm:m<=n)(hn:n<=100)(hQ:QB 16 Q)(hi:∀ i,i<m->a2A (rcF g n) n Q i) :
  qiO p.q g n p.b Q (rcF g n p.j) p.j 16/\∀ q',qiP p.q g n p.b Q 16 p.j q'->b1L g n m Q ⟨q',p.b,p.j+1⟩:=by
 obtain⟨_,k,hk,hp⟩:=h;have hl:=hp.length_eq;rw[List.length_range]at hl;refine⟨⟨⟨by omega,hQ,by omega⟩,rfl,hi _ hj,k,hk,by omega⟩,λq' hP=>?_⟩;obtain⟨k',t1,t2,t3,t4,_⟩:=hP k hk;have hl':=t4.length_eq;refine⟨by show p.j+1<=m;omega,k',⟨t1,t2.trans hk.b,t3,by rw[hl'];simp;omega⟩,?_⟩;show k'.its.Perm (List.range (p.j+1));rw[List.range_succ];exact t4.trans ((hp.cons p.j).trans (List.perm_append_singleton p.j _).symm)
theorem c0j{g:Nat->Nat}{n m:Nat}{Q:Q4}{p:BI}(h:b1L g n m Q p)(hj:p.j=m)(hm:m<=n)(hn:n<=100)(hQ:QB 16 Q){a:Nat}(ha:¬p.q.D a) :
  qmO (nwB p.q a 5 (b5 2)) p.b Q a 0 5 5 40/\∀ i,qmP (nwB p.q a 5 (b5 2)) p.b Q a 0 5 i->(byO i.q i.b i.c i.l i.k/\5<=i.l/\i.l<=2000000)/\b6X m 2 n g Q (i.l,byG (p4R i.q i.b (i.c+1) (i.l:Nat)) i.b i.c):=by
 obtain⟨_,k,hk,hp⟩:=h;have hl:=hp.length_eq;rw[List.length_range]at hl;have o1:=a5L (s:=5) (f:=b5 2) ha
 have hA:qmA (nwB p.q a 5 (b5 2)) (rcF g n) n 16 p.b Q k a:=⟨hk.t.same λy hy=>o1 y (hk.t.D y hy),hk.b,hk.nd,hk.le,λe=>ha (hk.t.D _ e),λx hx=>by
  have:=List.mem_range.1 (hp.mem_iff.1 hx)
  omega⟩
 have hB:qBy 16 k.its.length<=50000:=by unfold qBy;omega
 refine⟨⟨b8g (by decide),_,_,_,_,hA,by omega,by omega,by omega,hQ⟩,λi hi=>?_⟩;obtain⟨us,u1,u2,u3⟩:=hi _ _ _ _ hA (by omega);have hn1:=u1.n;obtain⟨e1,e2,e3,e4⟩:=b8K u1 (by omega);refine⟨⟨u1.o,by omega,by omega⟩,⟨⟨by show 5<=i.l;omega,by show i.l<=2000000;omega⟩,e4⟩,e1,e2,λh1=>absurd h1 (by decide),λ_=>⟨k.its,by rw[<-hj];exact hp,a3v u3 λp' p1 p2=>e3 p' (by omega)⟩⟩
noncomputable section
def GBi:Ctx:=⟨⟨tys,FP⟩,[(111,A7 b3z),(112,A7 b1k),(113,z3 a1K)]⟩
theorem gBi:B9 prog GBi:=⟨⟨D6,b5P⟩,l8.cons c7K (l8.cons c4J (l8.cons (.pure a8y) l8.nil)),by kernel_rfl⟩
def XBi:G9:=⟨GBi,[(114,q7 RM ⟨default⟩ a6N),(116,q7 DI ⟨default⟩ b2I),(115,q7 Unit ⟨()⟩ b9b),(117,q7 RM ⟨default⟩ (a6U 40)),(118,q7 DI ⟨default⟩ (a6z 40))],[(180,2),(191,2)],[(183,2),(185,2)],[]⟩
theorem xBi:C0 prog XBi:=⟨gBi,y9.cons b9Q (y9.cons c5k (y9.cons c9M (y9.cons (b3Y 40) (y9.cons (b4n 40) y9.nil))))⟩
def biH(cl cw cv:Bool)(k:Int)(x y z w n:Nat)(g:Nat->Nat)(q:RM):A1:=[(0,⟨true,150,a0D cl cw cv k x y z w 1 n,0⟩),(1,⟨false,100, .flts .f64 (2*n) g,0⟩),(2,rwO biT q)]
def c9U(cl cw cv:Bool)(k:Int)(x y z w n:Nat)(g:Nat->Nat):S9:=⟨⟨BI,λp=>⟨88,[(0, .ptr 0 0),(2, .pb 2 p.b 0),(3, .int .i64 (nsg cl n (wz g))),(4, .int .i64 p.j)],biH cl cw cv k x y z w n g p.q,3⟩,b1j g n (nsg cl n (wz g)),λp=>nsg cl n (wz g)-p.j⟩,λ_=>[]⟩
def c8T(cl cw cv:Bool)(k:Int)(x y z w n:Nat)(g:Nat->Nat):S9:=⟨⟨BI,λp=>⟨88,[(0, .ptr 0 0),(6, .pb 2 p.b 0),(7, .int .i64 (nsg cl n (wz g))),(8, .int .i64 p.j)],biH cl cw cv k x y z w n g p.q,3⟩,b1L g n (nsg cl n (wz g)) ⟨x,y,z,w⟩,λp=>nsg cl n (wz g)-p.j⟩,λ_=>[]⟩
end
noncomputable def GMi:Ctx:=⟨⟨tys,[]⟩,[(102,A7 b3I),(97,A7 a7m)]⟩
theorem gMi:B9 prog GMi:=⟨⟨D6,FlatsOk.nil⟩,l8.cons c6m (l8.cons c0a l8.nil),by kernel_rfl⟩
def ppQ(len:Nat)(cl:Bool)(g:Nat->Nat):Q4:=⟨pick (o8 len cl) (rlo g 0 len),pick (o8 len cl) (rlo g 1 len),pick (o8 len cl) (rhi g 0 len),pick (o8 len cl) (rhi g 1 len)⟩
open Int (toNat)
noncomputable section
def J7(cl cw cv:Bool)(k:Int)(ib:Bool)(d:Nm)(m:Nat)(x y z w:Nat)(p:Nm)(n:Nat):b9:=.cells [.bool cl, .bool cw, .bool cv, .int .u8 k, .opt ib 185 (.slcc d m), .flt .f64 x, .flt .f64 y, .flt .f64 z, .flt .f64 w, .slcc p n]
def ixP(ib:Bool)(mm:Nat)(k:Int)(n:Nat)(g:Nat->Nat)(Q:Q4)(r:Nat×(Nat->Int)):Prop:=(ib=true->b6X mm k n g Q r)/\(ib=false->r.1=0)
def F6(len:Nat)(m k:Int):Bool:=decide (m≠0/\m<=(len:Int))&&decide (k≠0)
def ixK(len:Nat)(m k:Int):Int:=if m≠0/\m<=(len:Int)then k else 0
def b2S:List SV->RRd (Nat×(Nat->Int))
 | [.ptr s 0]=>.read s λo0=>(match a4V o0 150 0 with
  | true=>(match a4o o0.c with
  | some (cl,cw,cv,k,x,y,z,w,p,n)=>.read p λo1=>(match z9 .f64 o1.c with
  | some (m1,g)=>.ret ⟨[.ptr 0 0],[(0,⟨true,150,a0D cl cw cv k x y z w 1 n,0⟩),(1,⟨false,100, .flts .f64 m1 g,0⟩)],some (m1=2*n/\(k=0∨b8r (nsg cl n (wz g)) k n g ⟨x,y,z,w⟩)),λr=>ixP (decide (k≠0)) (nsg cl n (wz g)) k n g ⟨x,y,z,w⟩ r,λr=>⟨[],[], .tup [],[(0,⟨true,150,J7 cl cw cv k (decide (k≠0)) 2 r.1 x y z w 1 n,0⟩)],[(2,⟨true,5, .ints .u8 r.1 r.2,1⟩)],none⟩⟩
  | none=>.fail)
  | none=>.fail)
  | false=>.fail)
 | _=>.fail
theorem b6F(cl cw cv:Bool)(k:Int)(x y z w:Nat)(_:Nm)(n:Nat)(g:Nat->Nat){T1}(t1:T1=λ(i:BI) (i_1:Nat) (i_2:Nat)=>(RM.mk (L4 (L4 (RM.D (BI.q i)) i_1) i_2) (E5 (E5 (BI.q i).2 i_1 2) i_2 2) (D7 (D7 (BI.q i).3 i_1 λ(j:Nat)=>List.getD [Value.float .f64 (E8 (g (2*toNat (↑(BI.j i):Int))) (g (2 *
 nx n (toNat (↑(BI.j i):Int))))),Value.float .f64 (E8 (g (2*toNat (↑(BI.j i):Int)+1)) (g (2*nx n (toNat (↑(BI.j i):Int))+1)))] j (Value.bool false)) i_2 λ(j:Nat)=>List.getD [Value.float .f64 (E6 (g (2*toNat
 (↑(BI.j i):Int))) (g (2*nx n (toNat (↑(BI.j i):Int))))),Value.float .f64 (E6 (g (2*toNat (↑(BI.j i):Int)+1)) (g (2*nx n (toNat (↑(BI.j i):Int))+1)))] j (Value.bool false)))){T2}(t2:T2=λ(i:BI) (i_2:DI)=>(True->∃
 (pq:Nat×(Nat->Int)),ixP (decide (k≠(0:Int))) (nsg cl n (wz g)) k n g (Q4.mk x y z w) pq/\True/\True/\(150=150/\0=0/\cl=cl/\cw=cw/\cv=cv/\k=k/\(decide (k≠(0:Int))=true/\True/\DI.l i_2=pq.1)/\x=x/\y=y/\z
 = z/\w=w/\(True/\n=n)/\True)/\True/\(5=5/\1=1/\pq.1<=DI.l i_2/\∀ (i:Nat),i<pq.1->byG (p4R (RM.mk (RM.D (DI.q i_2)) (DI.q i_2).2 (DI.q i_2).3) (DI.b i_2) (DI.c i_2+1) (↑(DI.l i_2):Int)) (DI.b i_2) (DI.c i_2) i=pq.2 i)/\
 True)){T3}(t3:T3=λ(i:BI) (i_1:Nat)=>(RM.mk (L4 (RM.D (BI.q i)) i_1) (E5 (BI.q i).2 i_1 5) (D7 (BI.q i).3 i_1 λ(j:Nat)=>List.getD [Value.int .u8 (1:Int),Value.int .u8 (0:Int),Value.int .u8 (0:Int),Value.int .u8 (0:Int),
 Value.int .u8 (0:Int)] j (Value.bool false)))){T4}(t4:T4=(150=150/\0=0/\cl=cl/\cw=cw/\cv=cv/\k=k/\True/\x=x/\y=y/\z=z/\w=w/\(True/\n=n)/\True)){T5}(t5:T5=(↑(nsg cl n (wz g)):Int)){T6}(t6:T6=λ(i:BI)=>(↑(BI.j
 i):Int)){T7}(t7:T7=λ(i:BI) (i_1:Nat)=>(RM.mk (L4 (RM.D (BI.q i)) i_1) (E5 (BI.q i).2 i_1 5) (D7 (BI.q i).3 i_1 λ(j:Nat)=>List.getD [Value.int .u8 (2:Int),Value.int .u8 (0:Int),Value.int .u8 (0:Int),Value.int .u8 (0:Int),
 Value.int .u8 (0:Int)] j (Value.bool false)))){T8}(t8:T8=λ(i_2:DI)=>(2*n=2*n/\byO (RM.mk (RM.D (DI.q i_2)) (DI.q i_2).2 (DI.q i_2).3) (DI.b i_2) (DI.c i_2) (DI.l i_2) (DI.k i_2)/\5<=DI.l i_2/\DI.l i_2<=2000000)){T9}(t9:T9=(Q4.mk x y
 z w)){T10}(t10:T10=(nsg cl n (wz g))){T11}(t11:T11=λ(i:Nat) (pq:BI)=>((True/\0=0)/\(True/\i=BI.b pq/\0=0)/\T5=T5/\0=(↑(BI.j pq):Int)/\True)){T12}(t12:T12=λ(i:BI)=>(RM.mk (RM.D (BI.q i)) (BI.q i).2 (BI.q
 i).3)){T13}(t13:T13=λ(i:BI)=>(2*n=2*n/\0<=(T6 i)/\(T6 i)<(↑n:Int)/\n<=1000000)){T14}(t14:T14=(2*n=2*n/\n<=1000000/\FL2 g (2*n))):O9 XBi 2 [(6,c9U cl cw cv k x y z w n g),(15,c8T cl cw cv k x y z w n g)] [] (p7 f103) (St.addRaw (A8 f103.ntmps [.ptr 0 0] [(0,⟨true,150,a0D cl cw cv k x y z w 1 n,0⟩),(1,⟨false,100, .flts .f64 (2*n) g,0⟩)] 2) biT) (B5 XBi.G.E.T f103.results.toList λS v=>∃ r:Nat×(Nat->Int),ixP (decide (k≠0)) (nsg cl n (wz g)) k n g ⟨x,y,z,w⟩ r/\C8 2 ⟨[],[], .tup [],[(0,⟨true,150,J7 cl cw cv k (decide (k≠0)) 2 r.1 x y z w 1 n,0⟩)],[(2,⟨true,5, .ints .u8 r.1 r.2,1⟩)],none⟩ S v)=(
 ((k==(1:Int))=true->∀(i:Nat),¬False->T14/\(∃(pq:BI),b1j g n T10 pq/\(T11 i pq)/\True/\T4/\True/\(2*n<=2*n/\∀(i:Nat),i<2*n->g i=g i)/\True/\(0=0/\0=0/\biT=biT/\J5 (λ(_:Nat)=>False) (λ(_ _
 : Nat)=>Value.bool false) i (rz tys 180)=(BI.q pq).3/\K8 (λ(_:Nat)=>False) (λ(_:Nat)=>0) i 8=(BI.q pq).2/\L4 (λ(_:Nat)=>False) i=RM.D (BI.q pq))/\True)/\∀(i:BI),b1j g n T10 i->(decide ((T6 i)<T5)=true->
 (T13 i)/\∀(i_1:Nat),¬(BI.q i).1 i_1->∀(i_2:Nat),¬(i_2=i_1∨(BI.q i).1 i_2)->∀(i_3:RM),(2=2/\2=2/\3=3/\inO (T1 i i_1 i_2) (BI.b i) 0 i_1 0 2 i_2 0 2)/\(inP (T1 i i_1 i_2) (BI.b i) 0 i_1 0 i_2 0 (T6 i) i_3->∃(pq:BI),
 b1j g n T10 pq/\nsg cl n (wz g)-BI.j pq<nsg cl n (wz g)-BI.j i/\((True/\0=0)/\(True/\BI.b i=BI.b pq/\0=0)/\T5=T5/\IntKind.wrap .i64 ((T6 i)+1)=(↑(BI.j pq):Int)/\True)/\True/\T4/\True/\(2*n<=2*n/\∀(i:Nat),i
 < 2*n->g i=g i)/\True/\(0=0/\0=0/\biT=biT/\i_3.3=(BI.q pq).3/\i_3.2=(BI.q pq).2/\RM.D i_3=RM.D (BI.q pq))/\True))/\(decide ((T6 i)<T5)=false->∀(i_1:Nat),¬(BI.q i).1 i_1->∀(i_2:DI),(2=2/\byO (T3 i i_1) i_1 0
 5 5/\∃(pq:List Nat),∃(pq_1:List (Int×Bx)),a3B (T3 i i_1) (BI.b i) 0 i_1 5 pq pq_1)/\(a4t (T3 i i_1) (BI.b i) 0 i_1 0 5 i_2->∀(_:Unit),(T8 i_2)/\(T2 i i_2))))/\((k==(1:Int))=false->((k==(2:Int))=true->∀(i:Nat),
 ¬False->T14/\(∃(pq:BI),b1L g n T10 T9 pq/\(T11 i pq)/\True/\T4/\True/\(2*n<=2*n/\∀(i:Nat),i<2*n->g i=g i)/\True/\(0=0/\0=0/\biT=biT/\J5 (λ(_:Nat)=>False) (λ(_ _:Nat)=>Value.bool false) i (rz
 tys 191)=(BI.q pq).3/\K8 (λ(_:Nat)=>False) (λ(_:Nat)=>0) i 6=(BI.q pq).2/\L4 (λ(_:Nat)=>False) i=RM.D (BI.q pq))/\True)/\∀(i:BI),b1L g n T10 T9 i->(decide ((T6 i)<T5)=true->(T13 i)/\∀(i_1:RM),(0=0
 /\2*n=2*n/\((0:Int)<=0/\(0:Int)<=16/\32+a2f (T12 i) (BI.b i)<40)/\(0<=(T6 i)/\(T6 i)<(↑n:Int))/\qiO (T12 i) g n (BI.b i) T9 (Q4.mk (E8 (g (2*toNat (T6 i))) (g (2*nx n (toNat (T6 i))))) (E8 (g (2*toNat
 (T6 i)+1)) (g (2*nx n (toNat (T6 i))+1))) (E6 (g (2*toNat (T6 i))) (g (2*nx n (toNat (T6 i))))) (E6 (g (2*toNat (T6 i)+1)) (g (2*nx n (toNat (T6 i))+1)))) (toNat (T6 i)) 16)/\true=true/\(qiP (T12 i) g
 n (BI.b i) T9 16 (toNat (T6 i)) i_1->∃(pq:BI),b1L g n T10 T9 pq/\nsg cl n (wz g)-BI.j pq<nsg cl n (wz g)-BI.j i/\((True/\0=0)/\(True/\BI.b i=BI.b pq/\0=0)/\T5=T5/\IntKind.wrap .i64 ((T6 i)+(1:Int))=(↑(BI.j pq) :
 Int)/\True)/\True/\T4/\True/\(2*n<=2*n/\∀(i:Nat),i<2*n->g i=g i)/\True/\(0=0/\0=0/\biT=biT/\i_1.3=(BI.q pq).3/\i_1.2=(BI.q pq).2/\RM.D i_1=RM.D (BI.q pq))/\True))/\(decide ((T6 i)<T5)=false->∀(i_1 :
 Nat),¬(BI.q i).1 i_1->∀(i_2:DI),(2=2/\0=0/\qmO (T7 i i_1) (BI.b i) T9 i_1 0 5 5 40)/\(qmP (T7 i i_1) (BI.b i) T9 i_1 0 5 i_2->∀(_:Unit),(T8 i_2)/\(T2 i i_2))))/\((k==(2:Int))=false->∃(pq:Nat×(Nat->Int)),ixP (decide
 (k≠(0:Int))) T10 k n g T9 pq/\True/\True/\(150=150/\0=0/\cl=cl/\cw=cw/\cv=cv/\k=k/\decide (k≠(0:Int))=false/\x=x/\y=y/\z=z/\w=w/\(True/\n=n)/\True)/\True/\pq.1=0/\True))):=by subst t1 t2 t3 t4 t5 t6 t7 t8 t9 t10 t11 t12 t13 t14;kernel_rfl
theorem c5x:A5 prog 103 (q7 (Nat×(Nat->Int)) ⟨(0,λ_=>0)⟩ b2S):=by
 refine b0J xBi func103 rfl (by kernel_rfl) biT λargs=>?_
 unfold b2S;split;rotate_left;trivial;rename_i s;intro o0;try dsimp only
 split;rotate_left;trivial;rename_i hrw0;try dsimp only
 split;rotate_left;trivial;rename_i cl cw cv k x y z w p n hm0;intro o1;try dsimp only
 split;rotate_left;trivial;rename_i m1 g hm1;intro ho;replace ho:m1=2*n/\(k=0∨b8r (nsg cl n (wz g)) k n g ⟨x,y,z,w⟩):=ho;obtain⟨hsz1,ho⟩:=ho;subst hsz1;refine⟨?_,_,_,(b6F cl cw cv k x y z w p n g rfl rfl rfl rfl rfl rfl rfl rfl rfl rfl rfl rfl rfl rfl).mpr ?_⟩
 ·refine l9 rfl ⟨λ_=>rfl,?_,⟨trivial,Z9 hrw0 (U8 hm0 a9),⟨trivial,(A2 hm1).1,trivial⟩⟩⟩;simp[y5,z6,z7,z5,nth,a9]
 ·rcases ho with rfl|⟨hk,hn,hg,hq2⟩
  ·simp only[true_and,and_true,eq_self,tN9,decide_eq_true_eq,decide_eq_false_iff_not,true_implies,implies_true,Int.reduceLE,Int.le_refl];refine⟨λh=>absurd h (by decide),λ_=>⟨λh=>absurd h (by decide),λ_=>?_⟩⟩;refine⟨(0,λ_=>0),⟨λh=>absurd h (by decide),λ_=>rfl⟩,?_⟩;exact⟨by simp,rfl⟩
  have hm:=b4U cl n (wz g);simp only[true_and,and_true,eq_self,tN9,decide_eq_true_eq,decide_eq_false_iff_not,true_implies,implies_true,Int.reduceLE,Int.le_refl];generalize nsg cl n (wz g)=m at *;have nf:∀ a:Nat,¬(λ_:Nat=>False) a:=λ_ h=>h
  have hwj:∀ j:Nat,j<m->IntKind.i64.wrap ((j:Int)+1)=((j+1:Nat):Int):=λj hj=>by rw[j8 (by omega) (by omega)];rfl
  refine⟨λh1 a _=>⟨⟨by omega,hg⟩,?_,?_⟩,λh1=>⟨λh2 a _=>⟨⟨by omega,hg⟩,?_,?_⟩,λh2=>?_⟩⟩
  ·rw[R1 (nf a),R3 (nf a)];exact⟨⟨⟨L4 (λ_=>False) a,E5 (λ_=>0) a 8,D7 (λ_ _=>.bool false) a (rz tys 180)⟩,a,0⟩,b9d g n m (.inl rfl) (by simp[E5]) (λk=>by simp[D7]),⟨rfl,rfl⟩,Nat.le_refl _,rfl,rfl,rfl⟩
  ·have hk1:k=1:=by simpa using h1
   subst hk1;rintro⟨q,b,j⟩ hb;dsimp only;refine⟨λhlt=>⟨⟨by omega,by have:=hb.1;dsimp only at this;omega,by omega⟩,λa1 ha1 a2 ha2 q'=>?_⟩,λhge a1 ha1 i=>?_⟩
   ·obtain⟨s1,s2⟩:=b8G hb (by show j<m;omega) hm hn hg ha1 ha2 (f1:=λt=>[Value.float .f64 (E8 (g (2*j)) (g (2*nx n j))),Value.float .f64 (E8 (g (2*j+1)) (g (2*nx n j+1)))].getD t (.bool false)) (f2:=λt=>[Value.float .f64 (E6 (g (2*j)) (g (2*nx n j))),Value.float .f64 (E6 (g (2*j+1)) (g (2*nx n j+1)))].getD t (.bool false)) rfl rfl rfl rfl;exact⟨s1,λhP=>⟨_,s2 q' hP,by show m-(j+1)<m-j;omega,⟨rfl,hwj j (by omega)⟩,Nat.le_refl _,rfl,rfl,rfl⟩⟩
   ·obtain⟨s1,s2⟩:=b9F (Q:=⟨x,y,z,w⟩) hb (by have:=hb.1;dsimp only at this;show j=m;omega) hm hn ha1;refine⟨⟨b8g (by decide),s1⟩,λhP _=>?_⟩;obtain⟨s3,s4⟩:=s2 i hP;exact⟨s3,_,⟨λ_=>s4,λh=>absurd h (by decide)⟩,⟨by decide,rfl⟩,Nat.le_refl _,λ_ _=>rfl⟩
  ·rw[R1 (nf a),R3 (nf a)];exact⟨⟨⟨L4 (λ_=>False) a,E5 (λ_=>0) a 6,D7 (λ_ _=>.bool false) a (rz tys 191)⟩,a,0⟩,b7m g n m _ (.inl rfl) (by simp[E5]) (λk=>by simp[D7]),⟨rfl,rfl⟩,Nat.le_refl _,rfl,rfl,rfl⟩
  ·have hk1:k=2:=by simpa using h2
   subst hk1;obtain⟨hQ,hit⟩:=hq2 rfl;rintro⟨q,b,j⟩ hb;dsimp only;refine⟨λhlt=>⟨⟨by omega,by have:=hb.1;dsimp only at this;omega,by omega⟩,λq'=>?_⟩,λhge a1 ha1 i=>?_⟩
   ·obtain⟨s1,s2⟩:=b8t hb (by show j<m;omega) hm hn hQ hit;have hsp:=a9G q b;exact⟨⟨by show 32+a2f q b<40;omega,⟨by omega,by omega⟩,s1⟩,λhP=>⟨_,s2 q' hP,by show m-(j+1)<m-j;omega,⟨rfl,hwj j (by omega)⟩,Nat.le_refl _,rfl,rfl,rfl⟩⟩
   ·obtain⟨s1,s2⟩:=c0j (Q:=⟨x,y,z,w⟩) hb (by have:=hb.1;dsimp only at this;show j=m;omega) hm hn hQ ha1;refine⟨s1,λhP _=>?_⟩;obtain⟨s3,s4⟩:=s2 i hP;exact⟨s3,_,⟨λ_=>s4,λh=>absurd h (by decide)⟩,⟨by decide,rfl⟩,Nat.le_refl _,λ_ _=>rfl⟩
  ·exfalso;rcases hk with rfl|rfl
   ·exact absurd h1 (by decide)
   ·exact absurd h2 (by decide)
def XMu:G9:=⟨GMi,[(103,q7 (Nat×(Nat->Int)) ⟨(0,λ_=>0)⟩ b2S)],[],[],[]⟩
theorem xMu:C0 prog XMu:=⟨gMi,y9.cons c5x y9.nil⟩
def a8j(len:Nat)(cl:Bool)(g:Nat->Nat)(p:Nm)(k:Int)(ib:Bool)(d:Nm)(m:Nat):List SV :=
 [.bool cl, .bool (o8 len cl&&fGt .f64 (cwF g len len) 0), .bool (o8 len cl && !(dcF g len len).2), .int .u8 k, .opt ib 185 (.slcc d m), .flt .f64 (pick (o8 len cl) (rlo g 0 len)), .flt .f64 (pick (o8 len cl) (rlo g 1 len)), .flt .f64 (pick (o8 len cl) (rhi g 0 len)), .flt .f64 (pick (o8 len cl) (rhi g 1 len)), .slcc p len]
def a1x(len:Nat)(cl:Bool)(m k:Int)(g:Nat->Nat):Prop:=len<=1000000/\(o8 len cl=true->ppOk g len)/\(F6 len m k=true->b8r (nsg cl len (wz g)) k len g (ppQ len cl g))
def c3E:List SV->RRd (Nat×(Nat->Int))
 | [.slcc n len, .tt,v, .ptr o 0]=>.read n λo0=>(match z9 .f64 o0.c with
  | some (m0,g)=>.read o λo1=>(match b1F o1.c with
  | some (k,m)=>(match v.toB with
  | some cl=>.ret ⟨[.slcc 0 len, .tt, .bool cl, .ptr 1 0],[(0,⟨false,100, .flts .f64 m0 g,0⟩),(1,⟨false,148,b3l k m,0⟩)],some (m0=2*len/\(a1x len cl m k g)),λr=>ixP (F6 len m k) (nsg cl len (wz g)) k len g (ppQ len cl g) r,λr=>⟨[],[], .agg (a8j len cl g 2 (ixK len m k) (F6 len m k) 3 r.1),[],[(2,⟨true,100, .flts .f64 (2*len) g,2⟩),(3,⟨true,5, .ints .u8 r.1 r.2,1⟩)],none⟩⟩
  | none=>.fail)
  | none=>.fail)
  | none=>.fail)
 | _=>.fail
theorem c3j(len:Nat)(cl:Bool)(m:Int)(k:Int)(g:Nat->Nat){T1}(t1:T1=(cl=cl/\(o8 len cl&&fGt .f64 (cwF g len len) 0)=(o8 len cl&&fGt .f64 (cwF g len len) 0)/\(o8 len cl && !(dcF g len len).2)=(o8 len cl && !(dcF g len len).2)/\(0:Int)=ixK len m k/\F6 len m k=false/\pick
 (o8 len cl) (rlo g 0 len)=pick (o8 len cl) (rlo g 0 len)/\pick (o8 len cl) (rlo g 1 len)=pick (o8 len cl) (rlo g 1 len)/\pick (o8 len cl) (rhi g 0 len)=pick (o8 len cl) (rhi g 0 len)/\pick (o8 len cl) (rhi g 1 len) =
 pick (o8 len cl) (rhi g 1 len)/\(True/\toNat (↑len:Int)=len)/\True)){T2}(t2:T2=(↑len:Int)){T3}(t3:T3=(o8 len cl)){T4}(t4:T4=(Q4.mk (pick T3 (rlo g 0 len)) (pick T3 (rlo g 1 len)) (pick T3 (rhi g 0 len)) (pick T3 (rhi g 1
 len)))){T5}(t5:T5=(100=100/\2=2/\2*len<=toNat T2*2/\∀ (i:Nat),i<2*len->g i=g i)){T6}(t6:T6=(o8 len cl&&fGt .f64 (cwF g len len) 0)):O9 XMu 2 [] [] (p7 f92) (A8 f92.ntmps [.slcc 0 len, .tt, .bool cl, .ptr 1 0] [(0,⟨false,100, .flts .f64 (2*len) g,0⟩),(1,⟨false,148,b3l k m,0⟩)] 2) (B5 XMu.G.E.T f92.results.toList λS v=>∃ r:Nat×(Nat->Int),ixP (F6 len m k) (nsg cl len (wz g)) k len g (ppQ len cl g) r/\C8 2 ⟨[],[], .agg (a8j len cl g 2 (ixK len m k) (F6 len m k) 3 r.1),[],[(2,⟨true,100, .flts .f64 (2*len) g,2⟩),(3,⟨true,5, .ints .u8 r.1 r.2,1⟩)],none⟩ S v)=(
 (T2=T2/\0<=T2/\T2<=9223372036854775807/\T2*16<=(140737488355328:Int))/\(len=toNat T2/\toNat T2*2=toNat T2*2/\2*len=toNat T2*2)/\(2*len=2*len/\len<=1000000/\(o8 len cl=true->ppOk g len))/\
 ((m != (0:Int))=true->(decide (m<=T2)=true->∀(i:Nat×(Nat->Int)),(toNat T2*2=2*toNat T2/\(k=(0:Int)∨b8r (nsg cl (toNat T2) (wz g)) k (toNat T2) g T4))/\(ixP (decide (k≠(0:Int))) (nsg cl (toNat T2)
 (wz g)) k (toNat T2) g T4 i->∃(pq:Nat×(Nat->Int)),ixP (F6 len m k) (nsg cl len (wz g)) k len g (ppQ len cl g) pq/\(cl=cl/\T6=T6/\(o8 len cl && !Prod.snd (dcF g len len))=(o8 len cl && !(dcF g len len).2)/\k=ixK len m k
 /\(decide (k≠(0:Int))=F6 len m k/\True/\i.1=pq.1)/\pick T3 (rlo g 0 len)=pick T3 (rlo g 0 len)/\pick T3 (rlo g 1 len)=pick T3 (rlo g 1 len)/\pick T3 (rhi g 0 len)=pick T3 (rhi g 0 len)/\pick T3 (rhi g 1 len)=pick T3 (rhi g 1
 len)/\(True/\toNat T2=len)/\True)/\True/\(100=100/\2=2/\2*len<=toNat T2*2/\∀(i:Nat),i<2*len->g i=g i)/\True/\(5=5/\1=1/\pq.1<=i.1/\∀(i_1:Nat),i_1<pq.1->i.2 i_1=pq.2 i_1)/\True))/\(decide (m<=
 T2)=false->∃(pq:Nat×(Nat->Int)),ixP (F6 len m k) (nsg cl len (wz g)) k len g (ppQ len cl g) pq/\T1/\True/\T5/\True/\pq.1=0/\True))/\((m != (0:Int))=false->∃(pq:Nat×(Nat->Int)),ixP (F6 len m k) (nsg cl len (wz g)) k
 len g (ppQ len cl g) pq/\T1/\True/\T5/\True/\pq.1=0/\True)):=by subst t1 t2 t3 t4 t5 t6;kernel_rfl
theorem mkU:A5 prog 92 (q7 (Nat×(Nat->Int)) ⟨(0,λ_=>0)⟩ c3E):=by
 refine U9 xMu func92 rfl (by kernel_rfl) λargs=>?_
 unfold c3E;split;rotate_left;trivial;rename_i n len v o;intro o0;try dsimp only
 split;rotate_left;trivial;rename_i m0 g hm0;intro o1;try dsimp only
 split;rotate_left;trivial;rename_i k m hm1;try dsimp only
 split;rotate_left;trivial;rename_i cl hcl;intro ho;replace ho:m0=2*len/\(a1x len cl m k g):=ho;obtain⟨hsz0,ho⟩:=ho;subst hsz0;refine⟨?_,_,_,(c3j len cl m k g rfl rfl rfl rfl rfl rfl).mpr ?_⟩
 ·refine l9 rfl ⟨λ_=>rfl,?_,⟨trivial,(A2 hm0).1,⟨trivial,a2Y hm1,trivial⟩⟩⟩;simp[y5,z6,z7,z5,nth,a9,H5 hcl]
 ·obtain⟨hl,hpp,hb⟩:=ho;simp only[true_and,and_true,eq_self,tN9,decide_eq_true_eq,decide_eq_false_iff_not,implies_true];have e2:2*len=len*2:=by omega
  have hyes:(m != 0)=true->m<=(len:Int)->F6 len m k=decide (k≠0):=λh0 h1=>by
   have hm:m≠0/\m<=(len:Int):=⟨by simpa using h0,h1⟩;unfold F6;rw[decide_eq_true hm,Bool.true_and]
  refine⟨⟨by omega,by omega,by omega⟩,e2,⟨hl,hpp⟩,λh0=>⟨λh1 r=>⟨⟨e2.symm,?_⟩,λhP=>⟨r,?_,⟨?_,?_,rfl⟩,by omega,Nat.le_refl _,λ_ _=>rfl⟩⟩,λh1=>?_⟩,λh0=>?_⟩
  ·by_cases hk:k=0
   ·exact .inl hk
   ·exact .inr (hb (by rw[hyes h0 h1];exact decide_eq_true hk))
  ·rw[hyes h0 h1];exact hP
  ·have hm:m≠0/\m<=(len:Int):=⟨by simpa using h0,h1⟩;unfold ixK;rw[if_pos hm]
  ·exact(hyes h0 h1).symm
  ·have hno:¬(m≠0/\m<=(len:Int)):=λh=>h1 h.2
   have hf:F6 len m k=false:=by unfold F6;rw[decide_eq_false hno,Bool.false_and]
   exact⟨(0,λ_=>0),⟨λh=>by rw[hf]at h;exact absurd h (by decide),λ_=>rfl⟩,⟨by unfold ixK;rw[if_neg hno],hf⟩,by omega,rfl⟩
  ·have hno:¬(m≠0/\m<=(len:Int)):=λh=>by simp[h.1]at h0
   have hf:F6 len m k=false:=by unfold F6;rw[decide_eq_false hno,Bool.false_and]
   exact⟨(0,λ_=>0),⟨λh=>by rw[hf]at h;exact absurd h (by decide),λ_=>rfl⟩,⟨by unfold ixK;rw[if_neg hno],hf⟩,by omega,rfl⟩
def XLu:G9:=⟨G0,[(92,q7 (Nat×(Nat->Int)) ⟨(0,λ_=>0)⟩ c3E)],[],[],[]⟩
theorem xLu:C0 prog XLu:=⟨g0,y9.cons mkU y9.nil⟩
def a0O:List SV->RRd (Nat×(Nat->Int))
 | [.slcc n len, .ptr o 0]=>.read n λo0=>(match z9 .f64 o0.c with
  | some (m0,g)=>.read o λo1=>(match b1F o1.c with
  | some (k,m)=>.ret ⟨[.slcc 0 len, .ptr 1 0],[(0,⟨false,100, .flts .f64 m0 g,0⟩),(1,⟨false,148,b3l k m,0⟩)],some (m0=2*len/\(a1x len false m k g)),λr=>ixP (F6 len m k) (nsg false len (wz g)) k len g (ppQ len false g) r,λr=>⟨[],[], .ptr 2 0,[],[(2,⟨true,152, .cells (a8j len false g 3 (ixK len m k) (F6 len m k) 4 r.1),0⟩),(3,⟨true,100, .flts .f64 (2*len) g,2⟩),(4,⟨true,5, .ints .u8 r.1 r.2,1⟩)],none⟩⟩
  | none=>.fail)
  | none=>.fail)
 | _=>.fail
theorem b2a(len:Nat)(m:Int)(k:Int)(g:Nat->Nat){T1}(t1:T1=(o8 len false)){T2}(t2:T2=(o8 len false&&fGt .f64 (cwF g len len) 0)):O9 XLu 2 [] [] (p7 f73) (A8 f73.ntmps [.slcc 0 len, .ptr 1 0] [(0,⟨false,100, .flts .f64 (2*len) g,0⟩),(1,⟨false,148,b3l k m,0⟩)] 2) (B5 XLu.G.E.T f73.results.toList λS v=>∃ r:Nat×(Nat->Int),ixP (F6 len m k) (nsg false len (wz g)) k len g (ppQ len false g) r/\C8 2 ⟨[],[], .ptr 2 0,[],[(2,⟨true,152, .cells (a8j len false g 3 (ixK len m k) (F6 len m k) 4 r.1),0⟩),(3,⟨true,100, .flts .f64 (2*len) g,2⟩),(4,⟨true,5, .ints .u8 r.1 r.2,1⟩)],none⟩ S v)=(
 ∀(i:Nat×(Nat->Int)),(2*len=2*len/\a1x len false m k g)/\(ixP (F6 len m k) (nsg false len (wz g)) k len g (ppQ len false g) i->∃(pq:Nat×(Nat->Int)),ixP (F6 len m k) (nsg false len (wz g)) k len g (ppQ len false g) pq/\
 (True/\0=0)/\True/\(152=152/\0=0/\false=false/\T2=T2/\(o8 len false && !(dcF g len len).2)=(o8 len false && !(dcF g len len).2)/\ixK len m k=ixK len m k/\(F6 len m k=F6 len m k/\True/\i.1=pq.1)/\pick T1 (rlo g
 0 len)=pick T1 (rlo g 0 len)/\pick T1 (rlo g 1 len)=pick T1 (rlo g 1 len)/\pick T1 (rhi g 0 len)=pick T1 (rhi g 0 len)/\pick T1 (rhi g 1 len)=pick T1 (rhi g 1 len)/\(True/\len=len)/\True)/\True/\(100=100/\2=2/\2*len<=2 *
 len/\∀(i:Nat),i<2*len->g i=g i)/\True/\(5=5/\1=1/\pq.1<=i.1/\∀(i_1:Nat),i_1<pq.1->i.2 i_1=pq.2 i_1)/\True)):=by subst t1 t2;kernel_rfl
theorem a6K:A5 prog 73 (q7 (Nat×(Nat->Int)) ⟨(0,λ_=>0)⟩ a0O):=by
 refine U9 xLu func73 rfl (by kernel_rfl) λargs=>?_
 unfold a0O;split;rotate_left;trivial;rename_i n len o;intro o0;try dsimp only
 split;rotate_left;trivial;rename_i m0 g hm0;intro o1;try dsimp only
 split;rotate_left;trivial;rename_i k m hm1;intro ho;replace ho:m0=2*len/\(a1x len false m k g):=ho;obtain⟨hsz0,ho⟩:=ho;subst hsz0;refine⟨?_,_,_,(b2a len m k g rfl rfl).mpr ?_⟩
 ·refine l9 rfl ⟨λ_=>rfl,?_,⟨trivial,(A2 hm0).1,⟨trivial,a2Y hm1,trivial⟩⟩⟩;simp[y5,z6,z7,z5,nth,a9]
 ·simp only[true_and,and_true,eq_self,implies_true];exact λr=>⟨ho,λhP=>⟨r,hP,rfl,Nat.le_refl _,Nat.le_refl _,λ_ _=>rfl⟩⟩
end
end Go.Proofs.Tryz.Sx
