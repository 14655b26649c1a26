/- Parts of a proof, in order: what each says stands at its head. No conditions. -/
import Derived.ProofKit
import Derived.Lib.SmallJoins
import Derived.Deep.Slices
import Derived.Test.YtfhkmkhcofodmaaM7
import Derived.Test.YtfhkmkhcofodmaaM6
import Derived.Test.YtfhkmkhcofodmaaM5
import Derived.Test.YtfhkmkhcofodmaaM3
namespace Go.Proofs.Try.Sx
open Go Go.Sx Go.Proofs Go.Fl Go.Geo
set_option maxRecDepth 100000
def serIc(cl cw cv:Bool)(k:Int)(ib:Bool)(d:Nm)(m:Nat)(x y z w:Nat)(p:Nm)(n:Nat):Cont:=.cells [.bool cl, .bool cw, .bool cv, .int .u8 k, .opt ib 112 (.slcc d m), .flt .f64 x, .flt .f64 y, .flt .f64 z, .flt .f64 w, .slcc p n]
def ixP(ib:Bool)(mm:Nat)(k:Int)(n:Nat)(g:Nat->Nat)(Q:Q4)(r:Nat×(Nat->Int)):Prop:=(ib=true->bixP mm k n g Q r)/\(ib=false->r.1=0)
def ixIf(len:Nat)(m k:Int):Bool:=decide (m≠0/\m<=(len:Int))&&decide (k≠0)
def ixK(len:Nat)(m k:Int):Int:=if m≠0/\m<=(len:Int)then k else 0
noncomputable def bIdxUC:List SV->RRd (Nat×(Nat->Int))
 | [.ptr s 0]=>.read s λo0=>(match rwOk o0 89 0 with
  | true=>(match serOf o0.c with
  | some (cl,cw,cv,k,x,y,z,w,p,n)=>.read p λo1=>(match fltsFrom .f64 o1.c with
  | some (m1,g)=>.ret ⟨[.ptr 0 0],[(0,⟨true,89,serC cl cw cv k x y z w 1 n,0⟩),(1,⟨false,55, .flts .f64 m1 g,0⟩)],some (m1=2*n/\(k=0∨bixO (nsg cl n (wz g)) k n g ⟨x,y,z,w⟩)),λr=>ixP (decide (k≠0)) (nsg cl n (wz g)) k n g ⟨x,y,z,w⟩ r,λr=>⟨[],[], .tup [],[(0,⟨true,89,serIc cl cw cv k (decide (k≠0)) 2 r.1 x y z w 1 n,0⟩)],[(2,⟨true,5, .ints .u8 r.1 r.2,1⟩)],none⟩⟩
  | none=>.fail)
  | none=>.fail)
  | false=>.fail)
 | _=>.fail
theorem vc_bIdxU(cl cw cv:Bool)(k:Int)(x y z w:Nat)(_:Nm)(n:Nat)(g:Nat->Nat){T1}(t1:T1=λ(i:BI) (i_1:Nat) (i_2:Nat)=>(RM.mk (newD (newD (RM.D (BI.q i)) i_1) i_2) (newS (newS (BI.q i).2 i_1 2) i_2 2) (newF (newF (BI.q i).3 i_1 λ(j:Nat)=>List.getD [Value.float .f64 (fmin (g (2*Int.toNat (↑(BI.j i):Int))) (g (2 *
 nx n (Int.toNat (↑(BI.j i):Int))))),Value.float .f64 (fmin (g (2*Int.toNat (↑(BI.j i):Int)+1)) (g (2*nx n (Int.toNat (↑(BI.j i):Int))+1)))] j (Value.bool false)) i_2 λ(j:Nat)=>List.getD [Value.float .f64 (fmax (g (2*Int.toNat
 (↑(BI.j i):Int))) (g (2*nx n (Int.toNat (↑(BI.j i):Int))))),Value.float .f64 (fmax (g (2*Int.toNat (↑(BI.j i):Int)+1)) (g (2*nx n (Int.toNat (↑(BI.j i):Int))+1)))] j (Value.bool false)))){T2}(t2:T2=λ(i:BI) (i_2:DI)=>(True->∃
 (pq:Nat×(Nat->Int)),ixP (decide (k≠(0:Int))) (nsg cl n (wz g)) k n g (Q4.mk x y z w) pq/\True/\True/\(89=89/\0=0/\cl=cl/\cw=cw/\cv=cv/\k=k/\(decide (k≠(0:Int))=true/\True/\DI.l i_2=pq.1)/\x=x/\y=y/\z =
 z/\w=w/\(True/\n=n)/\True)/\True/\(5=5/\1=1/\pq.1<=DI.l i_2/\∀ (i:Nat),i<pq.1->byG (p4R (RM.mk (RM.D (DI.q i_2)) (DI.q i_2).2 (DI.q i_2).3) (DI.b i_2) (DI.c i_2+1) (↑(DI.l i_2):Int)) (DI.b i_2) (DI.c i_2) i=pq.2 i)/\
 True)){T3}(t3:T3=λ(i:BI) (i_1:Nat)=>(RM.mk (newD (RM.D (BI.q i)) i_1) (newS (BI.q i).2 i_1 5) (newF (BI.q i).3 i_1 λ(j:Nat)=>List.getD [Value.int .u8 (1:Int),Value.int .u8 (0:Int),Value.int .u8 (0:Int),Value.int .u8 (0:Int),
 Value.int .u8 (0:Int)] j (Value.bool false)))){T4}(t4:T4=(89=89/\0=0/\cl=cl/\cw=cw/\cv=cv/\k=k/\True/\x=x/\y=y/\z=z/\w=w/\(True/\n=n)/\True)){T5}(t5:T5=(↑(nsg cl n (wz g)):Int)){T6}(t6:T6=λ(i:BI)=>(↑(BI.j i)
 : Int)){T7}(t7:T7=λ(i:BI) (i_1:Nat)=>(RM.mk (newD (RM.D (BI.q i)) i_1) (newS (BI.q i).2 i_1 5) (newF (BI.q i).3 i_1 λ(j:Nat)=>List.getD [Value.int .u8 (2:Int),Value.int .u8 (0:Int),Value.int .u8 (0:Int),Value.int .u8 (0:Int),
 Value.int .u8 (0:Int)] j (Value.bool false)))){T8}(t8:T8=λ(i_2:DI)=>(2*n=2*n/\byO (RM.mk (RM.D (DI.q i_2)) (DI.q i_2).2 (DI.q i_2).3) (DI.b i_2) (DI.c i_2) (DI.l i_2) (DI.k i_2)/\5<=DI.l i_2/\DI.l i_2<=2000000)){T9}(t9:T9=(λ(_ :
 Nat)=>False)){T10}(t10:T10=λ(i:BI) (pq:BI)=>((True/\0=0)/\(True/\BI.b i=BI.b pq/\0=0)/\T5=T5/\IntKind.wrap .i64 ((T6 i)+1)=(↑(BI.j pq):Int)/\True)){T11}(t11:T11=(nsg cl n (wz g))){T12}(t12:T12=(Q4.mk x y z
 w)){T13}(t13:T13=λ(i:BI)=>(RM.mk (RM.D (BI.q i)) (BI.q i).2 (BI.q i).3)){T14}(t14:T14=λ(i:BI)=>(2*n=2*n/\0<=(T6 i)/\(T6 i)<(↑n:Int)/\n<=1000000)){T15}(t15:T15=(2*n=2*n/\n<=1000000/\FL2 g (2*n))):runG XBi 2 [(6,biL1 cl cw cv k x y z w n g),(15,biL2 cl cw cv k x y z w n g)] [] (codeOf Try.f41) (St.addRaw (init Try.f41.ntmps [.ptr 0 0] [(0,⟨true,89,serC cl cw cv k x y z w 1 n,0⟩),(1,⟨false,55, .flts .f64 (2*n) g,0⟩)] 2) biT) (endK XBi.G.E.T Try.f41.results.toList λS v=>∃ r:Nat×(Nat->Int),ixP (decide (k≠0)) (nsg cl n (wz g)) k n g ⟨x,y,z,w⟩ r/\postP 2 ⟨[],[], .tup [],[(0,⟨true,89,serIc cl cw cv k (decide (k≠0)) 2 r.1 x y z w 1 n,0⟩)],[(2,⟨true,5, .ints .u8 r.1 r.2,1⟩)],none⟩ S v)=(
 ((k==(1:Int))=true->∀(i:Nat),¬False->T15/\(∃(pq:BI),bi1P g n T11 pq/\((True/\0=0)/\(True/\i=BI.b pq/\0=0)/\T5=T5/\(0:Int)=(↑(BI.j pq):Int)/\True)/\True/\T4/\True/\(2*n<=2*n/\∀(i:Nat),i<2*n->g
 i=g i)/\True/\(0=0/\0=0/\biT=biT/\newFx T9 (λ(_ _:Nat)=>Value.bool false) i (rz tys 108)=(BI.q pq).3/\newSx T9 (λ(_:Nat)=>0) i 8=(BI.q pq).2/\newD T9 i=RM.D (BI.q pq))/\True)/\∀(i:BI),bi1P g n T11 i->(decide
 ((T6 i)<T5)=true->(T14 i)/\∀(i_1:Nat),¬(BI.q i).1 i_1->∀(i_2:Nat),¬(i_2=i_1∨(BI.q i).1 i_2)->∀(i_3:RM),(2=2/\2=2/\3=3/\inO (T1 i i_1 i_2) (BI.b i) 0 i_1 0 2 i_2 0 2)/\(inP (T1 i i_1 i_2) (BI.b i) 0 i_1 0 i_2 0 (T6 i)
 i_3->∃(pq:BI),bi1P g n T11 pq/\nsg cl n (wz g)-BI.j pq<nsg cl n (wz g)-BI.j i/\(T10 i pq)/\True/\T4/\True/\(2*n<=2*n/\∀(i:Nat),i<2*n->g i=g i)/\True/\(0=0/\0=0/\biT=biT/\i_3.3=(BI.q pq).3/\i_3.2=(BI.q
 pq).2/\RM.D i_3=RM.D (BI.q pq))/\True))/\(decide ((T6 i)<T5)=false->∀(i_1:Nat),¬(BI.q i).1 i_1->∀(i_2:DI),(2=2/\byO (T3 i i_1) i_1 0 5 5/\∃(pq:List Nat),∃(pq_1:List (Int×Bx)),rcPre (T3 i i_1) (BI.b i) 0 i_1 5 pq pq_1)
 /\(rcPost (T3 i i_1) (BI.b i) 0 i_1 0 5 i_2->∀(_:Unit),(T8 i_2)/\(T2 i i_2))))/\((k==(1:Int))=false->((k==(2:Int))=true->∀(i:Nat),¬False->T15/\(∃(pq:BI),bi2P g n T11 T12 pq/\((True/\0=0)/\(True/\i=BI.b pq/\0 =
 0)/\T5=T5/\0=(↑(BI.j pq):Int)/\True)/\True/\T4/\True/\(2*n<=2*n/\∀(i:Nat),i<2*n->g i=g i)/\True/\(0=0/\0=0/\biT=biT/\newFx T9 (λ(_ _:Nat)=>Value.bool false) i (rz tys 118)=(BI.q pq).3/\newSx T9 (fun
 (_:Nat)=>0) i 6=(BI.q pq).2/\newD T9 i=RM.D (BI.q pq))/\True)/\∀(i:BI),bi2P g n T11 T12 i->(decide ((T6 i)<T5)=true->(T14 i)/\∀(i_1:RM),(0=0/\2*n=2*n/\((0:Int)<=0/\(0:Int)<=16/\32+spOf (T13 i) (BI.b i) <
 40)/\(0<=(T6 i)/\(T6 i)<(↑n:Int))/\qiO (T13 i) g n (BI.b i) T12 (Q4.mk (fmin (g (2*Int.toNat (T6 i))) (g (2*nx n (Int.toNat (T6 i))))) (fmin (g (2*Int.toNat (T6 i)+1)) (g (2*nx n (Int.toNat (T6 i))+1))) (fmax (g (2*Int.toNat (T6
 i))) (g (2*nx n (Int.toNat (T6 i))))) (fmax (g (2*Int.toNat (T6 i)+1)) (g (2*nx n (Int.toNat (T6 i))+1)))) (Int.toNat (T6 i)) 16)/\true=true/\(qiP (T13 i) g n (BI.b i) T12 16 (Int.toNat (T6 i)) i_1->∃(pq:BI),bi2P g n T11 T12 pq/\
 nsg cl n (wz g)-BI.j pq<nsg cl n (wz g)-BI.j i/\(T10 i pq)/\True/\T4/\True/\(2*n<=2*n/\∀(i:Nat),i<2*n->g i=g i)/\True/\(0=0/\0=0/\biT=biT/\i_1.3=(BI.q pq).3/\i_1.2=(BI.q pq).2/\RM.D i_1=RM.D (BI.q pq))/\
 True))/\(decide ((T6 i)<T5)=false->∀(i_1:Nat),¬(BI.q i).1 i_1->∀(i_2:DI),(2=2/\0=0/\qmO (T7 i i_1) (BI.b i) T12 i_1 0 5 5 40)/\(qmP (T7 i i_1) (BI.b i) T12 i_1 0 5 i_2->∀(_:Unit),(T8 i_2)/\(T2 i i_2))))/\((k==(2:Int))
 = false->∃(pq:Nat×(Nat->Int)),ixP (decide (k≠(0:Int))) T11 k n g T12 pq/\True/\True/\(89=89/\0=0/\cl=cl/\cw=cw/\cv=cv/\k=k/\decide (k≠(0:Int))=false/\x=x/\y=y/\z=z/\w=w/\(True/\n=n)/\True)/\
 True/\pq.1=0/\True))):=by subst t1 t2 t3 t4 t5 t6 t7 t8 t9 t10 t11 t12 t13 t14 t15;kernel_rfl
theorem bIdxU:RConOk Try.prog 41 (rconR (Nat×(Nat->Int)) ⟨(0,λ_=>0)⟩ bIdxUC):=by
 refine rcon_of_vcP xBi Try.func41 rfl (by kernel_rfl) biT λargs=>?_
 unfold bIdxUC
 split
 ·rename_i s
  intro o0
  try dsimp only
  split
  ·rename_i hrw0
   try dsimp only
   split
   ·rename_i cl cw cv k x y z w p n hm0
    intro o1
    try dsimp only
    split
    ·rename_i m1 g hm1
     intro ho
     replace ho:m1=2*n/\(k=0∨bixO (nsg cl n (wz g)) k n g ⟨x,y,z,w⟩):=ho
     obtain⟨hsz1,ho⟩:=ho
     subst hsz1
     refine⟨?_,_,_,(vc_bIdxU cl cw cv k x y z w p n g rfl rfl rfl rfl rfl rfl rfl rfl rfl rfl rfl rfl rfl rfl rfl).mpr ?_⟩
     ·refine okFlag_mk rfl ⟨λ_=>rfl,?_,⟨trivial,obR_rw hrw0 (serOf_spec hm0 sameN_self),⟨trivial,(contR_flts hm1).1,trivial⟩⟩⟩
      simp[eqvRL,eqvR,sgSig,fsts,nth,sameN_self]
     ·rcases ho with rfl|⟨hk,hn,hg,hq2⟩
      ·simp only[true_and,and_true,eq_self,Int.toNat_natCast,decide_eq_true_eq,decide_eq_false_iff_not,true_implies,implies_true,Int.reduceLE,Int.le_refl]
       refine⟨λh=>absurd h (by decide),λ_=>⟨λh=>absurd h (by decide),λ_=>?_⟩⟩
       refine⟨(0,λ_=>0),⟨λh=>absurd h (by decide),λ_=>rfl⟩,?_⟩
       exact⟨by simp,rfl⟩
      have hm:=nsg_leN cl n (wz g)
      simp only[true_and,and_true,eq_self,Int.toNat_natCast,decide_eq_true_eq,decide_eq_false_iff_not,true_implies,implies_true,Int.reduceLE,Int.le_refl]
      generalize nsg cl n (wz g)=m at *
      have nf:∀ a:Nat,¬(λ_:Nat=>False) a:=λ_ h=>h
      have hwj:∀ j:Nat,j<m->IntKind.i64.wrap ((j:Int)+1)=((j+1:Nat):Int):=λj hj=>by rw[wrap64 (by omega) (by omega)];rfl
      refine⟨λh1 a _=>⟨⟨by omega,hg⟩,?_,?_⟩,λh1=>⟨λh2 a _=>⟨⟨by omega,hg⟩,?_,?_⟩,λh2=>?_⟩⟩
      ·rw[newFx_eq (nf a),newSx_eq (nf a)]
       exact⟨⟨⟨newD (λ_=>False) a,newS (λ_=>0) a 8,newF (λ_ _=>.bool false) a (rz tys 108)⟩,a,0⟩,bi1_init g n m (.inl rfl) (by simp[newS]) (λk=>by simp[newF]),⟨rfl,rfl⟩,Nat.le_refl _,rfl,rfl,rfl⟩
      ·have hk1:k=1:=by simpa using h1
       subst hk1
       rintro⟨q,b,j⟩ hb
       dsimp only
       refine⟨λhlt=>⟨⟨by omega,by have:=hb.1;dsimp only at this;omega,by omega⟩,λa1 ha1 a2 ha2 q'=>?_⟩,λhge a1 ha1 i=>?_⟩
       ·obtain⟨s1,s2⟩:=bi1_step hb (by show j<m;omega) hm hn hg ha1 ha2 (f1:=λt=>[Value.float .f64 (fmin (g (2*j)) (g (2*nx n j))),Value.float .f64 (fmin (g (2*j+1)) (g (2*nx n j+1)))].getD t (.bool false)) (f2:=λt=>[Value.float .f64 (fmax (g (2*j)) (g (2*nx n j))),Value.float .f64 (fmax (g (2*j+1)) (g (2*nx n j+1)))].getD t (.bool false)) rfl rfl rfl rfl
        exact⟨s1,λhP=>⟨_,s2 q' hP,by show m-(j+1)<m-j;omega,⟨rfl,hwj j (by omega)⟩,Nat.le_refl _,rfl,rfl,rfl⟩⟩
       ·obtain⟨s1,s2⟩:=bi1_end (Q:=⟨x,y,z,w⟩) hb (by have:=hb.1;dsimp only at this;show j=m;omega) hm hn ha1
        refine⟨⟨b5_byO (by decide),s1⟩,λhP _=>?_⟩
        obtain⟨s3,s4⟩:=s2 i hP
        exact⟨s3,_,⟨λ_=>s4,λh=>absurd h (by decide)⟩,⟨by decide,rfl⟩,Nat.le_refl _,λ_ _=>rfl⟩
      ·rw[newFx_eq (nf a),newSx_eq (nf a)]
       exact⟨⟨⟨newD (λ_=>False) a,newS (λ_=>0) a 6,newF (λ_ _=>.bool false) a (rz tys 118)⟩,a,0⟩,bi2_init g n m _ (.inl rfl) (by simp[newS]) (λk=>by simp[newF]),⟨rfl,rfl⟩,Nat.le_refl _,rfl,rfl,rfl⟩
      ·have hk1:k=2:=by simpa using h2
       subst hk1
       obtain⟨hQ,hit⟩:=hq2 rfl
       rintro⟨q,b,j⟩ hb
       dsimp only
       refine⟨λhlt=>⟨⟨by omega,by have:=hb.1;dsimp only at this;omega,by omega⟩,λq'=>?_⟩,λhge a1 ha1 i=>?_⟩
       ·obtain⟨s1,s2⟩:=bi2_step hb (by show j<m;omega) hm hn hQ hit
        have hsp:=spOf_le q b
        exact⟨⟨by show 32+spOf q b<40;omega,⟨by omega,by omega⟩,s1⟩,λhP=>⟨_,s2 q' hP,by show m-(j+1)<m-j;omega,⟨rfl,hwj j (by omega)⟩,Nat.le_refl _,rfl,rfl,rfl⟩⟩
       ·obtain⟨s1,s2⟩:=bi2_end (Q:=⟨x,y,z,w⟩) hb (by have:=hb.1;dsimp only at this;show j=m;omega) hm hn hQ ha1
        refine⟨s1,λhP _=>?_⟩
        obtain⟨s3,s4⟩:=s2 i hP
        exact⟨s3,_,⟨λ_=>s4,λh=>absurd h (by decide)⟩,⟨by decide,rfl⟩,Nat.le_refl _,λ_ _=>rfl⟩
      ·exfalso
       rcases hk with rfl|rfl
       ·exact absurd h1 (by decide)
       ·exact absurd h2 (by decide)
    ·trivial
   ·trivial
  ·trivial
 ·trivial
noncomputable def XMu:RCtx:=⟨GMi,[(41,rconR (Nat×(Nat->Int)) ⟨(0,λ_=>0)⟩ bIdxUC)],[],[],[]⟩
theorem xMu:RCtxOk Try.prog XMu:=⟨gMi,RGamOk.cons bIdxU RGamOk.nil⟩
def rectU(len:Nat)(cl:Bool)(g:Nat->Nat)(p:Nm)(k:Int)(ib:Bool)(d:Nm)(m:Nat):List SV :=
 [.bool cl, .bool (ppBig len cl&&fGt .f64 (cwF g len len) 0), .bool (ppBig len cl && !(dcF g len len).2), .int .u8 k, .opt ib 112 (.slcc d m), .flt .f64 (pick (ppBig len cl) (rlo g 0 len)), .flt .f64 (pick (ppBig len cl) (rlo g 1 len)), .flt .f64 (pick (ppBig len cl) (rhi g 0 len)), .flt .f64 (pick (ppBig len cl) (rhi g 1 len)), .slcc p len]
def mkUO(len:Nat)(cl:Bool)(m k:Int)(g:Nat->Nat):Prop:=len<=1000000/\(ppBig len cl=true->ppOk g len)/\(ixIf len m k=true->bixO (nsg cl len (wz g)) k len g (ppQ len cl g))
noncomputable def mkUC:List SV->RRd (Nat×(Nat->Int))
 | [.slcc n len, .tt,v, .ptr o 0]=>.read n λo0=>(match fltsFrom .f64 o0.c with
  | some (m0,g)=>.read o λo1=>(match optOf o1.c with
  | some (k,m)=>(match v.toB with
  | some cl=>.ret ⟨[.slcc 0 len, .tt, .bool cl, .ptr 1 0],[(0,⟨false,55, .flts .f64 m0 g,0⟩),(1,⟨false,87,optC k m,0⟩)],some (m0=2*len/\(mkUO len cl m k g)),λr=>ixP (ixIf len m k) (nsg cl len (wz g)) k len g (ppQ len cl g) r,λr=>⟨[],[], .agg (rectU len cl g 2 (ixK len m k) (ixIf len m k) 3 r.1),[],[(2,⟨true,55, .flts .f64 (2*len) g,2⟩),(3,⟨true,5, .ints .u8 r.1 r.2,1⟩)],none⟩⟩
  | none=>.fail)
  | none=>.fail)
  | none=>.fail)
 | _=>.fail
theorem vc_mkU(len:Nat)(cl:Bool)(m:Int)(k:Int)(g:Nat->Nat){T1}(t1:T1=(cl=cl/\(ppBig len cl&&fGt .f64 (cwF g len len) 0)=(ppBig len cl&&fGt .f64 (cwF g len len) 0)/\(ppBig len cl && !(dcF g len len).2)=(ppBig len cl && !(dcF g len len).2)/\(0:Int)=ixK len m k/\ixIf len m k=false/\pick
 (ppBig len cl) (rlo g 0 len)=pick (ppBig len cl) (rlo g 0 len)/\pick (ppBig len cl) (rlo g 1 len)=pick (ppBig len cl) (rlo g 1 len)/\pick (ppBig len cl) (rhi g 0 len)=pick (ppBig len cl) (rhi g 0 len)/\pick (ppBig len cl) (rhi g 1 len) =
 pick (ppBig len cl) (rhi g 1 len)/\(True/\Int.toNat (↑len:Int)=len)/\True)){T2}(t2:T2=(↑len:Int)){T3}(t3:T3=(ppBig len cl)){T4}(t4:T4=(Q4.mk (pick T3 (rlo g 0 len)) (pick T3 (rlo g 1 len)) (pick T3 (rhi g 0 len)) (pick T3 (rhi g 1
 len)))){T5}(t5:T5=(55=55/\2=2/\2*len<=Int.toNat T2*2/\∀ (i:Nat),i<2*len->g i=g i)){T6}(t6:T6=(ppBig len cl&&fGt .f64 (cwF g len len) 0)):runG XMu 2 [] [] (codeOf Try.f33) (init Try.f33.ntmps [.slcc 0 len, .tt, .bool cl, .ptr 1 0] [(0,⟨false,55, .flts .f64 (2*len) g,0⟩),(1,⟨false,87,optC k m,0⟩)] 2) (endK XMu.G.E.T Try.f33.results.toList λS v=>∃ r:Nat×(Nat->Int),ixP (ixIf len m k) (nsg cl len (wz g)) k len g (ppQ len cl g) r/\postP 2 ⟨[],[], .agg (rectU len cl g 2 (ixK len m k) (ixIf len m k) 3 r.1),[],[(2,⟨true,55, .flts .f64 (2*len) g,2⟩),(3,⟨true,5, .ints .u8 r.1 r.2,1⟩)],none⟩ S v)=(
 (T2=T2/\0<=T2/\T2<=9223372036854775807/\T2*16<=(140737488355328:Int))/\(len=Int.toNat T2/\Int.toNat T2*2=Int.toNat T2*2/\2*len=Int.toNat T2*2)/\(2*len=2*len/\len<=1000000/\(ppBig len cl=true->ppOk g len))/\
 ((m != (0:Int))=true->(decide (m<=T2)=true->∀(i:Nat×(Nat->Int)),(Int.toNat T2*2=2*Int.toNat T2/\(k=(0:Int)∨bixO (nsg cl (Int.toNat T2) (wz g)) k (Int.toNat T2) g T4))/\(ixP (decide (k≠(0:Int))) (nsg cl (Int.toNat T2)
 (wz g)) k (Int.toNat T2) g T4 i->∃(pq:Nat×(Nat->Int)),ixP (ixIf len m k) (nsg cl len (wz g)) k len g (ppQ len cl g) pq/\(cl=cl/\T6=T6/\(ppBig len cl && !(dcF g len len).2)=(ppBig len cl && !Prod.snd (dcF g len len))/\k=ixK len m k
 /\(decide (k≠(0:Int))=ixIf len m k/\True/\i.1=pq.1)/\pick T3 (rlo g 0 len)=pick T3 (rlo g 0 len)/\pick T3 (rlo g 1 len)=pick T3 (rlo g 1 len)/\pick T3 (rhi g 0 len)=pick T3 (rhi g 0 len)/\pick T3 (rhi g 1 len)=pick T3 (rhi g 1
 len)/\(True/\Int.toNat T2=len)/\True)/\True/\(55=55/\2=2/\2*len<=Int.toNat T2*2/\∀(i:Nat),i<2*len->g i=g i)/\True/\(5=5/\1=1/\pq.1<=i.1/\∀(i_1:Nat),i_1<pq.1->i.2 i_1=pq.2 i_1)/\True))/\(decide (m<=
 T2)=false->∃(pq:Nat×(Nat->Int)),ixP (ixIf len m k) (nsg cl len (wz g)) k len g (ppQ len cl g) pq/\T1/\True/\T5/\True/\pq.1=0/\True))/\((m != (0:Int))=false->∃(pq:Nat×(Nat->Int)),ixP (ixIf len m k) (nsg cl len (wz g)) k
 len g (ppQ len cl g) pq/\T1/\True/\T5/\True/\pq.1=0/\True)):=by subst t1 t2 t3 t4 t5 t6;kernel_rfl
theorem mkU:RConOk Try.prog 33 (rconR (Nat×(Nat->Int)) ⟨(0,λ_=>0)⟩ mkUC):=by
 refine rcon_of_vc xMu Try.func33 rfl (by kernel_rfl) λargs=>?_
 unfold mkUC
 split
 ·rename_i n len v o
  intro o0
  try dsimp only
  split
  ·rename_i m0 g hm0
   intro o1
   try dsimp only
   split
   ·rename_i k m hm1
    try dsimp only
    split
    ·rename_i cl hcl
     intro ho
     replace ho:m0=2*len/\(mkUO len cl m k g):=ho
     obtain⟨hsz0,ho⟩:=ho
     subst hsz0
     refine⟨?_,_,_,(vc_mkU len cl m k g rfl rfl rfl rfl rfl rfl).mpr ?_⟩
     ·refine okFlag_mk rfl ⟨λ_=>rfl,?_,⟨trivial,(contR_flts hm0).1,⟨trivial,optOf_spec hm1,trivial⟩⟩⟩
      simp[eqvRL,eqvR,sgSig,fsts,nth,sameN_self,toB_eqvR hcl]
     ·obtain⟨hl,hpp,hb⟩:=ho
      simp only[true_and,and_true,eq_self,Int.toNat_natCast,decide_eq_true_eq,decide_eq_false_iff_not,implies_true]
      have e2:2*len=len*2:=by omega
      have hyes:(m != 0)=true->m<=(len:Int)->ixIf len m k=decide (k≠0):=λh0 h1=>by
       have hm:m≠0/\m<=(len:Int):=⟨by simpa using h0,h1⟩
       unfold ixIf;rw[decide_eq_true hm,Bool.true_and]
      refine⟨⟨by omega,by omega,by omega⟩,e2,⟨hl,hpp⟩,λh0=>⟨λh1 r=>⟨⟨e2.symm,?_⟩,λhP=>⟨r,?_,⟨?_,?_,rfl⟩,by omega,Nat.le_refl _,λ_ _=>rfl⟩⟩,λh1=>?_⟩,λh0=>?_⟩
      ·by_cases hk:k=0
       ·exact .inl hk
       ·exact .inr (hb (by rw[hyes h0 h1];exact decide_eq_true hk))
      ·rw[hyes h0 h1];exact hP
      ·have hm:m≠0/\m<=(len:Int):=⟨by simpa using h0,h1⟩
       unfold ixK;rw[if_pos hm]
      ·exact(hyes h0 h1).symm
      ·have hno:¬(m≠0/\m<=(len:Int)):=λh=>h1 h.2
       have hf:ixIf len m k=false:=by unfold ixIf;rw[decide_eq_false hno,Bool.false_and]
       exact⟨(0,λ_=>0),⟨λh=>by rw[hf]at h;exact absurd h (by decide),λ_=>rfl⟩,⟨by unfold ixK;rw[if_neg hno],hf⟩,by omega,rfl⟩
      ·have hno:¬(m≠0/\m<=(len:Int)):=λh=>by simp[h.1]at h0
       have hf:ixIf len m k=false:=by unfold ixIf;rw[decide_eq_false hno,Bool.false_and]
       exact⟨(0,λ_=>0),⟨λh=>by rw[hf]at h;exact absurd h (by decide),λ_=>rfl⟩,⟨by unfold ixK;rw[if_neg hno],hf⟩,by omega,rfl⟩
    ·trivial
   ·trivial
  ·trivial
 ·trivial
noncomputable def XLu:RCtx:=⟨G0,[(33,rconR (Nat×(Nat->Int)) ⟨(0,λ_=>0)⟩ mkUC)],[],[],[]⟩
theorem xLu:RCtxOk Try.prog XLu:=⟨g0,RGamOk.cons mkU RGamOk.nil⟩
noncomputable def newLineUC:List SV->RRd (Nat×(Nat->Int))
 | [.slcc n len, .ptr o 0]=>.read n λo0=>(match fltsFrom .f64 o0.c with
  | some (m0,g)=>.read o λo1=>(match optOf o1.c with
  | some (k,m)=>.ret ⟨[.slcc 0 len, .ptr 1 0],[(0,⟨false,55, .flts .f64 m0 g,0⟩),(1,⟨false,87,optC k m,0⟩)],some (m0=2*len/\(mkUO len false m k g)),λr=>ixP (ixIf len m k) (nsg false len (wz g)) k len g (ppQ len false g) r,λr=>⟨[],[], .ptr 2 0,[],[(2,⟨true,91, .cells (rectU len false g 3 (ixK len m k) (ixIf len m k) 4 r.1),0⟩),(3,⟨true,55, .flts .f64 (2*len) g,2⟩),(4,⟨true,5, .ints .u8 r.1 r.2,1⟩)],none⟩⟩
  | none=>.fail)
  | none=>.fail)
 | _=>.fail
theorem vc_newLineU(len:Nat)(m:Int)(k:Int)(g:Nat->Nat){T1}(t1:T1=(ppBig len false)){T2}(t2:T2=(ppBig len false&&fGt .f64 (cwF g len len) 0)):runG XLu 2 [] [] (codeOf Try.f29) (init Try.f29.ntmps [.slcc 0 len, .ptr 1 0] [(0,⟨false,55, .flts .f64 (2*len) g,0⟩),(1,⟨false,87,optC k m,0⟩)] 2) (endK XLu.G.E.T Try.f29.results.toList λS v=>∃ r:Nat×(Nat->Int),ixP (ixIf len m k) (nsg false len (wz g)) k len g (ppQ len false g) r/\postP 2 ⟨[],[], .ptr 2 0,[],[(2,⟨true,91, .cells (rectU len false g 3 (ixK len m k) (ixIf len m k) 4 r.1),0⟩),(3,⟨true,55, .flts .f64 (2*len) g,2⟩),(4,⟨true,5, .ints .u8 r.1 r.2,1⟩)],none⟩ S v)=(
 ∀(i:Nat×(Nat->Int)),(2*len=2*len/\mkUO len false m k g)/\(ixP (ixIf len m k) (nsg false len (wz g)) k len g (ppQ len false g) i->∃(pq:Nat×(Nat->Int)),ixP (ixIf len m k) (nsg false len (wz g)) k len g (ppQ len false g) pq/\
 (True/\0=0)/\True/\(91=91/\0=0/\false=false/\T2=T2/\(ppBig len false && !(dcF g len len).2)=(ppBig len false && !(dcF g len len).2)/\ixK len m k=ixK len m k/\(ixIf len m k=ixIf len m k/\True/\i.1=pq.1)/\pick T1 (rlo g 0
 len)=pick T1 (rlo g 0 len)/\pick T1 (rlo g 1 len)=pick T1 (rlo g 1 len)/\pick T1 (rhi g 0 len)=pick T1 (rhi g 0 len)/\pick T1 (rhi g 1 len)=pick T1 (rhi g 1 len)/\(True/\len=len)/\True)/\True/\(55=55/\2=2/\2*len<=2*len/\
 ∀(i:Nat),i<2*len->g i=g i)/\True/\(5=5/\1=1/\pq.1<=i.1/\∀(i_1:Nat),i_1<pq.1->i.2 i_1=pq.2 i_1)/\True)):=by subst t1 t2;kernel_rfl
theorem newLineU:RConOk Try.prog 29 (rconR (Nat×(Nat->Int)) ⟨(0,λ_=>0)⟩ newLineUC):=by
 refine rcon_of_vc xLu Try.func29 rfl (by kernel_rfl) λargs=>?_
 unfold newLineUC
 split
 ·rename_i n len o
  intro o0
  try dsimp only
  split
  ·rename_i m0 g hm0
   intro o1
   try dsimp only
   split
   ·rename_i k m hm1
    intro ho
    replace ho:m0=2*len/\(mkUO len false m k g):=ho
    obtain⟨hsz0,ho⟩:=ho
    subst hsz0
    refine⟨?_,_,_,(vc_newLineU len m k g rfl rfl).mpr ?_⟩
    ·refine okFlag_mk rfl ⟨λ_=>rfl,?_,⟨trivial,(contR_flts hm0).1,⟨trivial,optOf_spec hm1,trivial⟩⟩⟩
     simp[eqvRL,eqvR,sgSig,fsts,nth,sameN_self]
    ·simp only[true_and,and_true,eq_self,implies_true]
     exact λr=>⟨ho,λhP=>⟨r,hP,rfl,Nat.le_refl _,Nat.le_refl _,λ_ _=>rfl⟩⟩
   ·trivial
  ·trivial
 ·trivial
noncomputable def newRingUC:List SV->RRd (Nat×(Nat->Int))
 | [.slcc n len, .ptr o 0]=>.read n λo0=>(match fltsFrom .f64 o0.c with
  | some (m0,g)=>.read o λo1=>(match optOf o1.c with
  | some (k,m)=>.ret ⟨[.slcc 0 len, .ptr 1 0],[(0,⟨false,55, .flts .f64 m0 g,0⟩),(1,⟨false,87,optC k m,0⟩)],some (m0=2*len/\(mkUO len true m k g)),λr=>ixP (ixIf len m k) (nsg true len (wz g)) k len g (ppQ len true g) r,λr=>⟨[],[], .ifc 98 (.ptr 2 0),[],[(2,⟨true,89, .cells (rectU len true g 3 (ixK len m k) (ixIf len m k) 4 r.1),0⟩),(3,⟨true,55, .flts .f64 (2*len) g,2⟩),(4,⟨true,5, .ints .u8 r.1 r.2,1⟩)],none⟩⟩
  | none=>.fail)
  | none=>.fail)
 | _=>.fail
theorem vc_newRingU(len:Nat)(m:Int)(k:Int)(g:Nat->Nat){T1}(t1:T1=(ppBig len true)){T2}(t2:T2=(ppBig len true&&fGt .f64 (cwF g len len) 0)):runG XLu 2 [] [] (codeOf Try.f32) (init Try.f32.ntmps [.slcc 0 len, .ptr 1 0] [(0,⟨false,55, .flts .f64 (2*len) g,0⟩),(1,⟨false,87,optC k m,0⟩)] 2) (endK XLu.G.E.T Try.f32.results.toList λS v=>∃ r:Nat×(Nat->Int),ixP (ixIf len m k) (nsg true len (wz g)) k len g (ppQ len true g) r/\postP 2 ⟨[],[], .ifc 98 (.ptr 2 0),[],[(2,⟨true,89, .cells (rectU len true g 3 (ixK len m k) (ixIf len m k) 4 r.1),0⟩),(3,⟨true,55, .flts .f64 (2*len) g,2⟩),(4,⟨true,5, .ints .u8 r.1 r.2,1⟩)],none⟩ S v)=(
 ∀(i:Nat×(Nat->Int)),(2*len=2*len/\mkUO len true m k g)/\(ixP (ixIf len m k) (nsg true len (wz g)) k len g (ppQ len true g) i->∃(pq:Nat×(Nat->Int)),ixP (ixIf len m k) (nsg true len (wz g)) k len g (ppQ len true g) pq/\(True/\0
 = 0)/\True/\(89=89/\0=0/\true=true/\T2=T2/\(ppBig len true && !(dcF g len len).2)=(ppBig len true && !(dcF g len len).2)/\ixK len m k=ixK len m k/\(ixIf len m k=ixIf len m k/\True/\i.1=pq.1)/\pick T1 (rlo g 0 len)=pick T1
 (rlo g 0 len)/\pick T1 (rlo g 1 len)=pick T1 (rlo g 1 len)/\pick T1 (rhi g 0 len)=pick T1 (rhi g 0 len)/\pick T1 (rhi g 1 len)=pick T1 (rhi g 1 len)/\(True/\len=len)/\True)/\True/\(55=55/\2=2/\2*len<=2*len/\∀(i:Nat),i
 < 2*len->g i=g i)/\True/\(5=5/\1=1/\pq.1<=i.1/\∀(i_1:Nat),i_1<pq.1->i.2 i_1=pq.2 i_1)/\True)):=by subst t1 t2;kernel_rfl
theorem newRingU:RConOk Try.prog 32 (rconR (Nat×(Nat->Int)) ⟨(0,λ_=>0)⟩ newRingUC):=by
 refine rcon_of_vc xLu Try.func32 rfl (by kernel_rfl) λargs=>?_
 unfold newRingUC
 split
 ·rename_i n len o
  intro o0
  try dsimp only
  split
  ·rename_i m0 g hm0
   intro o1
   try dsimp only
   split
   ·rename_i k m hm1
    intro ho
    replace ho:m0=2*len/\(mkUO len true m k g):=ho
    obtain⟨hsz0,ho⟩:=ho
    subst hsz0
    refine⟨?_,_,_,(vc_newRingU len m k g rfl rfl).mpr ?_⟩
    ·refine okFlag_mk rfl ⟨λ_=>rfl,?_,⟨trivial,(contR_flts hm0).1,⟨trivial,optOf_spec hm1,trivial⟩⟩⟩
     simp[eqvRL,eqvR,sgSig,fsts,nth,sameN_self]
    ·simp only[true_and,and_true,eq_self,implies_true]
     exact λr=>⟨ho,λhP=>⟨r,hP,rfl,Nat.le_refl _,Nat.le_refl _,λ_ _=>rfl⟩⟩
   ·trivial
  ·trivial
 ·trivial
noncomputable def XPu:RCtx:=⟨G0,[(32,rconR (Nat×(Nat->Int)) ⟨(0,λ_=>0)⟩ newRingUC)],[],[],[]⟩
theorem xPu:RCtxOk Try.prog XPu:=⟨g0,RGamOk.cons newRingU RGamOk.nil⟩
noncomputable def newPoly0UC:List SV->RRd (Nat×(Nat->Int))
 | [.slcc n len, .nils, .ptr o 0]=>.read n λo0=>(match fltsFrom .f64 o0.c with
  | some (m0,g)=>.read o λo1=>(match optOf o1.c with
  | some (k,m)=>.ret ⟨[.slcc 0 len, .nils, .ptr 1 0],[(0,⟨false,55, .flts .f64 m0 g,0⟩),(1,⟨false,87,optC k m,0⟩)],some (m0=2*len/\(mkUO len true m k g)),λr=>ixP (ixIf len m k) (nsg true len (wz g)) k len g (ppQ len true g) r,λr=>⟨[],[], .ptr 2 0,[],[(2,⟨true,72, .cells [.ifc 98 (.ptr 3 0), .nils],0⟩),(3,⟨true,89, .cells (rectU len true g 4 (ixK len m k) (ixIf len m k) 5 r.1),0⟩),(4,⟨true,55, .flts .f64 (2*len) g,2⟩),(5,⟨true,5, .ints .u8 r.1 r.2,1⟩)],none⟩⟩
  | none=>.fail)
  | none=>.fail)
 | _=>.fail
theorem vc_newPoly0U(len:Nat)(m:Int)(k:Int)(g:Nat->Nat){T1}(t1:T1=(ppBig len true)){T2}(t2:T2=(ppBig len true&&fGt .f64 (cwF g len len) 0)):runG XPu 2 [] [] (codeOf Try.f26) (init Try.f26.ntmps [.slcc 0 len, .nils, .ptr 1 0] [(0,⟨false,55, .flts .f64 (2*len) g,0⟩),(1,⟨false,87,optC k m,0⟩)] 2) (endK XPu.G.E.T Try.f26.results.toList λS v=>∃ r:Nat×(Nat->Int),ixP (ixIf len m k) (nsg true len (wz g)) k len g (ppQ len true g) r/\postP 2 ⟨[],[], .ptr 2 0,[],[(2,⟨true,72, .cells [.ifc 98 (.ptr 3 0), .nils],0⟩),(3,⟨true,89, .cells (rectU len true g 4 (ixK len m k) (ixIf len m k) 5 r.1),0⟩),(4,⟨true,55, .flts .f64 (2*len) g,2⟩),(5,⟨true,5, .ints .u8 r.1 r.2,1⟩)],none⟩ S v)=(
 ∀(i:Nat×(Nat->Int)),(2*len=2*len/\mkUO len true m k g)/\(ixP (ixIf len m k) (nsg true len (wz g)) k len g (ppQ len true g) i->(false=true->((0:Int)=0/\(0:Int)<=0/\(0:Int)<=9223372036854775807/\(0:Int)<=
 140737488355328)/\False)/\(false=false->∃(pq:Nat×(Nat->Int)),ixP (ixIf len m k) (nsg true len (wz g)) k len g (ppQ len true g) pq/\(True/\0=0)/\True/\(72=72/\0=0/\(True/\0=0)/\True/\True)/\True/\(89=89/\0=0/\true
 = true/\T2=T2/\(ppBig len true && !(dcF g len len).2)=(ppBig len true && !(dcF g len len).2)/\ixK len m k=ixK len m k/\(ixIf len m k=ixIf len m k/\True/\i.1=pq.1)/\pick T1 (rlo g 0 len)=pick T1 (rlo g 0 len)/\pick T1 (rlo g 1 len)
 = pick T1 (rlo g 1 len)/\pick T1 (rhi g 0 len)=pick T1 (rhi g 0 len)/\pick T1 (rhi g 1 len)=pick T1 (rhi g 1 len)/\(True/\len=len)/\True)/\True/\(55=55/\2=2/\2*len<=2*len/\∀(i:Nat),i<2*len->g i=g i)/\True/\(5=5
 /\1=1/\pq.1<=i.1/\∀(i_1:Nat),i_1<pq.1->i.2 i_1=pq.2 i_1)/\True))):=by subst t1 t2;kernel_rfl
theorem newPoly0U:RConOk Try.prog 26 (rconR (Nat×(Nat->Int)) ⟨(0,λ_=>0)⟩ newPoly0UC):=by
 refine rcon_of_vc xPu Try.func26 rfl (by kernel_rfl) λargs=>?_
 unfold newPoly0UC
 split
 ·rename_i n len o
  intro o0
  try dsimp only
  split
  ·rename_i m0 g hm0
   intro o1
   try dsimp only
   split
   ·rename_i k m hm1
    intro ho
    replace ho:m0=2*len/\(mkUO len true m k g):=ho
    obtain⟨hsz0,ho⟩:=ho
    subst hsz0
    refine⟨?_,_,_,(vc_newPoly0U len m k g rfl rfl).mpr ?_⟩
    ·refine okFlag_mk rfl ⟨λ_=>rfl,?_,⟨trivial,(contR_flts hm0).1,⟨trivial,optOf_spec hm1,trivial⟩⟩⟩
     simp[eqvRL,eqvR,sgSig,fsts,nth,sameN_self]
    ·simp only[true_and,and_true,eq_self,true_implies,false_implies,implies_true,Bool.false_eq_true,Int.reduceLE,Int.le_refl]
     exact λr=>⟨ho,λhP=>⟨r,hP,rfl,Nat.le_refl _,Nat.le_refl _,λ_ _=>rfl⟩⟩
   ·trivial
  ·trivial
 ·trivial
def serIo:Cont->Option (Bool×Bool×Bool×Int×Bool×Nm×Nat×Nat×Nat×Nat×Nat×Nm×Nat)
 | .cells [a,b,c, .int .u8 k, .opt ib 112 (.slcc d m), .flt .f64 x, .flt .f64 y, .flt .f64 z, .flt .f64 w, .slcc p n]=>match a.toB with
  | some a=>match b.toB with
   | some b=>match c.toB with
    | some c=>some (a,b,c,k,ib,d,m,x,y,z,w,p,n)
    | none=>none
   | none=>none
  | none=>none
 | _=>none
theorem serIo_spec{σ:Sig}{c:Cont}{cl cw cv:Bool}{k:Int}{ib:Bool}{d e:Nm}{m:Nat}{x y z w:Nat}{p q:Nm}{n:Nat}(h:serIo c=some (cl,cw,cv,k,ib,d,m,x,y,z,w,p,n))(hd:sameN (σ e) d)(hs:sameN (σ q) p):contR σ c (serIc cl cw cv k ib e m x y z w q n):=by
 unfold serIo at h;split at h
 ·split at h
  ·rename_i ha;split at h
   ·rename_i hb;split at h
    ·rename_i hc;simp only[Option.some.injEq,Prod.mk.injEq]at h;obtain⟨rfl,rfl,rfl,rfl,rfl,rfl,rfl,rfl,rfl,rfl,rfl,rfl,rfl⟩:=h;show eqvRL σ _ _;simp[eqvRL,eqvR,kEq_self,fkEq_self,toB_eqvR ha,toB_eqvR hb,toB_eqvR hc,hs,hd]
    ·cases h
   ·cases h
  ·cases h
 ·cases h
def valLI(n:Nat)(g:Nat->Nat)(_:Nat)(_:Nat->Int):Fam:=⟨Nat,λi =>
 ⟨18,[(8, .slcc 1 n),(9, .int .i64 n),(10, .int .i64 i)],[(1,⟨false,55, .flts .f64 (2*n) g,0⟩)],3⟩,λi=>i<=n/\allValid i g=true,λi=>n-i⟩
noncomputable def sNumPIC:List SV->RdM
 | [.ptr s 0]=>.read s λo0=>(match serIo o0.c with
  | some (cl,cw,cv,k,ib,dd,im,x,y,z,w,p,n)=>.read p λo1=>(match fltsFrom .f64 o1.c with
  | some (m1,g)=>.read dd λo2=>(match intsFrom .u8 o2.c with
  | some (m2,gB)=>.ret ⟨[.ptr 0 0],[(0,⟨false,89,serIc cl cw cv k ib 2 im x y z w 1 n,0⟩),(1,⟨false,55, .flts .f64 m1 g,0⟩),(2,⟨false,5, .ints .u8 m2 gB,0⟩)], .int .i64 n,[],[],some (m1=2*n/\m2=1*im/\True)⟩
  | none=>.fail)
  | none=>.fail)
  | none=>.fail)
 | _=>.fail
theorem vc_sNumPI(cl cw cv:Bool)(k:Int)(ib:Bool)(_:Nm)(im:Nat)(x y z w:Nat)(_:Nm)(n:Nat)(g:Nat->Nat)(gB:Nat->Int){w9:HC}(e9:w9=⟨[.ptr 0 0],[(0,⟨false,89,serIc cl cw cv k ib 2 im x y z w 1 n,0⟩),(1,⟨false,55, .flts .f64 (2*n) g,0⟩),(2,⟨false,5, .ints .u8 (1*im) gB,0⟩)], .int .i64 n,[],[],some (2*n=2*n/\1*im=1*im/\True)⟩):runA G0 3 [] [] (codeOf Try.f106) (init Try.f106.ntmps w9.args w9.heap 3) (endK G0.E.T Try.f106.results.toList λS v=>postP 3 w9 S v)=(
 (↑n:Int)=(↑n:Int)/\True):=by subst e9;kernel_rfl
theorem sNumPI:ConOk Try.prog 106 (conR sNumPIC):=by
 refine con_of_vc g0 Try.func106 rfl (by kernel_rfl) λargs=>?_
 unfold sNumPIC;split
 ·rename_i s;intro o0;try dsimp only;split
  ·rename_i cl cw cv k ib dd im x y z w p n hm0;intro o1;try dsimp only;split
   ·rename_i m1 g hm1;intro o2;try dsimp only;split
    ·rename_i m2 gB hm2;intro ho;replace ho:m1=2*n/\m2=1*im/\True:=ho;obtain⟨hsz1,hsz2,ho⟩:=ho;subst hsz1;subst hsz2;refine⟨?_,_,_,(vc_sNumPI cl cw cv k ib dd im x y z w p n g gB rfl).mpr ?_⟩
     ·refine okFlag_mk rfl ⟨?_,⟨trivial,serIo_spec hm0 sameN_self sameN_self,⟨trivial,(contR_flts hm1).1,⟨trivial,(contR_ints hm2).1,trivial⟩⟩⟩⟩;simp[eqvRL,eqvR,sgSig,fsts,nth,sameN_self]
     ·simp
    ·trivial
   ·trivial
  ·trivial
 ·trivial
noncomputable def sRectSIC:List SV->RdM
 | [.ptr s 0]=>.read s λo0=>(match serIo o0.c with
  | some (cl,cw,cv,k,ib,dd,im,x,y,z,w,p,n)=>.read p λo1=>(match fltsFrom .f64 o1.c with
  | some (m1,g)=>.read dd λo2=>(match intsFrom .u8 o2.c with
  | some (m2,gB)=>.ret ⟨[.ptr 0 0],[(0,⟨false,89,serIc cl cw cv k ib 2 im x y z w 1 n,0⟩),(1,⟨false,55, .flts .f64 m1 g,0⟩),(2,⟨false,5, .ints .u8 m2 gB,0⟩)], .agg [.flt .f64 x, .flt .f64 y, .flt .f64 z, .flt .f64 w],[],[],some (m1=2*n/\m2=1*im/\True)⟩
  | none=>.fail)
  | none=>.fail)
  | none=>.fail)
 | _=>.fail
theorem vc_sRectSI(cl cw cv:Bool)(k:Int)(ib:Bool)(_:Nm)(im:Nat)(x y z w:Nat)(_:Nm)(n:Nat)(g:Nat->Nat)(gB:Nat->Int){w9:HC}(e9:w9=⟨[.ptr 0 0],[(0,⟨false,89,serIc cl cw cv k ib 2 im x y z w 1 n,0⟩),(1,⟨false,55, .flts .f64 (2*n) g,0⟩),(2,⟨false,5, .ints .u8 (1*im) gB,0⟩)], .agg [.flt .f64 x, .flt .f64 y, .flt .f64 z, .flt .f64 w],[],[],some (2 *
 n=2*n/\1*im=1*im/\True)⟩):runA G0 3 [] [] (codeOf Try.f108) (init Try.f108.ntmps w9.args w9.heap 3) (endK G0.E.T Try.f108.results.toList λS v=>postP 3 w9 S v)=(
 (x=x/\y=y/\z=z/\w=w/\True)/\True):=by subst e9;kernel_rfl
theorem sRectSI:ConOk Try.prog 108 (conR sRectSIC):=by
 refine con_of_vc g0 Try.func108 rfl (by kernel_rfl) λargs=>?_
 unfold sRectSIC;split
 ·rename_i s;intro o0;try dsimp only;split
  ·rename_i cl cw cv k ib dd im x y z w p n hm0;intro o1;try dsimp only;split
   ·rename_i m1 g hm1;intro o2;try dsimp only;split
    ·rename_i m2 gB hm2;intro ho;replace ho:m1=2*n/\m2=1*im/\True:=ho;obtain⟨hsz1,hsz2,ho⟩:=ho;subst hsz1;subst hsz2;refine⟨?_,_,_,(vc_sRectSI cl cw cv k ib dd im x y z w p n g gB rfl).mpr ?_⟩
     ·refine okFlag_mk rfl ⟨?_,⟨trivial,serIo_spec hm0 sameN_self sameN_self,⟨trivial,(contR_flts hm1).1,⟨trivial,(contR_ints hm2).1,trivial⟩⟩⟩⟩;simp[eqvRL,eqvR,sgSig,fsts,nth,sameN_self]
     ·simp
    ·trivial
   ·trivial
  ·trivial
 ·trivial
noncomputable def sEmptyIC:List SV->RdM
 | [.ptr s 0]=>.read s λo0=>(match serIo o0.c with
  | some (cl,cw,cv,k,ib,dd,im,x,y,z,w,p,n)=>.read p λo1=>(match fltsFrom .f64 o1.c with
  | some (m1,g)=>.read dd λo2=>(match intsFrom .u8 o2.c with
  | some (m2,gB)=>.ret ⟨[.ptr 0 0],[(0,⟨false,89,serIc cl cw cv k ib 2 im x y z w 1 n,0⟩),(1,⟨false,55, .flts .f64 m1 g,0⟩),(2,⟨false,5, .ints .u8 m2 gB,0⟩)], .bool (decide (n<2∨cl=true/\n<3)),[],[],some (m1=2*n/\m2=1*im/\True)⟩
  | none=>.fail)
  | none=>.fail)
  | none=>.fail)
 | _=>.fail
theorem vc_sEmptyI(cl cw cv:Bool)(k:Int)(ib:Bool)(_:Nm)(im:Nat)(x y z w:Nat)(_:Nm)(n:Nat)(g:Nat->Nat)(gB:Nat->Int){w9:HC}(e9:w9=⟨[.ptr 0 0],[(0,⟨false,89,serIc cl cw cv k ib 2 im x y z w 1 n,0⟩),(1,⟨false,55, .flts .f64 (2*n) g,0⟩),(2,⟨false,5, .ints .u8 (1*im) gB,0⟩)], .bool (decide (n<2∨cl=true/\n<3)),[],[],some (2*n=2*n/\1
 * im=1*im/\True)⟩):runA G0 3 [] [] (codeOf Try.f104) (init Try.f104.ntmps w9.args w9.heap 3) (endK G0.E.T Try.f104.results.toList λS v=>postP 3 w9 S v)=(
 (cl=true->(decide ((↑n:Int)<3)=true->decide (n<2∨cl=true/\n<3)=true/\True)/\(decide ((↑n:Int)<3)=false->decide ((↑n:Int)<2)=decide (n<2∨cl=true/\n<3)/\True))/\(cl=false->decide ((↑n:Int)<2) =
 decide (n<2∨cl=true/\n<3)/\True)):=by subst e9;kernel_rfl
theorem sEmptyI:ConOk Try.prog 104 (conR sEmptyIC):=by
 refine con_of_vc g0 Try.func104 rfl (by kernel_rfl) λargs=>?_
 unfold sEmptyIC;split
 ·rename_i s;intro o0;try dsimp only;split
  ·rename_i cl cw cv k ib dd im x y z w p n hm0;intro o1;try dsimp only;split
   ·rename_i m1 g hm1;intro o2;try dsimp only;split
    ·rename_i m2 gB hm2;intro ho;replace ho:m1=2*n/\m2=1*im/\True:=ho;obtain⟨hsz1,hsz2,ho⟩:=ho;subst hsz1;subst hsz2;refine⟨?_,_,_,(vc_sEmptyI cl cw cv k ib dd im x y z w p n g gB rfl).mpr ?_⟩
     ·refine okFlag_mk rfl ⟨?_,⟨trivial,serIo_spec hm0 sameN_self sameN_self,⟨trivial,(contR_flts hm1).1,⟨trivial,(contR_ints hm2).1,trivial⟩⟩⟩⟩;simp[eqvRL,eqvR,sgSig,fsts,nth,sameN_self]
     ·refine⟨λhc=>⟨λh=>?_,λh=>?_⟩,λhc=>?_⟩
      ·have h:=of_decide_eq_true h;exact⟨decide_eq_true (.inr ⟨hc,by omega⟩),trivial⟩
      ·have h:=of_decide_eq_false h;rw[show decide ((n:Int)<2)=false from decide_eq_false (by omega),show decide (n<2∨cl=true/\n<3)=false from decide_eq_false (by rintro(h1|⟨_,h1⟩) <;> omega)];exact⟨rfl,trivial⟩
      ·by_cases h:n<2
       ·rw[show decide ((n:Int)<2)=true from decide_eq_true (by omega),show decide (n<2∨cl=true/\n<3)=true from decide_eq_true (.inl h)];exact⟨rfl,trivial⟩
       ·rw[show decide ((n:Int)<2)=false from decide_eq_false (by omega),show decide (n<2∨cl=true/\n<3)=false from decide_eq_false (by rintro(h1|⟨h2,h1⟩);omega;simp[hc]at h2)];exact⟨rfl,trivial⟩
    ·trivial
   ·trivial
  ·trivial
 ·trivial
noncomputable def sClockIC:List SV->RdM
 | [.ptr s 0]=>.read s λo0=>(match serIo o0.c with
  | some (cl,cw,cv,k,ib,dd,im,x,y,z,w,p,n)=>.read p λo1=>(match fltsFrom .f64 o1.c with
  | some (m1,g)=>.read dd λo2=>(match intsFrom .u8 o2.c with
  | some (m2,gB)=>.ret ⟨[.ptr 0 0],[(0,⟨false,89,serIc cl cw cv k ib 2 im x y z w 1 n,0⟩),(1,⟨false,55, .flts .f64 m1 g,0⟩),(2,⟨false,5, .ints .u8 m2 gB,0⟩)], .bool cw,[],[],some (m1=2*n/\m2=1*im/\True)⟩
  | none=>.fail)
  | none=>.fail)
  | none=>.fail)
 | _=>.fail
theorem vc_sClockI(cl cw cv:Bool)(k:Int)(ib:Bool)(_:Nm)(im:Nat)(x y z w:Nat)(_:Nm)(n:Nat)(g:Nat->Nat)(gB:Nat->Int){w9:HC}(e9:w9=⟨[.ptr 0 0],[(0,⟨false,89,serIc cl cw cv k ib 2 im x y z w 1 n,0⟩),(1,⟨false,55, .flts .f64 (2*n) g,0⟩),(2,⟨false,5, .ints .u8 (1*im) gB,0⟩)], .bool cw,[],[],some (2*n=2*n/\1*im=1*im/\True)⟩):runA G0 3 [] [] (codeOf Try.f102) (init Try.f102.ntmps w9.args w9.heap 3) (endK G0.E.T Try.f102.results.toList λS v=>postP 3 w9 S v)=(
 cw=cw/\True):=by subst e9;kernel_rfl
theorem sClockI:ConOk Try.prog 102 (conR sClockIC):=by
 refine con_of_vc g0 Try.func102 rfl (by kernel_rfl) λargs=>?_
 unfold sClockIC;split
 ·rename_i s;intro o0;try dsimp only;split
  ·rename_i cl cw cv k ib dd im x y z w p n hm0;intro o1;try dsimp only;split
   ·rename_i m1 g hm1;intro o2;try dsimp only;split
    ·rename_i m2 gB hm2;intro ho;replace ho:m1=2*n/\m2=1*im/\True:=ho;obtain⟨hsz1,hsz2,ho⟩:=ho;subst hsz1;subst hsz2;refine⟨?_,_,_,(vc_sClockI cl cw cv k ib dd im x y z w p n g gB rfl).mpr ?_⟩
     ·refine okFlag_mk rfl ⟨?_,⟨trivial,serIo_spec hm0 sameN_self sameN_self,⟨trivial,(contR_flts hm1).1,⟨trivial,(contR_ints hm2).1,trivial⟩⟩⟩⟩;simp[eqvRL,eqvR,sgSig,fsts,nth,sameN_self]
     ·simp
    ·trivial
   ·trivial
  ·trivial
 ·trivial
noncomputable def sConvIC:List SV->RdM
 | [.ptr s 0]=>.read s λo0=>(match serIo o0.c with
  | some (cl,cw,cv,k,ib,dd,im,x,y,z,w,p,n)=>.read p λo1=>(match fltsFrom .f64 o1.c with
  | some (m1,g)=>.read dd λo2=>(match intsFrom .u8 o2.c with
  | some (m2,gB)=>.ret ⟨[.ptr 0 0],[(0,⟨false,89,serIc cl cw cv k ib 2 im x y z w 1 n,0⟩),(1,⟨false,55, .flts .f64 m1 g,0⟩),(2,⟨false,5, .ints .u8 m2 gB,0⟩)], .bool cv,[],[],some (m1=2*n/\m2=1*im/\True)⟩
  | none=>.fail)
  | none=>.fail)
  | none=>.fail)
 | _=>.fail
theorem vc_sConvI(cl cw cv:Bool)(k:Int)(ib:Bool)(_:Nm)(im:Nat)(x y z w:Nat)(_:Nm)(n:Nat)(g:Nat->Nat)(gB:Nat->Int){w9:HC}(e9:w9=⟨[.ptr 0 0],[(0,⟨false,89,serIc cl cw cv k ib 2 im x y z w 1 n,0⟩),(1,⟨false,55, .flts .f64 (2*n) g,0⟩),(2,⟨false,5, .ints .u8 (1*im) gB,0⟩)], .bool cv,[],[],some (2*n=2*n/\1*im=1*im/\True)⟩):runA G0 3 [] [] (codeOf Try.f103) (init Try.f103.ntmps w9.args w9.heap 3) (endK G0.E.T Try.f103.results.toList λS v=>postP 3 w9 S v)=(
 cv=cv/\True):=by subst e9;kernel_rfl
theorem sConvI:ConOk Try.prog 103 (conR sConvIC):=by
 refine con_of_vc g0 Try.func103 rfl (by kernel_rfl) λargs=>?_
 unfold sConvIC;split
 ·rename_i s;intro o0;try dsimp only;split
  ·rename_i cl cw cv k ib dd im x y z w p n hm0;intro o1;try dsimp only;split
   ·rename_i m1 g hm1;intro o2;try dsimp only;split
    ·rename_i m2 gB hm2;intro ho;replace ho:m1=2*n/\m2=1*im/\True:=ho;obtain⟨hsz1,hsz2,ho⟩:=ho;subst hsz1;subst hsz2;refine⟨?_,_,_,(vc_sConvI cl cw cv k ib dd im x y z w p n g gB rfl).mpr ?_⟩
     ·refine okFlag_mk rfl ⟨?_,⟨trivial,serIo_spec hm0 sameN_self sameN_self,⟨trivial,(contR_flts hm1).1,⟨trivial,(contR_ints hm2).1,trivial⟩⟩⟩⟩;simp[eqvRL,eqvR,sgSig,fsts,nth,sameN_self]
     ·simp
    ·trivial
   ·trivial
  ·trivial
 ·trivial
noncomputable def sIdxIC:List SV->RdM
 | [.ptr s 0]=>.read s λo0=>(match serIo o0.c with
  | some (cl,cw,cv,k,ib,dd,im,x,y,z,w,p,n)=>.read p λo1=>(match fltsFrom .f64 o1.c with
  | some (m1,g)=>.read dd λo2=>(match intsFrom .u8 o2.c with
  | some (m2,gB)=>.ret ⟨[.ptr 0 0],[(0,⟨false,89,serIc cl cw cv k ib 2 im x y z w 1 n,0⟩),(1,⟨false,55, .flts .f64 m1 g,0⟩),(2,⟨false,5, .ints .u8 m2 gB,0⟩)], .opt ib 112 (.slcc 2 im),[],[],some (m1=2*n/\m2=1*im/\True)⟩
  | none=>.fail)
  | none=>.fail)
  | none=>.fail)
 | _=>.fail
theorem vc_sIdxI(cl cw cv:Bool)(k:Int)(ib:Bool)(_:Nm)(im:Nat)(x y z w:Nat)(_:Nm)(n:Nat)(g:Nat->Nat)(gB:Nat->Int){w9:HC}(e9:w9=⟨[.ptr 0 0],[(0,⟨false,89,serIc cl cw cv k ib 2 im x y z w 1 n,0⟩),(1,⟨false,55, .flts .f64 (2*n) g,0⟩),(2,⟨false,5, .ints .u8 (1*im) gB,0⟩)], .opt ib 112 (.slcc 2 im),[],[],some (2*n=2*n/\1*im=1*im/\
 True)⟩):runA G0 3 [] [] (codeOf Try.f105) (init Try.f105.ntmps w9.args w9.heap 3) (endK G0.E.T Try.f105.results.toList λS v=>postP 3 w9 S v)=(
 (ib=ib/\True/\im=im)/\True):=by subst e9;kernel_rfl
theorem sIdxI:ConOk Try.prog 105 (conR sIdxIC):=by
 refine con_of_vc g0 Try.func105 rfl (by kernel_rfl) λargs=>?_
 unfold sIdxIC;split
 ·rename_i s;intro o0;try dsimp only;split
  ·rename_i cl cw cv k ib dd im x y z w p n hm0;intro o1;try dsimp only;split
   ·rename_i m1 g hm1;intro o2;try dsimp only;split
    ·rename_i m2 gB hm2;intro ho;replace ho:m1=2*n/\m2=1*im/\True:=ho;obtain⟨hsz1,hsz2,ho⟩:=ho;subst hsz1;subst hsz2;refine⟨?_,_,_,(vc_sIdxI cl cw cv k ib dd im x y z w p n g gB rfl).mpr ?_⟩
     ·refine okFlag_mk rfl ⟨?_,⟨trivial,serIo_spec hm0 sameN_self sameN_self,⟨trivial,(contR_flts hm1).1,⟨trivial,(contR_ints hm2).1,trivial⟩⟩⟩⟩;simp[eqvRL,eqvR,sgSig,fsts,nth,sameN_self]
     ·simp
    ·trivial
   ·trivial
  ·trivial
 ·trivial
noncomputable def sPtIC:List SV->RdM
 | [.ptr s 0, .int .i64 i]=>.read s λo0=>(match serIo o0.c with
  | some (cl,cw,cv,k,ib,dd,im,x,y,z,w,p,n)=>.read p λo1=>(match fltsFrom .f64 o1.c with
  | some (m1,g)=>.read dd λo2=>(match intsFrom .u8 o2.c with
  | some (m2,gB)=>.ret ⟨[.ptr 0 0, .int .i64 i],[(0,⟨false,89,serIc cl cw cv k ib 2 im x y z w 1 n,0⟩),(1,⟨false,55, .flts .f64 m1 g,0⟩),(2,⟨false,5, .ints .u8 m2 gB,0⟩)], .agg [.flt .f64 (g (2*i.toNat)), .flt .f64 (g (2*i.toNat+1))],[],[],some (m1=2*n/\m2=1*im/\0<=i/\i<n)⟩
  | none=>.fail)
  | none=>.fail)
  | none=>.fail)
 | _=>.fail
theorem vc_sPtI(cl cw cv:Bool)(k:Int)(ib:Bool)(_:Nm)(im:Nat)(x y z w:Nat)(_:Nm)(n:Nat)(i:Int)(g:Nat->Nat)(gB:Nat->Int){w9:HC}(e9:w9=⟨[.ptr 0 0, .int .i64 i],[(0,⟨false,89,serIc cl cw cv k ib 2 im x y z w 1 n,0⟩),(1,⟨false,55, .flts .f64 (2*n) g,0⟩),(2,⟨false,5, .ints .u8 (1*im) gB,0⟩)], .agg [.flt .f64 (g (2*i.toNat)), .flt .f64 (g (2*i.toNat +
 1))],[],[],some (2*n=2*n/\1*im=1*im/\0<=i/\i<n)⟩):runA G0 3 [] [] (codeOf Try.f107) (init Try.f107.ntmps w9.args w9.heap 3) (endK G0.E.T Try.f107.results.toList λS v=>postP 3 w9 S v)=(
 (((0:Int)<=i/\i<(↑n:Int))/\1<=2*n)/\0+Int.toNat i*2+2<=2*n/\(g (0+Int.toNat i*2)=g (2*Int.toNat i)/\g (0+Int.toNat i*2+1)=g (2*Int.toNat i+1)/\True)/\True):=by subst e9;kernel_rfl
theorem sPtI:ConOk Try.prog 107 (conR sPtIC):=by
 refine con_of_vc g0 Try.func107 rfl (by kernel_rfl) λargs=>?_
 unfold sPtIC;split
 ·rename_i s i;intro o0;try dsimp only;split
  ·rename_i cl cw cv k ib dd im x y z w p n hm0;intro o1;try dsimp only;split
   ·rename_i m1 g hm1;intro o2;try dsimp only;split
    ·rename_i m2 gB hm2;intro ho;replace ho:m1=2*n/\m2=1*im/\0<=i/\i<n:=ho;obtain⟨hsz1,hsz2,ho⟩:=ho;subst hsz1;subst hsz2;refine⟨?_,_,_,(vc_sPtI cl cw cv k ib dd im x y z w p n i g gB rfl).mpr ?_⟩
     ·refine okFlag_mk rfl ⟨?_,⟨trivial,serIo_spec hm0 sameN_self sameN_self,⟨trivial,(contR_flts hm1).1,⟨trivial,(contR_ints hm2).1,trivial⟩⟩⟩⟩;simp[eqvRL,eqvR,kEq_self,sgSig,fsts,nth,sameN_self]
     ·have e:0+i.toNat*2=2*i.toNat:=by omega
      rw[e];exact⟨by omega,by omega,by simp⟩
    ·trivial
   ·trivial
  ·trivial
 ·trivial
noncomputable def sValidIC:List SV->RdM
 | [.ptr s 0]=>.read s λo0=>(match serIo o0.c with
  | some (cl,cw,cv,k,ib,dd,im,x,y,z,w,p,n)=>.read p λo1=>(match fltsFrom .f64 o1.c with
  | some (m1,g)=>.read dd λo2=>(match intsFrom .u8 o2.c with
  | some (m2,gB)=>.ret ⟨[.ptr 0 0],[(0,⟨false,89,serIc cl cw cv k ib 2 im x y z w 1 n,0⟩),(1,⟨false,55, .flts .f64 m1 g,0⟩),(2,⟨false,5, .ints .u8 m2 gB,0⟩)], .bool (allValid n g),[],[],some (m1=2*n/\m2=1*im/\n<=1000000)⟩
  | none=>.fail)
  | none=>.fail)
  | none=>.fail)
 | _=>.fail
theorem vc_sValidI(cl cw cv:Bool)(k:Int)(ib:Bool)(_:Nm)(im:Nat)(x y z w:Nat)(_:Nm)(n:Nat)(g:Nat->Nat)(gB:Nat->Int){w9:HC}(e9:w9=⟨[.ptr 0 0],[(0,⟨false,89,serIc cl cw cv k ib 2 im x y z w 1 n,0⟩),(1,⟨false,55, .flts .f64 (2*n) g,0⟩),(2,⟨false,5, .ints .u8 (1*im) gB,0⟩)], .bool (allValid n g),[],[],some (2*n=2*n/\1*im=1*im/\n<=
 1000000)⟩){T1}(t1:T1=λ(i:Nat)=>(!pvalid (g (0+Int.toNat (↑i:Int)*2)) (g (0+Int.toNat (↑i:Int)*2+1)))){T2}(t2:T2=(↑n:Int)){T3}(t3:T3=λ(i:Nat)=>(2*n<=2*n/\∀ (i:Nat),i<2*n->g i=g i)):runA GPV 3 [(2,valLI n g im gB)] [] (codeOf Try.f111) (init Try.f111.ntmps w9.args w9.heap 3) (endK GPV.E.T Try.f111.results.toList λS v=>postP 3 w9 S v)=(
 (∃(i:Nat),(i<=n/\allValid i g=true)/\((True/\n=n)/\T2=T2/\0=(↑i:Int)/\True)/\True/\(T3 i)/\True)/\∀(i:Nat),i<=n/\allValid i g=true->(decide ((↑i:Int)<T2)=true->((0<=(↑i:Int)/\(↑i:Int)<T2)/\1<=2*n)
 /\0+Int.toNat (↑i:Int)*2+2<=2*n/\((T1 i)=true->allValid n g=false/\True)/\((T1 i)=false->∃(i':Nat),(i'<=n/\allValid i' g=true)/\n-i'<n-i/\((True/\n=n)/\T2=T2/\IntKind.wrap .i64 ((↑i:Int)+1)=(↑i' :
 Int)/\True)/\True/\(T3 i)/\True))/\(decide ((↑i:Int)<T2)=false->allValid n g=true/\True)):=by subst e9 t1 t2 t3;kernel_rfl
theorem sValidI:ConOk Try.prog 111 (conR sValidIC):=by
 refine con_of_vc gPV Try.func111 rfl (by kernel_rfl) λargs=>?_
 unfold sValidIC;split
 ·rename_i s;intro o0;try dsimp only;split
  ·rename_i cl cw cv k ib dd im x y z w p n hm0;intro o1;try dsimp only;split
   ·rename_i m1 g hm1;intro o2;try dsimp only;split
    ·rename_i m2 gB hm2;intro ho;replace ho:m1=2*n/\m2=1*im/\n<=1000000:=ho;obtain⟨hsz1,hsz2,ho⟩:=ho;subst hsz1;subst hsz2;refine⟨?_,_,_,(vc_sValidI cl cw cv k ib dd im x y z w p n g gB rfl rfl rfl rfl).mpr ?_⟩
     ·refine okFlag_mk rfl ⟨?_,⟨trivial,serIo_spec hm0 sameN_self sameN_self,⟨trivial,(contR_flts hm1).1,⟨trivial,(contR_ints hm2).1,trivial⟩⟩⟩⟩;simp[eqvRL,eqvR,sgSig,fsts,nth,sameN_self]
     ·refine⟨⟨0,by simp[allValid]⟩,λi hi=>⟨λh=>?_,λh=>?_⟩⟩
      ·have h:=of_decide_eq_true h;have e:0+(i:Int).toNat*2=2*i:=by omega
       have hw:IntKind.i64.wrap ((i:Int)+1)=((i+1:Nat):Int):=by rw[wrap64 (by omega) (by omega)];omega
       rw[e,hw];refine⟨by omega,by omega,λhp=>⟨decide_eq_false λha=>?_,trivial⟩,λhp=>⟨i+1,⟨by omega,decide_eq_true λj hj=>?_⟩,by omega,by simp⟩⟩
       ·rw[ha i (by omega)]at hp;cases hp
       ·have:j<i∨j=i:=by omega
        rcases this with hlt|rfl
        ·exact of_decide_eq_true hi.2 j hlt
        ·simpa using hp
      ·have h:=of_decide_eq_false h;have:i=n:=by omega
       subst this;simp[hi.2]
    ·trivial
   ·trivial
  ·trivial
 ·trivial
noncomputable def sNumWIC:List SV->RdM
 | [.ptr s 0]=>.read s λo0=>(match serIo o0.c with
  | some (cl,cw,cv,k,ib,dd,im,x,y,z,w,p,n)=>.read p λo1=>(match fltsFrom .f64 o1.c with
  | some (m1,g)=>.read dd λo2=>(match intsFrom .u8 o2.c with
  | some (m2,gB)=>.ret ⟨[.ptr 0 0],[(0,⟨false,89,serIc cl cw cv k ib 2 im x y z w 1 n,0⟩),(1,⟨false,55, .flts .f64 m1 g,0⟩),(2,⟨false,5, .ints .u8 m2 gB,0⟩)], .int .i64 (nsg cl n (wz g)),[],[],some (m1=2*n/\m2=1*im/\n<=1000000/\FL2 g (2*n))⟩
  | none=>.fail)
  | none=>.fail)
  | none=>.fail)
 | _=>.fail
theorem vc_sNumWI(cl cw cv:Bool)(k:Int)(ib:Bool)(_:Nm)(im:Nat)(x y z w:Nat)(_:Nm)(n:Nat)(g:Nat->Nat)(gB:Nat->Int){w9:HC}(e9:w9=⟨[.ptr 0 0],[(0,⟨false,89,serIc cl cw cv k ib 2 im x y z w 1 n,0⟩),(1,⟨false,55, .flts .f64 (2*n) g,0⟩),(2,⟨false,5, .ints .u8 (1*im) gB,0⟩)], .int .i64 (nsg cl n (wz g)),[],[],some (2*n=2*n/\1*im=1*im/\
 n<=1000000/\FL2 g (2*n))⟩){T1}(t1:T1=(fEq .f64 (g (0+Int.toNat (IntKind.wrap .i64 ((↑n:Int)-1))*2)) (g 0)&&(fEq .f64 (g (0+Int.toNat (IntKind.wrap .i64 ((↑n:Int)-1))*2+1)) (g 1)&&true))){T2}(t2:T2=(↑n:Int))
 {T3}(t3:T3=(↑(nsg cl n (wz g)):Int)):runA GPF 3 [] [] (codeOf Try.f42) (init Try.f42.ntmps w9.args w9.heap 3) (endK GPF.E.T Try.f42.results.toList λS v=>postP 3 w9 S v)=(
 (cl=true->(decide (T2<3)=true->0=T3/\True)/\(decide (T2<3)=false->(((0:Int)<=IntKind.wrap .i64 (T2-1)/\IntKind.wrap .i64 (T2-1)<T2)/\1<=2*n)/\0+Int.toNat (IntKind.wrap .i64 (T2-1))*2+2<=2*n/\(((0:Int)<=0
 /\0<T2)/\1<=2*n)/\2<=2*n/\true=true/\(T1=true->IntKind.wrap .i64 (T2-1)=T3/\True)/\(T1=false->T2=T3/\True)))/\(cl=false->(decide (T2<2)=true->0=T3/\True)/\(decide (T2<(2:Int))=false->IntKind.wrap .i64
 (T2-1)=T3/\True))):=by subst e9 t1 t2 t3;kernel_rfl
theorem sNumWI:ConOk Try.prog 42 (conR sNumWIC):=by
 refine con_of_vc gPF Try.func42 rfl (by kernel_rfl) λargs=>?_
 unfold sNumWIC;split
 ·rename_i s;intro o0;try dsimp only;split
  ·rename_i cl cw cv k ib dd im x y z w p n hm0;intro o1;try dsimp only;split
   ·rename_i m1 g hm1;intro o2;try dsimp only;split
    ·rename_i m2 gB hm2;intro ho;replace ho:m1=2*n/\m2=1*im/\n<=1000000/\FL2 g (2*n):=ho;obtain⟨hsz1,hsz2,ho⟩:=ho;subst hsz1;subst hsz2;refine⟨?_,_,_,(vc_sNumWI cl cw cv k ib dd im x y z w p n g gB rfl rfl rfl rfl).mpr ?_⟩
     ·refine okFlag_mk rfl ⟨?_,⟨trivial,serIo_spec hm0 sameN_self sameN_self,⟨trivial,(contR_flts hm1).1,⟨trivial,(contR_ints hm2).1,trivial⟩⟩⟩⟩;simp[eqvRL,eqvR,sgSig,fsts,nth,sameN_self]
     ·obtain⟨hn,hg⟩:=ho;have hw:IntKind.i64.wrap ((n:Int)-1)=n-1:=wrap64 (by omega) (by omega);rw[hw];refine⟨λhc=>⟨λh=>?_,λh=>?_⟩,λhc=>⟨λh=>?_,λh=>?_⟩⟩
      ·have h:=of_decide_eq_true h;refine⟨?_,trivial⟩;unfold nsg;rw[if_pos hc,if_pos (by omega)];rfl
      ·have h:=of_decide_eq_false h;have e:0+((n:Int)-1).toNat*2=2*(n-1):=by omega
       rw[e];have e1:fEq .f64 (g (2*(n-1))) (g 0)=decide (wz g (2*(n-1))=wz g 0):=feq_I (hg _ (by omega)).1 (hg _ (by omega)).1;have e2:fEq .f64 (g (2*(n-1)+1)) (g 1)=decide (wz g (2*(n-1)+1)=wz g 1):=feq_I (hg _ (by omega)).1 (hg _ (by omega)).1;rw[e1,e2];refine⟨by omega,by omega,by omega,by omega,rfl,λh1=>⟨?_,trivial⟩,λh1=>⟨?_,trivial⟩⟩
       ·unfold nsg;rw[if_pos hc,if_neg (by omega),if_pos (by simpa using h1)];omega
       ·unfold nsg;rw[if_pos hc,if_neg (by omega),if_neg (by simpa using h1)]
      ·have h:=of_decide_eq_true h;refine⟨?_,trivial⟩;unfold nsg;rw[if_neg (by simp[hc])];omega
      ·have h:=of_decide_eq_false h;refine⟨?_,trivial⟩;unfold nsg;rw[if_neg (by simp[hc])];omega
    ·trivial
   ·trivial
  ·trivial
 ·trivial
noncomputable def sSegIC:List SV->RdM
 | [.ptr s 0, .int .i64 i]=>.read s λo0=>(match serIo o0.c with
  | some (cl,cw,cv,k,ib,dd,im,x,y,z,w,p,n)=>.read p λo1=>(match fltsFrom .f64 o1.c with
  | some (m1,g)=>.read dd λo2=>(match intsFrom .u8 o2.c with
  | some (m2,gB)=>.ret ⟨[.ptr 0 0, .int .i64 i],[(0,⟨false,89,serIc cl cw cv k ib 2 im x y z w 1 n,0⟩),(1,⟨false,55, .flts .f64 m1 g,0⟩),(2,⟨false,5, .ints .u8 m2 gB,0⟩)], .agg [.flt .f64 (g (2*i.toNat)), .flt .f64 (g (2*i.toNat+1)), .flt .f64 (g (2*nx n i.toNat)), .flt .f64 (g (2*nx n i.toNat+1))],[],[],some (m1=2*n/\m2=1*im/\0<=i/\i<n/\n<=1000000)⟩
  | none=>.fail)
  | none=>.fail)
  | none=>.fail)
 | _=>.fail
theorem vc_sSegI(cl cw cv:Bool)(k:Int)(ib:Bool)(_:Nm)(im:Nat)(x y z w:Nat)(_:Nm)(n:Nat)(i:Int)(g:Nat->Nat)(gB:Nat->Int){w9:HC}(e9:w9=⟨[.ptr 0 0, .int .i64 i],[(0,⟨false,89,serIc cl cw cv k ib 2 im x y z w 1 n,0⟩),(1,⟨false,55, .flts .f64 (2*n) g,0⟩),(2,⟨false,5, .ints .u8 (1*im) gB,0⟩)], .agg [.flt .f64 (g (2*i.toNat)), .flt .f64 (g (2*i.toNat +
 1)), .flt .f64 (g (2*nx n i.toNat)), .flt .f64 (g (2*nx n i.toNat+1))],[],[],some (2*n=2*n/\1*im=1*im/\0<=i/\i<n/\n<=1000000)⟩){T1}(t1:T1=(IntKind.wrap .i64 (i+(1:Int)))){T2}(t2:T2=(i==IntKind.wrap .i64 ((↑n :
 Int)-1))):runA GPF 3 [] [] (codeOf Try.f43) (init Try.f43.ntmps w9.args w9.heap 3) (endK GPF.E.T Try.f43.results.toList λS v=>postP 3 w9 S v)=(
 (((0:Int)<=i/\i<(↑n:Int))/\1<=2*n)/\0+Int.toNat i*2+2<=2*n/\(T2=true->(((0:Int)<=0/\0<(↑n:Int))/\1<=2*n)/\2<=2*n/\(g (0+Int.toNat i*2)=g (2*Int.toNat i)/\g (0+Int.toNat i*2+1)=g (2 *
 Int.toNat i+1)/\g 0=g (2*nx n (Int.toNat i))/\g 1=g (2*nx n (Int.toNat i)+1)/\True)/\True)/\(T2=false->(((0:Int)<=IntKind.wrap .i64 (i+(1:Int))/\IntKind.wrap .i64 (i+(1:Int))<(↑n:Int))/\1<=2*n)/\0+Int.toNat
 T1*2+2<=2*n/\(g (0+Int.toNat i*2)=g (2*Int.toNat i)/\g (0+Int.toNat i*2+1)=g (2*Int.toNat i+1)/\g (0+Int.toNat T1*2)=g (2*nx n (Int.toNat i))/\g (0+Int.toNat T1*2+1)=g (2*nx n (Int.toNat i)+1)/\
 True)/\True)):=by subst e9 t1 t2;kernel_rfl
theorem sSegI:ConOk Try.prog 43 (conR sSegIC):=by
 refine con_of_vc gPF Try.func43 rfl (by kernel_rfl) λargs=>?_
 unfold sSegIC;split
 ·rename_i s i;intro o0;try dsimp only;split
  ·rename_i cl cw cv k ib dd im x y z w p n hm0;intro o1;try dsimp only;split
   ·rename_i m1 g hm1;intro o2;try dsimp only;split
    ·rename_i m2 gB hm2;intro ho;replace ho:m1=2*n/\m2=1*im/\0<=i/\i<n/\n<=1000000:=ho;obtain⟨hsz1,hsz2,ho⟩:=ho;subst hsz1;subst hsz2;refine⟨?_,_,_,(vc_sSegI cl cw cv k ib dd im x y z w p n i g gB rfl rfl rfl).mpr ?_⟩
     ·refine okFlag_mk rfl ⟨?_,⟨trivial,serIo_spec hm0 sameN_self sameN_self,⟨trivial,(contR_flts hm1).1,⟨trivial,(contR_ints hm2).1,trivial⟩⟩⟩⟩;simp[eqvRL,eqvR,kEq_self,sgSig,fsts,nth,sameN_self]
     ·obtain⟨h0,h1,hn⟩:=ho;have hw:IntKind.i64.wrap ((n:Int)-1)=n-1:=wrap64 (by omega) (by omega);have hw1:IntKind.i64.wrap (i+1)=i+1:=wrap64 (by omega) (by omega);have e:0+i.toNat*2=2*i.toNat:=by omega
      rw[hw,hw1,e];refine⟨by omega,by omega,λh=>?_,λh=>?_⟩
      ·have h:i=n-1:=by simpa using h
       have e2:nx n i.toNat=0:=by unfold nx;rw[if_pos (by omega)]
       rw[e2];refine⟨by omega,by omega,?_⟩;simp
      ·have h:¬i=n-1:=by simpa using h
       have e2:nx n i.toNat=i.toNat+1:=by unfold nx;rw[if_neg (by omega)]
       have e3:0+(i+1).toNat*2=2*(i.toNat+1):=by omega
       rw[e2,e3];refine⟨by omega,by omega,?_⟩;simp
    ·trivial
   ·trivial
  ·trivial
 ·trivial
noncomputable def optsC:List SV->RdM
 | [.int .i64 k, .int .i64 m]=>.ret ⟨[.int .i64 k, .int .i64 m],[], .ptr 0 0,[],[(0,⟨true,87, .cells [.int .u8 (IntKind.u8.wrap k), .int .i64 m],0⟩)],some (True)⟩
 | _=>.fail
theorem vc_opts(k m:Int){w9:HC}(e9:w9=⟨[.int .i64 k, .int .i64 m],[], .ptr 0 0,[],[(0,⟨true,87, .cells [.int .u8 (IntKind.u8.wrap k), .int .i64 m],0⟩)],some (True)⟩):runA G0 0 [] [] (codeOf Try.f28) (init Try.f28.ntmps w9.args w9.heap 0) (endK G0.E.T Try.f28.results.toList λS v=>postP 0 w9 S v)=(
 (True/\0=0)/\True/\(87=87/\0=0/\IntKind.wrap .u8 k=IntKind.wrap .u8 k/\m=m/\True)/\True):=by subst e9;kernel_rfl
theorem opts:ConOk Try.prog 28 (conR optsC):=by
 refine con_of_vc g0 Try.func28 rfl (by kernel_rfl) λargs=>?_
 unfold optsC;split
 ·rename_i k m;intro ho;replace ho:True:=ho;refine⟨?_,_,_,(vc_opts k m rfl).mpr ?_⟩
  ·refine okFlag_mk rfl ⟨?_,trivial⟩;simp[eqvRL,eqvR,kEq_self]
  ·simp
 ·trivial
def GPT:Ctx:=⟨⟨tys,[]⟩,[(24,pureCon ptF)]⟩
theorem gPT:CtxOk Try.prog GPT:=⟨⟨tysOk,FlatsOk.nil⟩,GamOk.cons (.pure pt) GamOk.nil,by kernel_rfl⟩
def fI(g:Nat->Int)(j:Nat):Nat:=ofI .f64 (g j)
def ptsL(len:Nat)(g:Nat->Int):Fam:=⟨Nat,λi =>
 ⟨19,[(3, .slcc 1 i),(6, .slcc 0 len),(7, .int .i64 len),(8, .int .i64 i)],[(0,⟨false,29, .ints .i64 (2*len) g,0⟩),(1,⟨true,55, .flts .f64 (2*i) (fI g),2⟩)],2⟩,λi=>i<=len,λi=>len-i⟩
theorem more_twoF{i:Nat}{g:Nat->Nat}{x y:Nat}(hx:x=g (2*i))(hy:y=g (2*i+1)):∀ j,j<2*(i+1)->more (2*i) g [x,y] 0 j=g j:=by
 intro j hj;subst hx hy;unfold more;split
 ·rfl
 ·have:j=2*i∨j=2*i+1:=by omega
  rcases this with rfl|rfl <;> simp
noncomputable def ptsC:List SV->RdM
 | [.slcc n len]=>.read n λo0=>(match intsFrom .i64 o0.c with
  | some (m0,g)=>.ret ⟨[.slcc 0 len],[(0,⟨false,29, .ints .i64 m0 g,0⟩)], .slcc 1 len,[],[(1,⟨true,55, .flts .f64 (2*len) (fI g),2⟩)],some (m0=2*len/\len<=1000000)⟩
  | none=>.fail)
 | _=>.fail
theorem vc_pts(len:Nat)(g:Nat->Int){w9:HC}(e9:w9=⟨[.slcc 0 len],[(0,⟨false,29, .ints .i64 (2*len) g,0⟩)], .slcc 1 len,[],[(1,⟨true,55, .flts .f64 (2*len) (fI g),2⟩)],some (2*len=2*len/\len<=1000000)⟩){T1}(t1:T1=(↑len:Int)){T2}(t2:T2=λ(i:Nat)=>(2*len<=2
 * len/\∀ (i:Nat),i<2*len->g i=g i)):runA GPT 1 [(3,ptsL len g)] [] (codeOf Try.f27) (init Try.f27.ntmps w9.args w9.heap 1) (endK GPT.E.T Try.f27.results.toList λS v=>postP 1 w9 S v)=(
 (∃(i:Nat),i<=len/\(i=0/\(True/\len=len)/\T1=T1/\0=(↑i:Int)/\True)/\True/\(T2 i)/\True/\2*i=0/\True)/\∀(i:Nat),i<=len->(decide ((↑i:Int)<T1)=true->((0<=(↑i:Int)/\(↑i:Int)<T1)/\1<=2*len)/\0 +
 Int.toNat (↑i:Int)*2+2<=2*len/\(2*i=i*2/\(i+1)*16<=140737488355328/\i+1<=9223372036854775807)/\∃(i':Nat),i'<=len/\len-i'<len-i/\((True/\i+1=i')/\(True/\len=len)/\T1=T1/\IntKind.wrap .i64 ((↑i :
 Int)+1)=(↑i':Int)/\True)/\True/\(T2 i)/\True/\(55=55/\2=2/\2*i'<=2*i+2/\∀(i_1:Nat),i_1<2*i'->more (2*i) (fI g) [ofI .f64 (g (0+Int.toNat (↑i:Int)*2)),ofI .f64 (g (0+Int.toNat (↑i:Int)*2+1))] 0 i_1 =
 fI g i_1)/\True)/\(decide ((↑i:Int)<T1)=false->(True/\i=len)/\True/\(55=55/\2=2/\2*len<=2*i/\∀(i:Nat),i<2*len->fI g i=fI g i)/\True)):=by subst e9 t1 t2;kernel_rfl
theorem pts:ConOk Try.prog 27 (conR ptsC):=by
 refine con_of_vc gPT Try.func27 rfl (by kernel_rfl) λargs=>?_
 unfold ptsC;split
 ·rename_i n len;intro o0;try dsimp only;split
  ·rename_i m0 g hm0;intro ho;replace ho:m0=2*len/\len<=1000000:=ho;obtain⟨hsz0,ho⟩:=ho;subst hsz0;refine⟨?_,_,_,(vc_pts len g rfl rfl rfl).mpr ?_⟩
   ·refine okFlag_mk rfl ⟨?_,⟨trivial,(contR_ints hm0).1,trivial⟩⟩;simp[eqvRL,eqvR,sgSig,fsts,nth,sameN_self]
   ·refine⟨⟨0,by omega,by simp⟩,λi hi=>?_⟩;have e:i*2=2*i:=by omega
    simp only[Int.toNat_natCast,Nat.zero_add,e,true_and,and_true,implies_true,Nat.le_refl];refine⟨λh=>?_,λh=>?_⟩
    ·have h:=of_decide_eq_true h;have hw:IntKind.i64.wrap ((i:Int)+1)=((i+1:Nat):Int):=by rw[wrap64 (by omega) (by omega)];omega
     refine⟨by omega,by omega,by omega,i+1,by omega,by omega,⟨rfl,hw⟩,?_,more_twoF rfl rfl⟩;show 2*(i+1)<=2*i+2;omega
    ·have h:=of_decide_eq_false h;omega
  ·trivial
 ·trivial
noncomputable def GLVI:Ctx:=⟨⟨tys,[]⟩,[(111,conR sValidIC)]⟩
theorem gLVI:CtxOk Try.prog GLVI:=⟨⟨tysOk,FlatsOk.nil⟩,GamOk.cons sValidI GamOk.nil,by kernel_rfl⟩
noncomputable def lValidIC:List SV->RdM
 | [.ptr s 0]=>.read s λo0=>(match serIo o0.c with
  | some (cl,cw,cv,k,ib,dd,im,x,y,z,w,p,n)=>.read p λo1=>(match fltsFrom .f64 o1.c with
  | some (m1,g)=>.read dd λo2=>(match intsFrom .u8 o2.c with
  | some (m2,gB)=>.ret ⟨[.ptr 0 0],[(0,⟨false,89,serIc cl cw cv k ib 2 im x y z w 1 n,0⟩),(1,⟨false,55, .flts .f64 m1 g,0⟩),(2,⟨false,5, .ints .u8 m2 gB,0⟩)], .bool (allValid n g),[],[],some (m1=2*n/\m2=1*im/\n<=1000000)⟩
  | none=>.fail)
  | none=>.fail)
  | none=>.fail)
 | _=>.fail
theorem vc_lValidI(cl cw cv:Bool)(k:Int)(ib:Bool)(_:Nm)(im:Nat)(x y z w:Nat)(_:Nm)(n:Nat)(g:Nat->Nat)(gB:Nat->Int){w9:HC}(e9:w9=⟨[.ptr 0 0],[(0,⟨false,89,serIc cl cw cv k ib 2 im x y z w 1 n,0⟩),(1,⟨false,55, .flts .f64 (2*n) g,0⟩),(2,⟨false,5, .ints .u8 (1*im) gB,0⟩)], .bool (allValid n g),[],[],some (2*n=2*n/\1*im=1*im/\n<=
 1000000)⟩):runA GLVI 3 [] [] (codeOf Try.f110) (init Try.f110.ntmps w9.args w9.heap 3) (endK GLVI.E.T Try.f110.results.toList λS v=>postP 3 w9 S v)=(
 (2*n=2*n/\1*im=1*im/\n<=1000000)/\allValid n g=allValid n g/\True):=by subst e9;kernel_rfl
theorem lValidI:ConOk Try.prog 110 (conR lValidIC):=by
 refine con_of_vc gLVI Try.func110 rfl (by kernel_rfl) λargs=>?_
 unfold lValidIC;split
 ·rename_i s;intro o0;try dsimp only;split
  ·rename_i cl cw cv k ib dd im x y z w p n hm0;intro o1;try dsimp only;split
   ·rename_i m1 g hm1;intro o2;try dsimp only;split
    ·rename_i m2 gB hm2;intro ho;replace ho:m1=2*n/\m2=1*im/\n<=1000000:=ho;obtain⟨hsz1,hsz2,ho⟩:=ho;subst hsz1;subst hsz2;refine⟨?_,_,_,(vc_lValidI cl cw cv k ib dd im x y z w p n g gB rfl).mpr ?_⟩
     ·refine okFlag_mk rfl ⟨?_,⟨trivial,serIo_spec hm0 sameN_self sameN_self,⟨trivial,(contR_flts hm1).1,⟨trivial,(contR_ints hm2).1,trivial⟩⟩⟩⟩;simp[eqvRL,eqvR,sgSig,fsts,nth,sameN_self]
     ·simp[ho]
    ·trivial
   ·trivial
  ·trivial
 ·trivial
noncomputable def GSe:Ctx:=⟨⟨tys,[]⟩,[(27,conR ptsC),(28,conR optsC)]⟩
theorem gSe:CtxOk Try.prog GSe:=⟨⟨tysOk,FlatsOk.nil⟩,GamOk.cons pts (GamOk.cons opts GamOk.nil),by kernel_rfl⟩
noncomputable def XSe:RCtx:=⟨GSe,[(26,rconR (Nat×(Nat->Int)) ⟨(0,λ_=>0)⟩ newPoly0UC),(29,rconR (Nat×(Nat->Int)) ⟨(0,λ_=>0)⟩ newLineUC)],[],[],[]⟩
theorem xSe:RCtxOk Try.prog XSe:=⟨gSe,RGamOk.cons newPoly0U (RGamOk.cons newLineU RGamOk.nil)⟩
noncomputable def seriesTC:List SV->RRd (Nat×(Nat->Int))
 | [.slcc n len, .tt, .int .i64 k, .int .i64 m]=>.read n λo0=>(match intsFrom .i64 o0.c with
  | some (m0,g)=>.ret ⟨[.slcc 0 len, .tt, .int .i64 k, .int .i64 m],[(0,⟨false,29, .ints .i64 m0 g,0⟩)],some (m0=2*len/\(mkUO len true m (IntKind.u8.wrap k) (fI g))),λr=>ixP (ixIf len m (IntKind.u8.wrap k)) (nsg true len (wz (fI g))) (IntKind.u8.wrap k) len (fI g) (ppQ len true (fI g)) r,λr=>⟨[],[], .ifc 98 (.ptr 1 0),[],[(1,⟨true,89, .cells (rectU len true (fI g) 2 (ixK len m (IntKind.u8.wrap k)) (ixIf len m (IntKind.u8.wrap k)) 3 r.1),0⟩),(2,⟨true,55, .flts .f64 (2*len) (fI g),2⟩),(3,⟨true,5, .ints .u8 r.1 r.2,1⟩)],none⟩⟩
  | none=>.fail)
 | _=>.fail
theorem vc_seriesT(len:Nat)(k m:Int)(g:Nat->Int){T1}(t1:T1=(IntKind.wrap .u8 k)){T2}(t2:T2=(ppBig len true)){T3}(t3:T3=(ppBig len true&&fGt .f64 (cwF (fI g) len len) 0)){T4}(t4:T4=(ppBig len true && !(dcF (fI g) len len).2)):runG XSe 1 [] [] (codeOf Try.f20) (init Try.f20.ntmps [.slcc 0 len, .tt, .int .i64 k, .int .i64 m] [(0,⟨false,29, .ints .i64 (2*len) g,0⟩)] 1) (endK XSe.G.E.T Try.f20.results.toList λS v=>∃ r:Nat×(Nat->Int),ixP (ixIf len m (IntKind.u8.wrap k)) (nsg true len (wz (fI g))) (IntKind.u8.wrap k) len (fI g) (ppQ len true (fI g)) r/\postP 1 ⟨[],[], .ifc 98 (.ptr 1 0),[],[(1,⟨true,89, .cells (rectU len true (fI g) 2 (ixK len m (IntKind.u8.wrap k)) (ixIf len m (IntKind.u8.wrap k)) 3 r.1),0⟩),(2,⟨true,55, .flts .f64 (2*len) (fI g),2⟩),(3,⟨true,5, .ints .u8 r.1 r.2,1⟩)],none⟩ S v)=(
 (2*len=2*len/\len<=1000000)/\True/\∀(i:Nat×(Nat->Int)),(2*len=2*len/\mkUO len true m T1 (fI g))/\(ixP (ixIf len m T1) (nsg true len (wz (fI g))) T1 len (fI g) (ppQ len true (fI g)) i->∃(pq:Nat×(Nat->Int)),ixP (ixIf
 len m T1) (nsg true len (wz (fI g))) T1 len (fI g) (ppQ len true (fI g)) pq/\(True/\0=0)/\True/\(89=89/\0=0/\true=true/\T3=T3/\T4=T4/\ixK len m T1=ixK len m T1/\(ixIf len m T1=ixIf len m T1/\True/\i.1=pq.1)/\pick T2
 (rlo (fI g) 0 len)=pick T2 (rlo (fI g) 0 len)/\pick T2 (rlo (fI g) 1 len)=pick T2 (rlo (fI g) 1 len)/\pick T2 (rhi (fI g) 0 len)=pick T2 (rhi (fI g) 0 len)/\pick T2 (rhi (fI g) 1 len)=pick T2 (rhi (fI g) 1 len)/\(True/\len=len)/\True)
 /\True/\(55=55/\2=2/\2*len<=2*len/\∀(i:Nat),i<2*len->fI g i=fI g i)/\True/\(5=5/\1=1/\pq.1<=i.1/\∀(i_1:Nat),i_1<pq.1->i.2 i_1=pq.2 i_1)/\True)):=by subst t1 t2 t3 t4;kernel_rfl
theorem seriesT:RConOk Try.prog 20 (rconR (Nat×(Nat->Int)) ⟨(0,λ_=>0)⟩ seriesTC):=by
 refine rcon_of_vc xSe Try.func20 rfl (by kernel_rfl) λargs=>?_
 unfold seriesTC;split
 ·rename_i n len k m;intro o0;try dsimp only;split
  ·rename_i m0 g hm0;intro ho;replace ho:m0=2*len/\(mkUO len true m (IntKind.u8.wrap k) (fI g)):=ho;obtain⟨hsz0,ho⟩:=ho;subst hsz0;refine⟨?_,_,_,(vc_seriesT len k m g rfl rfl rfl rfl).mpr ?_⟩
   ·refine okFlag_mk rfl ⟨λ_=>rfl,?_,⟨trivial,(contR_ints hm0).1,trivial⟩⟩;simp[eqvRL,eqvR,kEq_self,sgSig,fsts,nth,sameN_self]
   ·have hl:=ho.1;simp only[true_and,and_true,eq_self,implies_true];exact⟨hl,λr=>⟨ho,λhP=>⟨r,hP,rfl,Nat.le_refl _,Nat.le_refl _,λ_ _=>rfl⟩⟩⟩
  ·trivial
 ·trivial
noncomputable def seriesFC:List SV->RRd (Nat×(Nat->Int))
 | [.slcc n len, .ff, .int .i64 k, .int .i64 m]=>.read n λo0=>(match intsFrom .i64 o0.c with
  | some (m0,g)=>.ret ⟨[.slcc 0 len, .ff, .int .i64 k, .int .i64 m],[(0,⟨false,29, .ints .i64 m0 g,0⟩)],some (m0=2*len/\(mkUO len false m (IntKind.u8.wrap k) (fI g))),λr=>ixP (ixIf len m (IntKind.u8.wrap k)) (nsg false len (wz (fI g))) (IntKind.u8.wrap k) len (fI g) (ppQ len false (fI g)) r,λr=>⟨[],[], .ifc 79 (.ptr 1 0),[],[(1,⟨true,91, .cells (rectU len false (fI g) 2 (ixK len m (IntKind.u8.wrap k)) (ixIf len m (IntKind.u8.wrap k)) 3 r.1),0⟩),(2,⟨true,55, .flts .f64 (2*len) (fI g),2⟩),(3,⟨true,5, .ints .u8 r.1 r.2,1⟩)],none⟩⟩
  | none=>.fail)
 | _=>.fail
theorem vc_seriesF(len:Nat)(k m:Int)(g:Nat->Int){T1}(t1:T1=(IntKind.wrap .u8 k)){T2}(t2:T2=(ppBig len false)){T3}(t3:T3=(ppBig len false&&fGt .f64 (cwF (fI g) len len) 0)){T4}(t4:T4=(ppBig len false && !(dcF (fI g) len len).2)):runG XSe 1 [] [] (codeOf Try.f20) (init Try.f20.ntmps [.slcc 0 len, .ff, .int .i64 k, .int .i64 m] [(0,⟨false,29, .ints .i64 (2*len) g,0⟩)] 1) (endK XSe.G.E.T Try.f20.results.toList λS v=>∃ r:Nat×(Nat->Int),ixP (ixIf len m (IntKind.u8.wrap k)) (nsg false len (wz (fI g))) (IntKind.u8.wrap k) len (fI g) (ppQ len false (fI g)) r/\postP 1 ⟨[],[], .ifc 79 (.ptr 1 0),[],[(1,⟨true,91, .cells (rectU len false (fI g) 2 (ixK len m (IntKind.u8.wrap k)) (ixIf len m (IntKind.u8.wrap k)) 3 r.1),0⟩),(2,⟨true,55, .flts .f64 (2*len) (fI g),2⟩),(3,⟨true,5, .ints .u8 r.1 r.2,1⟩)],none⟩ S v)=(
 (2*len=2*len/\len<=1000000)/\True/\∀(i:Nat×(Nat->Int)),(2*len=2*len/\mkUO len false m T1 (fI g))/\(ixP (ixIf len m T1) (nsg false len (wz (fI g))) T1 len (fI g) (ppQ len false (fI g)) i->∃(pq:Nat×(Nat->Int)),ixP (ixIf
 len m T1) (nsg false len (wz (fI g))) T1 len (fI g) (ppQ len false (fI g)) pq/\(True/\0=0)/\True/\(91=91/\0=0/\false=false/\T3=T3/\T4=T4/\ixK len m T1=ixK len m T1/\(ixIf len m T1=ixIf len m T1/\True/\i.1=pq.1)/\pick T2
 (rlo (fI g) 0 len)=pick T2 (rlo (fI g) 0 len)/\pick T2 (rlo (fI g) 1 len)=pick T2 (rlo (fI g) 1 len)/\pick T2 (rhi (fI g) 0 len)=pick T2 (rhi (fI g) 0 len)/\pick T2 (rhi (fI g) 1 len)=pick T2 (rhi (fI g) 1 len)/\(True/\len=len)/\True)
 /\True/\(55=55/\2=2/\2*len<=2*len/\∀(i:Nat),i<2*len->fI g i=fI g i)/\True/\(5=5/\1=1/\pq.1<=i.1/\∀(i_1:Nat),i_1<pq.1->i.2 i_1=pq.2 i_1)/\True)):=by subst t1 t2 t3 t4;kernel_rfl
theorem seriesF:RConOk Try.prog 20 (rconR (Nat×(Nat->Int)) ⟨(0,λ_=>0)⟩ seriesFC):=by
 refine rcon_of_vc xSe Try.func20 rfl (by kernel_rfl) λargs=>?_
 unfold seriesFC;split
 ·rename_i n len k m;intro o0;try dsimp only;split
  ·rename_i m0 g hm0;intro ho;replace ho:m0=2*len/\(mkUO len false m (IntKind.u8.wrap k) (fI g)):=ho;obtain⟨hsz0,ho⟩:=ho;subst hsz0;refine⟨?_,_,_,(vc_seriesF len k m g rfl rfl rfl rfl).mpr ?_⟩
   ·refine okFlag_mk rfl ⟨λ_=>rfl,?_,⟨trivial,(contR_ints hm0).1,trivial⟩⟩;simp[eqvRL,eqvR,kEq_self,sgSig,fsts,nth,sameN_self]
   ·have hl:=ho.1;simp only[true_and,and_true,eq_self,implies_true];exact⟨hl,λr=>⟨ho,λhP=>⟨r,hP,rfl,Nat.le_refl _,Nat.le_refl _,λ_ _=>rfl⟩⟩⟩
  ·trivial
 ·trivial
def toL(len:Nat)(g:Nat->Int):Fam:=⟨Nat,λi =>
 ⟨18,[(3, .slcc 1 i),(6, .slcc 0 len),(7, .int .i64 len),(8, .int .i64 i)],[(0,⟨false,41, .ints .i64 (2*len) g,0⟩),(1,⟨true,29, .ints .i64 (2*i) g,2⟩)],2⟩,λi=>i<=len,λi=>len-i⟩
noncomputable def geoToC:List SV->RdM
 | [.slcc n len]=>.read n λo0=>(match intsFrom .i64 o0.c with
  | some (m0,g)=>.ret ⟨[.slcc 0 len],[(0,⟨false,41, .ints .i64 m0 g,0⟩)], .slcc 1 len,[],[(1,⟨true,29, .ints .i64 (2*len) g,2⟩)],some (m0=2*len/\len<=1000000)⟩
  | none=>.fail)
 | _=>.fail
theorem vc_geoTo(len:Nat)(g:Nat->Int){w9:HC}(e9:w9=⟨[.slcc 0 len],[(0,⟨false,41, .ints .i64 (2*len) g,0⟩)], .slcc 1 len,[],[(1,⟨true,29, .ints .i64 (2*len) g,2⟩)],some (2*len=2*len/\len<=1000000)⟩){T1}(t1:T1=(↑len:Int)){T2}(t2:T2=λ(i:Nat)=>(2*len<=2*len
 /\∀ (i:Nat),i<2*len->g i=g i)):runA G0 1 [(3,toL len g)] [] (codeOf Try.f8) (init Try.f8.ntmps w9.args w9.heap 1) (endK G0.E.T Try.f8.results.toList λS v=>postP 1 w9 S v)=(
 (∃(i:Nat),i<=len/\(i=0/\(True/\len=len)/\T1=T1/\0=(↑i:Int)/\True)/\True/\(T2 i)/\True/\2*i=0/\True)/\∀(i:Nat),i<=len->(decide ((↑i:Int)<T1)=true->((0<=(↑i:Int)/\(↑i:Int)<T1)/\1<=2*len)/\0 +
 Int.toNat (↑i:Int)*2+2<=2*len/\(2*i=i*2/\(i+1)*16<=140737488355328/\i+1<=9223372036854775807)/\∃(i':Nat),i'<=len/\len-i'<len-i/\((True/\i+1=i')/\(True/\len=len)/\T1=T1/\IntKind.wrap .i64 ((↑i :
 Int)+1)=(↑i':Int)/\True)/\True/\(T2 i)/\True/\(29=29/\2=2/\2*i'<=2*i+2/\∀(i_1:Nat),i_1<2*i'->more (2*i) g [g (0+Int.toNat (↑i:Int)*2),g (0+Int.toNat (↑i:Int)*2+1)] (0:Int) i_1=g i_1)/\True)/\
 (decide ((↑i:Int)<T1)=false->(True/\i=len)/\True/\(29=29/\2=2/\2*len<=2*i/\∀(i:Nat),i<2*len->g i=g i)/\True)):=by subst e9 t1 t2;kernel_rfl
theorem geoTo:ConOk Try.prog 8 (conR geoToC):=by
 refine con_of_vc g0 Try.func8 rfl (by kernel_rfl) λargs=>?_
 unfold geoToC
 split
 ·rename_i n len
  intro o0
  try dsimp only
  split
  ·rename_i m0 g hm0
   intro ho
   replace ho:m0=2*len/\len<=1000000:=ho
   obtain⟨hsz0,ho⟩:=ho
   subst hsz0
   refine⟨?_,_,_,(vc_geoTo len g rfl rfl rfl).mpr ?_⟩
   ·refine okFlag_mk rfl ⟨?_,⟨trivial,(contR_ints hm0).1,trivial⟩⟩
    simp[eqvRL,eqvR,sgSig,fsts,nth,sameN_self]
   ·refine⟨⟨0,by simp⟩,λi hi=>⟨λh=>?_,λh=>?_⟩⟩
    ·have h:=of_decide_eq_true h
     have e:0+(i:Int).toNat*2=2*i:=by omega
     refine⟨by omega,by omega,by omega,i+1,by omega,by omega,⟨⟨trivial,rfl⟩,⟨trivial,rfl⟩,rfl,?_,trivial⟩,trivial,⟨Nat.le_refl _,λ_ _=>rfl⟩,trivial,⟨rfl,rfl,?_,?_⟩,trivial⟩
     ·rw[wrap64 (by omega) (by omega)];omega
     ·show 2*(i+1)<=2*i+2
      omega
     ·exact more_two (by rw[e]) (by rw[e])
    ·have h:=of_decide_eq_false h
     have:i=len:=by omega
     subst this
     exact⟨⟨trivial,rfl⟩,trivial,⟨rfl,rfl,Nat.le_refl _,λ_ _=>rfl⟩,trivial⟩
  ·trivial
 ·trivial
def GIG:Ctx:=⟨⟨tys,[]⟩,[(18,conR isGeoC)]⟩
theorem gIG:CtxOk Try.prog GIG:=⟨⟨tysOk,FlatsOk.nil⟩,GamOk.cons isGeo GamOk.nil,by kernel_rfl⟩
noncomputable def isGeoLnC:List SV->RdM
 | [.slcc n len]=>.read n λo0=>(match intsFrom .i64 o0.c with
  | some (m0,g)=>.ret ⟨[.slcc 0 len],[(0,⟨false,41, .ints .i64 m0 g,0⟩)], .bool (decide (len<=40)&&geoAll (2*len) g),[],[],some (m0=2*len/\True)⟩
  | none=>.fail)
 | _=>.fail
theorem vc_isGeoLn(len:Nat)(g:Nat->Int){w9:HC}(e9:w9=⟨[.slcc 0 len],[(0,⟨false,41, .ints .i64 (2*len) g,0⟩)], .bool (decide (len<=40)&&geoAll (2*len) g),[],[],some (2*len=2*len/\True)⟩):runA GIG 1 [] [] (codeOf Try.f5) (init Try.f5.ntmps w9.args w9.heap 1) (endK GIG.E.T Try.f5.results.toList λS v=>postP 1 w9 S v)=(
 (decide ((↑len:Int)<=40)=true->(2*len=2*len/\len<=1000000)/\geoAll (2*len) g=(decide (len<=40)&&geoAll (2*len) g)/\True)/\(decide ((↑len:Int)<=40)=false->(decide (len<=40)&&geoAll (2*len) g)=false/\True)):=by subst e9;kernel_rfl
theorem isGeoLn:ConOk Try.prog 5 (conR isGeoLnC):=by
 refine con_of_vc gIG Try.func5 rfl (by kernel_rfl) λargs=>?_
 unfold isGeoLnC
 split
 ·rename_i n len
  intro o0
  try dsimp only
  split
  ·rename_i m0 g hm0
   intro ho
   replace ho:m0=2*len/\True:=ho
   obtain⟨hsz0,ho⟩:=ho
   subst hsz0
   refine⟨?_,_,_,(vc_isGeoLn len g rfl).mpr ?_⟩
   ·refine okFlag_mk rfl ⟨?_,⟨trivial,(contR_ints hm0).1,trivial⟩⟩
    simp[eqvRL,eqvR,sgSig,fsts,nth,sameN_self]
   ·simp
    exact⟨λh=>⟨by omega,λ_=>by omega⟩,λh h2=>by omega⟩
  ·trivial
 ·trivial
noncomputable def gEmptyC:List SV->RdM
 | [.slcc n len,v]=>.read n λo0=>(match intsFrom .i64 o0.c with
  | some (m0,g)=>(match v.toB with
  | some cl=>.ret ⟨[.slcc 0 len, .bool cl],[(0,⟨false,41, .ints .i64 m0 g,0⟩)], .bool (decide (len<2∨cl=true/\len<3)),[],[],some (True)⟩
  | none=>.fail)
  | none=>.fail)
 | _=>.fail
theorem vc_gEmpty(len:Nat)(cl:Bool)(m0:Nat)(g:Nat->Int){w9:HC}(e9:w9=⟨[.slcc 0 len, .bool cl],[(0,⟨false,41, .ints .i64 (m0) g,0⟩)], .bool (decide (len<2∨cl=true/\len<3)),[],[],some (True)⟩):runA G0 1 [] [] (codeOf Try.f12) (init Try.f12.ntmps w9.args w9.heap 1) (endK G0.E.T Try.f12.results.toList λS v=>postP 1 w9 S v)=(
 (decide ((↑len:Int)<2)=true->decide (len<2∨cl=true/\len<3)=true/\True)/\(decide ((↑len:Int)<2)=false->(cl=true->decide ((↑len:Int)<3)=decide (len<2∨cl=true/\len<3)/\True)/\(cl=false->decide (len<2∨
 cl=true/\len<3)=false/\True))):=by subst e9;kernel_rfl
theorem gEmpty:ConOk Try.prog 12 (conR gEmptyC):=by
 refine con_of_vc g0 Try.func12 rfl (by kernel_rfl) λargs=>?_
 unfold gEmptyC
 split
 ·rename_i n len v
  intro o0
  try dsimp only
  split
  ·rename_i m0 g hm0
   try dsimp only
   split
   ·rename_i cl hcl
    intro ho
    replace ho:True:=ho
    refine⟨?_,_,_,(vc_gEmpty len cl m0 g rfl).mpr ?_⟩
    ·refine okFlag_mk rfl ⟨?_,⟨trivial,(contR_ints hm0).1,trivial⟩⟩
     simp[eqvRL,eqvR,sgSig,fsts,nth,sameN_self,toB_eqvR hcl]
    ·simp
     refine⟨λh=>.inl (by omega),λh=>⟨λhc=>?_,λhc=>⟨by omega,λh=>by simp[hc]at h⟩⟩⟩
     subst hc
     rw[Bool.true_and]
     by_cases h3:len<3 <;> simp[h3] <;> omega
   ·trivial
  ·trivial
 ·trivial
theorem whl_fI{g:Nat->Int}{m:Nat}(h:∀ j,j<m->small (g j)):Whl (fI g) g m:=λj hj=>⟨fi (h j hj),by have:=h j hj;unfold small at this;omega⟩
theorem pp_two{len:Nat}{cl:Bool}(h:ppBig len cl=true):2<=len:=(of_decide_eq_true h).1
theorem lo_mn{z:Nat->Int}{k:Nat}:∀ {i:Nat},0<i->loZ z k i=mn z k i
 | 0,h=>by omega
 | 1,_=>by simp[loZ,mn,imin]
 | i+2,_=>by
  show (if i+1=0∨z (2*(i+1)+k)<loZ z k (i+1)then z (2*(i+1)+k)else loZ z k (i+1))=imin (mn z k (i+1)) (z (2*(i+1)+k));rw[lo_mn (i:=i+1) (by omega)];unfold imin;by_cases h:z (2*(i+1)+k)<mn z k (i+1)
  ·rw[if_pos (.inr h),if_pos h]
  ·rw[if_neg (by omega),if_neg h]
theorem lo_hi{z:Nat->Int}{k i:Nat}(h:0<i):loZ z k i<=hiZ z k i:=Int.le_trans (loZ_le (j:=0) h) (hiZ_ge h)
theorem hi_mx{z:Nat->Int}{k:Nat}:∀ {i:Nat},0<i->hiZ z k i=mx z k i
 | 0,h=>by omega
 | 1,_=>by simp[hiZ,mx,imax]
 | i+2,_=>by
  have hl:=lo_hi (z:=z) (k:=k) (i:=i+1) (by omega);show (if i+1=0 then z (2*(i+1)+k)else if z (2*(i+1)+k)<loZ z k (i+1)then hiZ z k (i+1)else if hiZ z k (i+1)<z (2*(i+1)+k)then z (2*(i+1)+k)else hiZ z k (i+1))=imax (mx z k (i+1)) (z (2*(i+1)+k));rw[<-hi_mx (i:=i+1) (by omega),if_neg (by omega)];unfold imax;by_cases h:hiZ z k (i+1)<z (2*(i+1)+k)
  ·rw[if_neg (by omega),if_pos h]
  ·rw[if_neg h];split <;> rfl
theorem allv_of{len:Nat}{g:Nat->Int}(hg:∀ j,j<2*len->small (g j)):allValid len (fI g)=geoValid len g:=by
 unfold allValid geoValid;refine decide_eq_decide.2 (forall_congr' λi=>?_);by_cases h:i<len
 ·have e:pvalid (fI g (2*i)) (fI g (2*i+1))=vld (g (2*i)) (g (2*i+1)):=pvalid_of (hg _ (by omega)) (hg _ (by omega));simp only[h,true_implies,e];unfold vld;exact decide_eq_true_iff
 ·simp[h]
def sdZ(z:Nat->Int)(len i:Nat):Int :=
 (z (2*nx len i)-z (2*i))*(z (2*nx2 len i+1)-z (2*i+1))-(z (2*nx len i+1)-z (2*i+1))*(z (2*nx2 len i)-z (2*i))
def lfZ(z:Nat->Int)(len:Nat):Nat->Bool
 | 0=>false
 | i+1=>lfZ z len i||decide (0<sdZ z len i)
def rtZ(z:Nat->Int)(len:Nat):Nat->Bool
 | 0=>false
 | i+1=>rtZ z len i||decide (sdZ z len i<0)
theorem sd_zc(z:Nat->Int)(len i:Nat):zcZ z len i=sdZ z len i:=by
 unfold zcZ sdZ;generalize z (2*nx len i)=bx;generalize z (2*i)=ax;generalize z (2*nx2 len i)=cx;generalize z (2*nx len i+1)=by';generalize z (2*i+1)=ay;generalize z (2*nx2 len i+1)=cy;rw[show cy-ay=(cy-by')+(by'-ay) by omega,show cx-ax=(cx-bx)+(bx-ax) by omega,Int.mul_add,Int.mul_add,Int.mul_comm (by'-ay) (bx-ax)];omega
theorem dc_lr(z:Nat->Int)(len:Nat):∀ i,(dcZ z len i).2=(lfZ z len i&&rtZ z len i)/\((dcZ z len i).2=false->(dcZ z len i).1=if lfZ z len i=true then 1 else if rtZ z len i=true then -1 else 0)
 | 0=>by simp[dcZ,lfZ,rtZ]
 | i+1=>by
  obtain⟨h1,h2⟩:=dc_lr z len i
  show (dStepZ (dcZ z len i).1 (dcZ z len i).2 (zcZ z len i)).2=((lfZ z len i||decide (0<sdZ z len i))&&(rtZ z len i||decide (sdZ z len i<0)))/\
   ((dStepZ (dcZ z len i).1 (dcZ z len i).2 (zcZ z len i)).2=false->(dStepZ (dcZ z len i).1 (dcZ z len i).2 (zcZ z len i)).1=if (lfZ z len i||decide (0<sdZ z len i))=true then 1 else if (rtZ z len i||decide (sdZ z len i<0))=true then -1 else 0)
  rw[sd_zc];generalize sdZ z len i=v at *;generalize (dcZ z len i).1=d at *;generalize (dcZ z len i).2=c at *;generalize lfZ z len i=l at *;generalize rtZ z len i=r at *;have hv:v<0/\¬0<v∨0<v/\¬v<0∨¬v<0/\¬0<v:=by omega
  rcases hv with⟨v1,v2⟩|⟨v1,v2⟩|⟨v1,v2⟩ <;> cases l <;> cases r <;> simp at h1 h2 <;> subst h1 <;> simp at h2 <;> (try subst h2) <;> simp[dStepZ,v1,v2]
theorem FI.V_le{x y:Nat}{a b:Int}(hx:FI x a)(hy:FI y b)(hab:a<=b):V x<=V y:=by
 rw[hx.2,hy.2];exact Int.mul_le_mul_of_nonneg_right hab (Int.le_of_lt (Int.pow_pos (by decide)))
theorem fmin_or(x y:Nat):fmin x y=x∨fmin x y=y:=by unfold fmin;split <;> simp
theorem fmax_or(x y:Nat):fmax x y=x∨fmax x y=y:=by unfold fmax;split <;> simp
def PS(g:Nat->Int)(len:Nat):Prop:=len<=40/\∀ j,j<2*len->small (g j)
section
variable {g:Nat->Int} {len:Nat} (h:PS g len)
include h
theorem PS.wz{j:Nat}(hj:j<2*len):wz (fI g) j=g j:=(w1_fI (h.2 j hj)).2
theorem PS.w1{j:Nat}(hj:j<2*len):W1 (fI g j):=(w1_fI (h.2 j hj)).1
theorem PS.fl2:FL2 (fI g) (2*len):=λ_ hj=>(h.w1 hj).w22
theorem PS.whl:Whl (fI g) g (2*len):=whl_fI h.2
theorem PS.nsg(cl:Bool):nsg cl len (Go.Proofs.Try.Sx.wz (fI g))=nsegs len cl g:=by
 unfold Go.Proofs.Try.Sx.nsg nsegs;cases cl
 ·simp only[Bool.false_eq_true,if_false,false_and,or_false];split <;> omega
 ·simp only[if_true,true_and];by_cases h3:len<3
  ·rw[if_pos h3,if_pos (by omega)]
  ·rw[if_neg h3,if_neg (show ¬(len<2∨len<3) by omega),h.wz (by omega),h.wz (by omega),h.wz (by omega),h.wz (by omega),show 2*(len-1)=2*len-2 by omega,show 2*len-2+1=2*len-1 by omega];by_cases e:g (2*len-2)=g 0/\g (2*len-1)=g 1
   ·rw[if_pos e,if_neg (λhh=>hh e)]
   ·rw[if_neg e,if_pos e]
theorem PS.ppOk{cl:Bool}(hb:ppBig len cl=true):ppOk (fI g) len:=ppOk_F (by have:=h.1;omega) h.whl (pp_two hb)
theorem PS.val:allValid len (fI g)=geoValid len g:=allv_of h.2
theorem PS.wI{j:Nat}(hj:j<2*len):toIok .f64 (fI g j) .i64/\toI .f64 (fI g j) .i64=g j:=toI_of (h.2 j hj)
theorem PS.lo{cl:Bool}(hb:ppBig len cl=true){k:Nat}(hk:k<2):FI (rlo (fI g) k len) (mn g k len)/\(mn g k len).natAbs<=4194304:=by
 have:=pp_two hb;rw[<-lo_mn (by omega)];exact lo_F h.whl hk len (Nat.le_refl _)
theorem PS.hi{cl:Bool}(hb:ppBig len cl=true){k:Nat}(hk:k<2):FI (rhi (fI g) k len) (mx g k len)/\(mx g k len).natAbs<=4194304:=by
 have:=pp_two hb;rw[<-hi_mx (by omega)];exact hi_F h.whl hk len (Nat.le_refl _)
theorem PS.rect(cl:Bool){k:Nat}(hk:k<2):(toIok .f64 (pick (ppBig len cl) (rlo (fI g) k len)) .i64/\toI .f64 (pick (ppBig len cl) (rlo (fI g) k len)) .i64=if ppBig len cl=true then mn g k len else 0)/\
  (toIok .f64 (pick (ppBig len cl) (rhi (fI g) k len)) .i64/\toI .f64 (pick (ppBig len cl) (rhi (fI g) k len)) .i64=if ppBig len cl=true then mx g k len else 0):=by
 unfold pick;by_cases hb:ppBig len cl=true
 ·rw[if_pos hb,if_pos hb,if_pos hb,if_pos hb];have h1:=h.lo hb hk;have h2:=h.hi hb hk;exact⟨toI_FI h1.1 (by omega),toI_FI h2.1 (by omega)⟩
 ·rw[if_neg hb,if_neg hb,if_neg hb,if_neg hb];exact⟨toI_FI zero_FI (by decide),toI_FI zero_FI (by decide)⟩
theorem PS.convex{cl:Bool}(hb:ppBig len cl=true):(!(dcF (fI g) len len).2)=(!lfZ g len len || !rtZ g len len):=by
 rw[dc_F h.whl (pp_two hb) len (Nat.le_refl _),(dc_lr g len len).1,Bool.not_and]
theorem PS.clock:fGt .f64 (cwF (fI g) len len) 0=decide (0<cwZ g len len):=cwgt_F (by have:=h.1;omega) h.whl
theorem PS.seg{cl:Bool}{i:Nat}(hi:i<nsegs len cl g):i<len/\segI g len (4*i)=g (2*i)/\segI g len (4*i+1)=g (2*i+1)/\segI g len (4*i+2)=g (2*nx len i)/\segI g len (4*i+3)=g (2*nx len i+1):=by
 have _:=h
 have hl:i<len:=by
  unfold nsegs at hi;split at hi
  ·omega
  ·split at hi <;> omega
 refine⟨hl,?_⟩;unfold nx;by_cases e:i+1=len
 ·rw[if_pos e];exact segI_hi (by omega)
 ·rw[if_neg e];exact segI_lo (by omega)
theorem PS.nsegs_pp{cl:Bool}(hn:0<nsegs len cl g):ppBig len cl=true:=by
 have _:=h;unfold nsegs at hn;split at hn
 ·omega
 ·rename_i hh;unfold ppBig;exact decide_eq_true ⟨by omega,λhc=>by rcases Nat.lt_or_ge len 3 with h3|h3;exact absurd (.inr ⟨hc,h3⟩) hh;exact h3⟩
theorem PS.item{cl:Bool}{i:Nat}(hi:i<nsegs len cl g):itOk (rcF (fI g) len) len (ppQ len cl (fI g)) i:=by
 have hb:ppBig len cl=true:=h.nsegs_pp (by omega);have hl:=(h.seg hi).1;have hn:=nx_lt hl
 have key:∀ j,j<2->(V (rlo (fI g) j len)<=V (fmin (fI g (2*i+j)) (fI g (2*nx len i+j)))/\V (fmax (fI g (2*i+j)) (fI g (2*nx len i+j)))<=V (rhi (fI g) j len)):=λj hj=>by
  have l1:=loZ_le (z:=g) (k:=j) hl;have l2:=loZ_le (z:=g) (k:=j) hn;have h1:=hiZ_ge (z:=g) (k:=j) hl;have h2:=hiZ_ge (z:=g) (k:=j) hn;have lf:=(lo_F h.whl hj len (Nat.le_refl _)).1;have hf:=(hi_F h.whl hj len (Nat.le_refl _)).1;have f1:=(h.whl (2*i+j) (by omega)).1;have f2:=(h.whl (2*nx len i+j) (by omega)).1;constructor
  ·rcases fmin_or (fI g (2*i+j)) (fI g (2*nx len i+j))with e|e <;> rw[e]
   ·exact FI.V_le lf f1 l1
   ·exact FI.V_le lf f2 l2
  ·rcases fmax_or (fI g (2*i+j)) (fI g (2*nx len i+j))with e|e <;> rw[e]
   ·exact FI.V_le f1 hf h1
   ·exact FI.V_le f2 hf h2
 have w:=rcF_w h.fl2 hl;refine⟨hl,⟨w.1.1.1,w.2.1.1.1,w.2.2.1.1.1,w.2.2.2.1.1⟩,?_⟩;unfold ppQ pick inQ rcF;simp only[hb,if_true];exact⟨(key 0 (by decide)).1,(key 1 (by decide)).1,(key 0 (by decide)).2,(key 1 (by decide)).2⟩
theorem PS.bix{cl:Bool}{k:Int}(hk:k=1∨k=2):bixO (Go.Proofs.Try.Sx.nsg cl len (Go.Proofs.Try.Sx.wz (fI g))) k len (fI g) (ppQ len cl (fI g)):=by
 refine⟨hk,by have:=h.1;omega,h.fl2,λ_=>⟨?_,λi hi=>h.item (cl:=cl) (by rw[<-h.nsg];exact hi)⟩⟩;unfold ppQ pick;by_cases hb:ppBig len cl=true
 ·simp only[hb,if_true];have l0:=h.lo hb (k:=0) (by decide);have l1:=h.lo hb (k:=1) (by decide);have h0:=h.hi hb (k:=0) (by decide);have h1:=h.hi hb (k:=1) (by decide);exact⟨FI.fub l0.1 l0.2,FI.fub l1.1 l1.2,FI.fub h0.1 h0.2,FI.fub h1.1 h1.2⟩
 ·simp only[if_neg hb];have z:=FI.fub zero_FI (by decide);exact⟨z,z,z,z⟩
theorem PS.mk{cl:Bool}{m k:Int}(hk:0<=k/\k<=2):mkUO len cl m k (fI g):=by
 refine⟨by have:=h.1;omega,h.ppOk,λhi=>h.bix ?_⟩;unfold ixIf at hi
 have:k≠0:=by
  intro e;rw[e]at hi;simp at hi
 omega
end
def sameSegQ(len:Nat)(g h:Nat->Int):Fam:=⟨Nat,λi =>
 ⟨27,[(0, .slcc 0 len),(1, .slcc 1 len),(12, .int .i64 len),(13, .int .i64 i)],[(0,⟨false,30, .ints .i64 (4*len) g,0⟩),(1,⟨false,42, .ints .i64 (4*len) h,0⟩)],2⟩,λi=>i<=len/\∀ j,j<4*i->g j=h j,λi=>len-i⟩
noncomputable def sameSegC:List SV->RdM
 | [.slcc n0 len, .slcc n1 len1]=>.read n0 λo0=>(match intsFrom .i64 o0.c with
  | some (m0,g)=>.read n1 λo1=>(match intsFrom .i64 o1.c with
  | some (m1,h)=>.ret ⟨[.slcc 0 len, .slcc 1 len],[(0,⟨false,30, .ints .i64 m0 g,0⟩),(1,⟨false,42, .ints .i64 m1 h,0⟩)], .bool (decide (agree (4*len) g h)),[],[],some (len=len1/\m0=4*len/\m1=4*len/\len<=1000000)⟩
  | none=>.fail)
  | none=>.fail)
 | _=>.fail
theorem vc_sameSeg(len:Nat)(g:Nat->Int)(h:Nat->Int){w9:HC}(e9:w9=⟨[.slcc 0 len, .slcc 1 len],[(0,⟨false,30, .ints .i64 (4*len) g,0⟩),(1,⟨false,42, .ints .i64 (4*len) h,0⟩)], .bool (decide (agree (4*len) g h)),[],[],some (len=len/\4*len=4*len/\4*len=4*len/\len<=
 1000000)⟩){T1}(t1:T1=λ(i:Nat)=>(!(g (0+Int.toNat (↑i:Int)*4)==h (0+Int.toNat (↑i:Int)*4)&&(g (0+Int.toNat (↑i:Int)*4+1)==h (0+Int.toNat (↑i:Int)*4+1)&&(g (0+Int.toNat (↑i:Int)*4+1+1)==h (0 +
 Int.toNat (↑i:Int)*4+1+1)&&(g (0+Int.toNat (↑i:Int)*4+1+1+1)==h (0+Int.toNat (↑i:Int)*4+1+1+1)&&true)))))){T2}(t2:T2=(↑len:Int)){T3}(t3:T3=(True/\len=len)){T4}(t4:T4=λ(i:Nat)=>(4*len<=4*len/\∀
 (i:Nat),i<4*len->g i=g i)){T5}(t5:T5=λ(i:Nat)=>(4*len<=4*len/\∀ (i:Nat),i<4*len->h i=h i)){T6}(t6:T6=λ(i:Nat)=>((0<=(↑i:Int)/\(↑i:Int)<T2)/\1<=4*len)):runA GS 2 [(4,sameSegQ len g h)] [] (codeOf Try.f11) (init Try.f11.ntmps w9.args w9.heap 2) (endK GS.E.T Try.f11.results.toList λS v=>postP 2 w9 S v)=(
 ((T2 != T2)=true->decide (agree (4*len) g h)=false/\True)/\((T2 != T2)=false->(∃(i:Nat),(i<=len/\∀(j:Nat),j<4*i->g j=h j)/\(T3/\T3/\T2=T2/\0=(↑i:Int)/\True)/\True/\(T4 i)/\True/\(T5 i)/\True)/\∀(i :
 Nat),(i<=len/\∀(j:Nat),j<4*i->g j=h j)->(decide ((↑i:Int)<T2)=true->(T6 i)/\0+Int.toNat (↑i:Int)*4+4<=4*len/\(T6 i)/\0+Int.toNat (↑i:Int)*4+4<=4*len/\true=true/\((T1 i)=true->decide (agree (4 *
 len) g h)=false/\True)/\((T1 i)=false->∃(i':Nat),(i'<=len/\∀(j:Nat),j<4*i'->g j=h j)/\len-i'<len-i/\(T3/\T3/\T2=T2/\IntKind.wrap .i64 ((↑i:Int)+1)=(↑i':Int)/\True)/\True/\(T4 i)/\True/\(T5 i)/\True))
 /\(decide ((↑i:Int)<T2)=false->decide (agree (4*len) g h)=true/\True))):=by subst e9 t1 t2 t3 t4 t5 t6;kernel_rfl
theorem sameSeg:ConOk Try.prog 11 (conR sameSegC):=by
 refine con_of_vc gS Try.func11 rfl (by kernel_rfl) λargs=>?_
 unfold sameSegC;split
 ·rename_i n0 len n1 len1;intro o0;try dsimp only;split
  ·rename_i m0 g hm0;intro o1;try dsimp only;split
   ·rename_i m1 h hm1;intro ho;replace ho:len=len1/\m0=4*len/\m1=4*len/\len<=1000000:=ho;obtain⟨heq0,hsz0,hsz1,ho⟩:=ho;subst heq0;subst hsz0;subst hsz1;refine⟨?_,_,_,(vc_sameSeg len g h rfl rfl rfl rfl rfl rfl rfl).mpr ?_⟩
    ·refine okFlag_mk rfl ⟨?_,⟨trivial,(contR_ints hm0).1,⟨trivial,(contR_ints hm1).1,trivial⟩⟩⟩;simp[eqvRL,eqvR,sgSig,fsts,nth,sameN_self]
    ·refine⟨λh=>absurd h (by simp),λ_=>⟨⟨0,by simp⟩,λi hi=>⟨λh=>?_,λh=>?_⟩⟩⟩
     ·have h:=of_decide_eq_true h;have e:0+(i:Int).toNat*4=4*i:=by omega
      have hw:IntKind.i64.wrap ((i:Int)+1)=((i+1:Nat):Int):=by rw[wrap64 (by omega) (by omega)];omega
      rw[e];refine⟨by omega,by omega,by omega,by omega,rfl,λhne=>⟨decide_eq_false λha=>?_,trivial⟩,λheq=>⟨i+1,⟨by omega,λj hj=>?_⟩,by omega,by simp[hw]⟩⟩
      ·have h1:=ha (4*i) (by omega);have h2:=ha (4*i+1) (by omega);have h3:=ha (4*i+1+1) (by omega);have h4:=ha (4*i+1+1+1) (by omega);simp[h1,h2,h3,h4]at hne
      ·simp at heq;have:j<4*i∨j=4*i∨j=4*i+1∨j=4*i+1+1∨j=4*i+1+1+1:=by omega
       rcases this with hlt|rfl|rfl|rfl|rfl
       ·exact hi.2 j hlt
       ·exact heq.1
       ·exact heq.2.1
       ·exact heq.2.2.1
       ·exact heq.2.2.2
     ·have h:=of_decide_eq_false h;have:i=len:=by omega
      subst this;exact⟨decide_eq_true hi.2,trivial⟩
   ·trivial
  ·trivial
 ·trivial
def GSd:Ctx:=⟨⟨tys,[]⟩,[(23,pureCon sideF)]⟩
theorem gSd:CtxOk Try.prog GSd:=⟨⟨tysOk,FlatsOk.nil⟩,GamOk.cons (.pure side) GamOk.nil,by kernel_rfl⟩
def cvxL(len:Nat)(g:Nat->Int):Fam:=⟨Nat,λi =>
 ⟨50,[(0, .slcc 0 len),(3, .bool (lfZ g len i)),(4, .bool (rtZ g len i)),(8, .int .i64 len),(9, .int .i64 i)],[(0,⟨false,41, .ints .i64 (2*len) g,0⟩)],1⟩,λi=>i<=len,λi=>len-i⟩
noncomputable def geoCvxC:List SV->RdM
 | [.slcc n len]=>.read n λo0=>(match intsFrom .i64 o0.c with
  | some (m0,g)=>.ret ⟨[.slcc 0 len],[(0,⟨false,41, .ints .i64 m0 g,0⟩)], .bool (!lfZ g len len || !rtZ g len len),[],[],some (m0=2*len/\2<=len/\PS g len)⟩
  | none=>.fail)
 | _=>.fail
theorem vc_geoCvx(len:Nat)(g:Nat->Int){w9:HC}(e9:w9=⟨[.slcc 0 len],[(0,⟨false,41, .ints .i64 (2*len) g,0⟩)], .bool (!lfZ g len len || !rtZ g len len),[],[],some (2*len=2*len/\2<=len/\PS g len)⟩){T1}(t1:T1=λ(i:Nat)=>(Int.tmod (IntKind.wrap .i64 ((↑i:Int)+1))
 (↑len:Int))){T2}(t2:T2=λ(i:Nat)=>(Int.tmod (IntKind.wrap .i64 ((↑i:Int)+2)) (↑len:Int))){T3}(t3:T3=(↑len:Int)){T4}(t4:T4=λ(i:Nat)=>(2*len<=2*len/\∀ (i:Nat),i<2*len->g i=g i)){T5}(t5:T5=λ(i:Nat)=>(↑i:Int))
 {T6}(t6:T6=λ(i:Nat)=>(g (0+Int.toNat (T5 i)*2+1))) {T7}(t7:T7=λ(i:Nat)=>(g (0+Int.toNat (T1 i)*2+1))) {T8}(t8:T8=λ(i:Nat)=>(g (0+Int.toNat (T2 i)*2+1))) {T9}(t9:T9=λ(i:Nat)=>(g (0+Int.toNat (T5 i)*2)))
 {T10}(t10:T10=λ(i:Nat)=>(g (0+Int.toNat (T1 i)*2))) {T11}(t11:T11=λ(i:Nat)=>(g (0+Int.toNat (T2 i)*2))) {T12}(t12:T12=(True/\len=len)):runA GSd 1 [(3,cvxL len g)] [] (codeOf Try.f16) (init Try.f16.ntmps w9.args w9.heap 1) (endK GSd.E.T Try.f16.results.toList λS v=>postP 1 w9 S v)=(
 (∃(i:Nat),i<=len/\(T12/\lfZ g len i=false/\rtZ g len i=false/\T3=T3/\0=(T5 i)/\True)/\True/\(T4 i)/\True)/\∀(i:Nat),i<=len->(decide ((T5 i)<T3)=true->((0<=(T5 i)/\(T5 i)<T3)/\1<=2*len)/\0+Int.toNat (T5 i)
 * 2+2<=2*len/\T3≠0/\(((0:Int)<=Int.tmod (IntKind.wrap .i64 ((T5 i)+1)) T3/\Int.tmod (IntKind.wrap .i64 ((T5 i)+1)) T3<T3)/\1<=2*len)/\0+Int.toNat (T1 i)*2+2<=2*len/\T3≠0/\(((0:Int)<=Int.tmod (IntKind.wrap .i64
 ((T5 i)+2)) T3/\Int.tmod (IntKind.wrap .i64 ((T5 i)+2)) T3<T3)/\1<=2*len)/\0+Int.toNat (T2 i)*2+2<=2*len/\small6 (T9 i) (T6 i) (T10 i) (T7 i) (T11 i) (T8 i)/\true=true/\(lfZ g len i=true->(rtZ g len i=true->∃(i' :
 Nat),i'<=len/\len-i'<len-i/\(T12/\lfZ g len i'=true/\rtZ g len i'=true/\T3=T3/\IntKind.wrap .i64 ((T5 i)+1)=(↑i':Int)/\True)/\True/\(T4 i)/\True)/\(rtZ g len i=false->∃(i':Nat),i'<=len/\len-i'<len-i/\
 (T12/\lfZ g len i'=true/\decide (Go.Geo.cross (T9 i) (T6 i) (T10 i) (T7 i) (T11 i) (T8 i)<(0:Int))=rtZ g len i'/\T3=T3/\IntKind.wrap .i64 ((T5 i)+1)=(↑i':Int)/\True)/\True/\(T4 i)/\True))/\(lfZ g len i=false->(rtZ g len i
 = true->∃(i':Nat),i'<=len/\len-i'<len-i/\(T12/\decide ((0:Int)<Go.Geo.cross (T9 i) (T6 i) (T10 i) (T7 i) (T11 i) (T8 i))=lfZ g len i'/\rtZ g len i'=true/\T3=T3/\IntKind.wrap .i64 ((T5 i)+(1:Int))=(↑i':Int)/\True)
 /\True/\(T4 i)/\True)/\(rtZ g len i=false->∃(i':Nat),i'<=len/\len-i'<len-i/\(T12/\decide ((0:Int)<Go.Geo.cross (T9 i) (T6 i) (T10 i) (T7 i) (T11 i) (T8 i))=lfZ g len i'/\decide (Go.Geo.cross (T9 i) (T6 i) (T10 i) (T7 i)
 (T11 i) (T8 i)<(0:Int))=rtZ g len i'/\T3=T3/\IntKind.wrap .i64 ((T5 i)+1)=(↑i':Int)/\True)/\True/\(T4 i)/\True)))/\(decide ((T5 i)<T3)=false->((!lfZ g len i)=true->(!lfZ g len len || !rtZ g len len)=true/\True)/\
 ((!lfZ g len i)=false->(!rtZ g len i)=(!lfZ g len len || !rtZ g len len)/\True))):=by subst e9 t1 t2 t3 t4 t5 t6 t7 t8 t9 t10 t11 t12;kernel_rfl
theorem geoCvx:ConOk Try.prog 16 (conR geoCvxC):=by
 refine con_of_vc gSd Try.func16 rfl (by kernel_rfl) λargs=>?_
 unfold geoCvxC;split
 ·rename_i n len;intro o0;try dsimp only;split
  ·rename_i m0 g hm0;intro ho;replace ho:m0=2*len/\2<=len/\PS g len:=ho;obtain⟨hsz0,ho⟩:=ho;subst hsz0;refine⟨?_,_,_,(vc_geoCvx len g rfl rfl rfl rfl rfl rfl rfl rfl rfl rfl rfl rfl rfl).mpr ?_⟩
   ·refine okFlag_mk rfl ⟨?_,⟨trivial,(contR_ints hm0).1,trivial⟩⟩;simp[eqvRL,eqvR,sgSig,fsts,nth,sameN_self]
   ·obtain⟨h2,hs⟩:=ho;have hl:=hs.1
    have hm1:∀ i:Nat,i<len->Int.tmod (IntKind.i64.wrap ((i:Int)+1)) (len:Int)=((nx len i:Nat):Int):=λi hi=>by
     rw[wrap64 (by omega) (by omega)];unfold nx;split
     ·rename_i e;rw[show ((i:Int)+1)=(len:Int) by omega,Int.tmod_self];rfl
     ·rw[Int.tmod_eq_of_lt (by omega) (by omega)];omega
    have hm2:∀ i:Nat,i<len->Int.tmod (IntKind.i64.wrap ((i:Int)+2)) (len:Int)=((nx2 len i:Nat):Int):=λi hi=>by
     rw[wrap64 (by omega) (by omega)];unfold nx2;split
     ·rename_i e;rw[show ((i:Int)+2)=1+(len:Int) by omega,Int.tmod_eq_emod_of_nonneg (by omega),Int.add_emod_right,Int.emod_eq_of_lt (by omega) (by omega)];rfl
     ·split
      ·rename_i e;rw[show ((i:Int)+2)=(len:Int) by omega,Int.tmod_self];rfl
      ·rw[Int.tmod_eq_of_lt (by omega) (by omega)];omega
    have hp:∀ j:Nat,g (0+j*2)=g (2*j)/\g (0+j*2+1)=g (2*j+1):=λj=>⟨by congr 1;omega,by congr 1;omega⟩
    refine⟨⟨0,by omega,by simp[lfZ,rtZ]⟩,λi hi=>⟨λhd=>?_,λhd=>?_⟩⟩
    ·have hd:=of_decide_eq_true hd;have hil:i<len:=by omega
     have n1:=nx_lt hil;have n2:=nx2_lt hil h2;have hw:IntKind.i64.wrap ((i:Int)+1)=((i+1:Nat):Int):=by rw[wrap64 (by omega) (by omega)];omega
     have hsm:=hs.2;simp only[hm1 i hil,hm2 i hil,Int.toNat_natCast,(hp _).1,(hp _).2,true_and,and_true];simp only[hw];have hc:cross (g (2*i)) (g (2*i+1)) (g (2*nx len i)) (g (2*nx len i+1)) (g (2*nx2 len i)) (g (2*nx2 len i+1))=sdZ g len i:=rfl;simp only[hc];have hL:lfZ g len (i+1)=(lfZ g len i||decide (0<sdZ g len i)):=rfl;have hR:rtZ g len (i+1)=(rtZ g len i||decide (sdZ g len i<0)):=rfl
     refine⟨⟨by omega,by omega⟩,by omega,by omega,⟨by omega,by omega⟩,by omega,by omega,⟨by omega,by omega⟩,by omega,⟨⟨hsm _ (by omega),hsm _ (by omega)⟩,⟨hsm _ (by omega),hsm _ (by omega)⟩,hsm _ (by omega),hsm _ (by omega)⟩,λa=>⟨λb=>⟨i+1,?_⟩,λb=>⟨i+1,?_⟩⟩,λa=>⟨λb=>⟨i+1,?_⟩,λb=>⟨i+1,?_⟩⟩⟩
     all_goals
      refine⟨by omega,by omega,?_⟩;simp[hL,hR,a,b]
    ·have hd:=of_decide_eq_false hd;obtain rfl:i=len:=by omega
     cases lfZ g i i <;> simp
  ·trivial
 ·trivial
def clkL(len:Nat)(g:Nat->Int):Fam:=⟨Nat,λi =>
 ⟨38,[(0, .slcc 0 len),(3, .int .i64 (cwZ g len i)),(7, .slcc 0 len),(8, .int .i64 len),(9, .int .i64 i)],[(0,⟨false,41, .ints .i64 (2*len) g,0⟩)],1⟩,λi=>i<=len,λi=>len-i⟩
noncomputable def geoClkC:List SV->RdM
 | [.slcc n len]=>.read n λo0=>(match intsFrom .i64 o0.c with
  | some (m0,g)=>.ret ⟨[.slcc 0 len],[(0,⟨false,41, .ints .i64 m0 g,0⟩)], .bool (decide (0<cwZ g len len)),[],[],some (m0=2*len/\2<=len/\PS g len)⟩
  | none=>.fail)
 | _=>.fail
theorem vc_geoClk(len:Nat)(g:Nat->Int){w9:HC}(e9:w9=⟨[.slcc 0 len],[(0,⟨false,41, .ints .i64 (2*len) g,0⟩)], .bool (decide (0<cwZ g len len)),[],[],some (2*len=2*len/\2<=len/\PS g len)⟩){T1}(t1:T1=(↑len:Int)){T2}(t2:T2=λ(i:Nat)=>(IntKind.wrap .i64 ((↑i:Int) +
 1))){T3}(t3:T3=(True/\len=len)){T4}(t4:T4=λ(i:Nat)=>(2*len<=2*len/\∀ (i:Nat),i<2*len->g i=g i)):runA G0 1 [(3,clkL len g)] [] (codeOf Try.f17) (init Try.f17.ntmps w9.args w9.heap 1) (endK G0.E.T Try.f17.results.toList λS v=>postP 1 w9 S v)=(
 (∃(i:Nat),i<=len/\(T3/\(0:Int)=cwZ g len i/\T3/\T1=T1/\0=(↑i:Int)/\True)/\True/\(T4 i)/\True)/\∀(i:Nat),i<=len->(decide ((↑i:Int)<T1)=true->((0<=(↑i:Int)/\(↑i:Int)<T1)/\1<=2*len)/\0+Int.toNat (↑i :
 Int)*2+2<=2*len/\T1≠0/\(((0:Int)<=Int.tmod (T2 i) T1/\Int.tmod (T2 i) T1<T1)/\1<=2*len)/\0+Int.toNat (Int.tmod (T2 i) T1)*2+2<=2*len/\∃(i':Nat),i'<=len/\len-i'<len-i/\(T3/\IntKind.wrap .i64 (cwZ g len i +
 IntKind.wrap .i64 (IntKind.wrap .i64 (g (0+Int.toNat (Int.tmod (T2 i) T1)*2)-g (0+Int.toNat (↑i:Int)*2))*IntKind.wrap .i64 (g (0+Int.toNat (Int.tmod (T2 i) T1)*2+1)+g (0+Int.toNat (↑i:Int)*2+1))))=cwZ g len i'/\T3/\
 T1=T1/\IntKind.wrap .i64 ((↑i:Int)+1)=(↑i':Int)/\True)/\True/\(T4 i)/\True)/\(decide ((↑i:Int)<T1)=false->decide ((0:Int)<cwZ g len i)=decide ((0:Int)<cwZ g len len)/\True)):=by subst e9 t1 t2 t3 t4;kernel_rfl
theorem geoClk:ConOk Try.prog 17 (conR geoClkC):=by
 refine con_of_vc g0 Try.func17 rfl (by kernel_rfl) λargs=>?_
 unfold geoClkC;split
 ·rename_i n len;intro o0;try dsimp only;split
  ·rename_i m0 g hm0;intro ho;replace ho:m0=2*len/\2<=len/\PS g len:=ho;obtain⟨hsz0,ho⟩:=ho;subst hsz0;refine⟨?_,_,_,(vc_geoClk len g rfl rfl rfl rfl rfl).mpr ?_⟩
   ·refine okFlag_mk rfl ⟨?_,⟨trivial,(contR_ints hm0).1,trivial⟩⟩;simp[eqvRL,eqvR,sgSig,fsts,nth,sameN_self]
   ·obtain⟨h2,hs⟩:=ho;have hl:=hs.1
    have hm1:∀ i:Nat,i<len->Int.tmod (IntKind.i64.wrap ((i:Int)+1)) (len:Int)=((nx len i:Nat):Int):=λi hi=>by
     rw[wrap64 (by omega) (by omega)];unfold nx;split
     ·rename_i e;rw[show ((i:Int)+1)=(len:Int) by omega,Int.tmod_self];rfl
     ·rw[Int.tmod_eq_of_lt (by omega) (by omega)];omega
    have hp:∀ j:Nat,g (0+j*2)=g (2*j)/\g (0+j*2+1)=g (2*j+1):=λj=>⟨by congr 1;omega,by congr 1;omega⟩
    refine⟨⟨0,by omega,by simp[cwZ]⟩,λi hi=>⟨λhd=>?_,λhd=>?_⟩⟩
    ·have hd:=of_decide_eq_true hd;have hil:i<len:=by omega
     have n1:=nx_lt hil;have hw:IntKind.i64.wrap ((i:Int)+1)=((i+1:Nat):Int):=by rw[wrap64 (by omega) (by omega)];omega
     have hsm:=hs.2;simp only[hm1 i hil,Int.toNat_natCast,(hp _).1,(hp _).2,true_and,and_true];simp only[hw];have a1:=hsm (2*i) (by omega);have a2:=hsm (2*i+1) (by omega);have a3:=hsm (2*nx len i) (by omega);have a4:=hsm (2*nx len i+1) (by omega);have hC:cwZ g len (i+1)=cwZ g len i+(g (2*nx len i)-g (2*i))*(g (2*nx len i+1)+g (2*i+1)):=rfl;have hb:=(cw_F (by omega) hs.whl (i+1) (by omega)).2.1;have hb0:=(cw_F (by omega) hs.whl i hi).2.1;unfold small at a1 a2 a3 a4;rw[hC]at hb
     have hmul:((g (2*nx len i)-g (2*i))*(g (2*nx len i+1)+g (2*i+1))).natAbs<=2097152*2097152:=natAbs_mul_le (by omega) (by omega);refine⟨⟨by omega,by omega⟩,by omega,by omega,⟨by omega,by omega⟩,by omega,i+1,by omega,by omega,⟨?_,rfl⟩,?_⟩
     ·rw[hC,wrap64 (n:=g (2*nx len i)-g (2*i)) (by omega) (by omega),wrap64 (n:=g (2*nx len i+1)+g (2*i+1)) (by omega) (by omega)];generalize (g (2*nx len i)-g (2*i))*(g (2*nx len i+1)+g (2*i+1))=p at *;rw[wrap64 (n:=p) (by omega) (by omega),wrap64 (by omega) (by omega)]
     ·simp
    ·have hd:=of_decide_eq_false hd;obtain rfl:i=len:=by omega
     simp
  ·trivial
 ·trivial
noncomputable def GSo:Ctx:=⟨⟨tys,[]⟩,[(106,conR sNumPIC),(42,conR sNumWIC),(108,conR sRectSIC),(21,pureCon cornersPF),(104,conR sEmptyIC),(111,conR sValidIC),(110,conR lValidIC),(103,conR sConvIC),(102,conR sClockIC),(105,conR sIdxIC),(107,conR sPtIC),(43,conR sSegIC),(22,pureCon fromPF)]⟩
theorem gSo:CtxOk Try.prog GSo:=⟨⟨tysOk,FlatsOk.nil⟩,GamOk.cons sNumPI (GamOk.cons sNumWI (GamOk.cons sRectSI (GamOk.cons (.pure cornersP) (GamOk.cons sEmptyI (GamOk.cons sValidI (GamOk.cons lValidI (GamOk.cons sConvI (GamOk.cons sClockI (GamOk.cons sIdxI (GamOk.cons sPtI (GamOk.cons sSegI (GamOk.cons (.pure fromP) GamOk.nil)))))))))))),by kernel_rfl⟩
noncomputable def soC(len:Nat)(cl:Bool)(k m:Int)(g:Nat->Int)(p s:SV):List SV:=[.int .i64 len, .int .i64 (nsg cl len (wz (fI g))),p,s, .int .i64 (toI .f64 (pick (ppBig len cl) (rlo (fI g) 0 len)) .i64), .int .i64 (toI .f64 (pick (ppBig len cl) (rlo (fI g) 1 len)) .i64), .int .i64 (toI .f64 (pick (ppBig len cl) (rhi (fI g) 0 len)) .i64), .int .i64 (toI .f64 (pick (ppBig len cl) (rhi (fI g) 1 len)) .i64), .bool (decide (len<2∨cl=true/\len<3)), .bool (allValid len (fI g)), .bool (ppBig len cl && !(dcF (fI g) len len).2), .bool (ppBig len cl&&fGt .f64 (cwF (fI g) len len) 0), .bool (ixIf len m (IntKind.u8.wrap k))]
def soV(len:Nat)(cl:Bool)(k m:Int)(g:Nat->Int)(p s:SV):List SV:=[.int .i64 len, .int .i64 (nsegs len cl g:Nat),p,s, .int .i64 (if ppBig len cl=true then mn g 0 len else 0), .int .i64 (if ppBig len cl=true then mn g 1 len else 0), .int .i64 (if ppBig len cl=true then mx g 0 len else 0), .int .i64 (if ppBig len cl=true then mx g 1 len else 0), .bool (decide (len<2∨cl=true/\len<3)), .bool (geoValid len g), .bool (ppBig len cl&&(!lfZ g len len || !rtZ g len len)), .bool (ppBig len cl&&decide (0<cwZ g len len)), .bool (ixIf len m (IntKind.u8.wrap k))]
def so0:List SV:=[.int .i64 0, .int .i64 0, .nils, .nils, .int .i64 0, .int .i64 0, .int .i64 0, .int .i64 0, .bool false, .bool false, .bool false, .bool false, .bool false]
noncomputable def XSoT:RCtx:=⟨GSo,[(20,rconR (Nat×(Nat->Int)) ⟨(0,λ_=>0)⟩ seriesTC)],[],[],[]⟩
theorem xSoT:RCtxOk Try.prog XSoT:=⟨gSo,RGamOk.cons seriesT RGamOk.nil⟩
noncomputable def soHT(len:Nat)(k m:Int)(g:Nat->Int)(r:Nat×(Nat->Int))(c:List SV):Heap:=[(1,⟨true,32, .cells so0,0⟩),(2,⟨false,89, .cells (rectU len true (fI g) 3 (ixK len m (IntKind.u8.wrap k)) (ixIf len m (IntKind.u8.wrap k)) 4 r.1),0⟩),(3,⟨false,55, .flts .f64 (2*len) (fI g),2⟩),(4,⟨false,5, .ints .u8 r.1 r.2,1⟩),(5,⟨true,32, .cells c,0⟩)]
noncomputable def soT1(len:Nat)(k m:Int)(g:Nat->Int):Fam:=⟨(Nat×(Nat->Int))×Nat,λi =>
 ⟨75,[(8, .ptr 1 0),(9, .ifc 98 (.ptr 2 0)),(10, .ptr 5 0),(11, .int .i64 i.2)],soHT len k m g i.1 (soC len true k m g (.slcc 6 i.2) .nils)++[(6,⟨true,29, .ints .i64 (2*i.2) g,2⟩)],7⟩,λi=>i.2<=len,λi=>len-i.2⟩
noncomputable def soT2(len:Nat)(k m:Int)(g:Nat->Int):Fam:=⟨(Nat×(Nat->Int))×Nat,λi =>
 ⟨75,[(8, .ptr 1 0),(9, .ifc 98 (.ptr 2 0)),(10, .ptr 5 0),(12, .int .i64 i.2)],soHT len k m g i.1 (soC len true k m g (.slcc 6 len) (.slcc 7 i.2))++[(6,⟨true,29, .ints .i64 (2*len) g,2⟩),(7,⟨true,30, .ints .i64 (4*i.2) (segI g len),4⟩)],8⟩,λi=>i.2<=nsegs len true g,λi=>nsegs len true g-i.2⟩
noncomputable def soTC:List SV->RRd (Unit)
 | [.slcc n len, .tt, .int .i64 k, .int .i64 m]=>.read n λo0=>(match intsFrom .i64 o0.c with
  | some (m0,g)=>.ret ⟨[.slcc 0 len, .tt, .int .i64 k, .int .i64 m],[(0,⟨false,29, .ints .i64 m0 g,0⟩)],some (m0=2*len/\(PS g len/\0<=k/\k<=2)),λ_i=>True,λ_i=>⟨[],[], .agg (soV len true k m g (.slcc 1 len) (.slcc 2 (nsegs len true g))),[],[(1,⟨true,29, .ints .i64 (2*len) g,2⟩),(2,⟨true,30, .ints .i64 (4*nsegs len true g) (segI g len),4⟩)],none⟩⟩
  | none=>.fail)
 | _=>.fail
theorem vc_soT(len:Nat)(k m:Int)(g:Nat->Int){T1}(t1:T1=λ(i:(Nat×(Nat->Int))×Nat) (pq:(Nat×(Nat->Int))×Nat)=>(true=true/\(ppBig len true&&fGt .f64 (cwF (fI g) len len) 0)=(ppBig len true&&fGt .f64 (cwF (fI g) len len) 0)/\(ppBig len true && !(dcF (fI g) len len).2) =
 (ppBig len true && !(dcF (fI g) len len).2)/\ixK len m (IntKind.wrap .u8 k)=ixK len m (IntKind.wrap .u8 k)/\(ixIf len m (IntKind.wrap .u8 k)=ixIf len m (IntKind.wrap .u8 k)/\True/\(i.1).1=(pq.1).1)/\pick (ppBig len true) (rlo (fI g) 0
 len)=pick (ppBig len true) (rlo (fI g) 0 len)/\pick (ppBig len true) (rlo (fI g) 1 len)=pick (ppBig len true) (rlo (fI g) 1 len)/\pick (ppBig len true) (rhi (fI g) 0 len)=pick (ppBig len true) (rhi (fI g) 0 len)/\pick (ppBig len true) (rhi
 (fI g) 1 len)=pick (ppBig len true) (rhi (fI g) 1 len)/\(True/\len=len)/\True)){T2}(t2:T2=(ppBig len true)){T3}(t3:T3=(ppBig len true&&fGt .f64 (cwF (fI g) len len) 0)){T4}(t4:T4=(32=32/\0=0/\(0:Int)=0/\(0:Int)=0/\True/\
 True/\(0:Int)=0/\(0:Int)=0/\(0:Int)=0/\(0:Int)=0/\false=false/\false=false/\false=false/\false=false/\false=false/\True)){T5}(t5:T5=(ppBig len true && !(dcF (fI g) len len).2)){T6}(t6:T6=(↑(nsg true len (wz (fI
 g))):Int)){T7}(t7:T7=(IntKind.wrap .u8 k)){T8}(t8:T8=(pick T2 (rlo (fI g) 0 len))){T9}(t9:T9=(pick T2 (rlo (fI g) 1 len))){T10}(t10:T10=(pick T2 (rhi (fI g) 0 len))){T11}(t11:T11=(pick T2 (rhi (fI g) 1 len))){T12}(t12:T12=λ(i:(Nat×(Nat->
 Int))×Nat)=>(↑(i.2):Int)){T13}(t13:T13=(True/\0=0)){T14}(t14:T14=(↑len:Int)){T15}(t15:T15=λ(i:Nat×(Nat->Int))=>(2*len=2*len/\i.1=1*i.1/\True)){T16}(t16:T16=λ(i:(Nat×(Nat->Int))×Nat)=>(2*len<=2*len/\∀ (i :
 Nat),i<2*len->fI g i=fI g i)){T17}(t17:T17=λ(i:(Nat×(Nat->Int))×Nat)=>(toIok .f64 (fI g (2*Int.toNat (T12 i))) .i64/\toIok .f64 (fI g (2*Int.toNat (T12 i)+1)) .i64)){T18}(t18:T18=λ(i:(Nat×(Nat->Int))×Nat)=>(29=29/\2
 = 2/\2*len<=2*len/\∀ (i:Nat),i<2*len->g i=g i)):runG XSoT 1 [(4,soT1 len k m g),(8,soT2 len k m g)] [] (codeOf Try.f7) (init Try.f7.ntmps [.slcc 0 len, .tt, .int .i64 k, .int .i64 m] [(0,⟨false,29, .ints .i64 (2*len) g,0⟩)] 1) (endK XSoT.G.E.T Try.f7.results.toList λS v=>∃ _i:Unit,True/\postP 1 ⟨[],[], .agg (soV len true k m g (.slcc 1 len) (.slcc 2 (nsegs len true g))),[],[(1,⟨true,29, .ints .i64 (2*len) g,2⟩),(2,⟨true,30, .ints .i64 (4*nsegs len true g) (segI g len),4⟩)],none⟩ S v)=(
 ∀(i:Nat×(Nat->Int)),(2*len=2*len/\mkUO len true m T7 (fI g))/\(ixP (ixIf len m T7) (nsg true len (wz (fI g))) T7 len (fI g) (ppQ len true (fI g)) i->(T15 i)/\(2*len=2*len/\i.1=1*i.1/\len<=1000000/\FL2 (fI g) (2*len))
 /\(T15 i)/\((toIok .f64 T8 .i64/\toIok .f64 T9 .i64)/\toIok .f64 T10 .i64/\toIok .f64 T11 .i64)/\(T15 i)/\(2*len=2*len/\i.1=1*i.1/\len<=1000000)/\(T15 i)/\(T15 i)/\(2*len=2*len/\Prod.fst i=1*i.1/\True)/\(∃(pq :
 (Nat×(Nat->Int))×Nat),pq.2<=len/\(T13/\T13/\T13/\0=(↑(pq.2):Int)/\True)/\True/\T4/\True/\(true=true/\T3=T3/\T5=T5/\ixK len m T7=ixK len m T7/\(ixIf len m T7=ixIf len m T7/\True/\i.1=(pq.1).1)/\pick T2 (rlo (fI
 g) 0 len)=pick T2 (rlo (fI g) 0 len)/\pick T2 (rlo (fI g) 1 len)=pick T2 (rlo (fI g) 1 len)/\pick T2 (rhi (fI g) 0 len)=pick T2 (rhi (fI g) 0 len)/\pick T2 (rhi (fI g) 1 len)=pick T2 (rhi (fI g) 1 len)/\(True/\len=len)/\True)/\True/\
 (2*len<=2*len/\∀(i:Nat),i<2*len->fI g i=fI g i)/\True/\((pq.1).1<=i.1/\∀(i_1:Nat),i_1<(pq.1).1->i.2 i_1=(pq.1).2 i_1)/\True/\(32=32/\0=0/\T14=T14/\T6=T6/\pq.2=0/\True/\toI .f64 T8 .i64=toI .f64 T8
 .i64/\toI .f64 T9 .i64=toI .f64 T9 .i64/\toI .f64 T10 .i64=toI .f64 T10 .i64/\toI .f64 T11 .i64=toI .f64 T11 .i64/\decide (len<2∨true=true/\len<3)=decide (len<2∨true=true/\len<3)/\allValid len (fI g)=allValid len (fI
 g)/\T5=T5/\T3=T3/\(!!ixIf len m T7)=ixIf len m T7/\True)/\True/\2*pq.2=0/\True)/\∀(i:(Nat×(Nat->Int))×Nat),i.2<=len->(2*len=2*len/\(i.1).1=1*(i.1).1/\True)/\(decide ((T12 i)<T14)=true->(2*len=2*len
 /\(i.1).1=1*(i.1).1/\(0:Int)<=(T12 i)/\(T12 i)<T14)/\(T17 i)/\(2*i.2=i.2*2/\(i.2+1)*16<=140737488355328/\i.2+1<=9223372036854775807)/\true=true/\∃(pq:(Nat×(Nat->Int))×Nat),pq.2<=len/\len-pq.2<len-i.2
 /\(T13/\T13/\T13/\IntKind.wrap .i64 ((T12 i)+1)=(↑(pq.2):Int)/\True)/\True/\T4/\True/\(T1 i pq)/\True/\(T16 i)/\True/\((Prod.fst pq).1<=(i.1).1/\∀(i_1:Nat),i_1<(pq.1).1->(i.1).2 i_1=(pq.1).2 i_1)/\True/\(32=32/\0=0
 /\T14=T14/\T6=T6/\(True/\i.2+1=pq.2)/\True/\toI .f64 T8 .i64=toI .f64 T8 .i64/\toI .f64 T9 .i64=toI .f64 T9 .i64/\toI .f64 T10 .i64=toI .f64 T10 .i64/\toI .f64 T11 .i64=toI .f64 T11 .i64/\decide (len<2∨true=true/\len <
 3)=decide (len<2∨true=true/\len<3)/\allValid len (fI g)=allValid len (fI g)/\T5=T5/\T3=T3/\ixIf len m T7=ixIf len m T7/\True)/\True/\(29=29/\2=2/\2*pq.2<=2*i.2+2/\∀(i_1:Nat),i_1<2*pq.2->more (2*i.2)
 g [toI .f64 (fI g (2*Int.toNat (T12 i))) .i64,toI .f64 (fI g (2*Int.toNat (T12 i)+1)) .i64] (0:Int) i_1=g i_1)/\True)/\(decide ((T12 i)<T14)=false->(∃(pq:(Nat×(Nat->Int))×Nat),pq.2<=nsegs len true g/\(T13/\T13/\T13/\0
 = (↑(pq.2):Int)/\True)/\True/\(32=32/\0=0/\(0:Int)=(0:Int)/\(0:Int)=0/\True/\True/\(0:Int)=0/\(0:Int)=0/\(0:Int)=0/\(0:Int)=0/\false=false/\false=false/\false=false/\false=false/\false=false
 /\True)/\True/\(T1 i pq)/\True/\(T16 i)/\True/\((pq.1).1<=(i.1).1/\∀(i_1:Nat),i_1<(pq.1).1->(i.1).2 i_1=(pq.1).2 i_1)/\True/\(32=32/\0=0/\T14=T14/\T6=T6/\(True/\i.2=len)/\pq.2=0/\toI .f64 T8 .i64=toI .f64 T8
 .i64/\toI .f64 T9 .i64=toI .f64 T9 .i64/\toI .f64 T10 .i64=toI .f64 T10 .i64/\toI .f64 T11 .i64=toI .f64 T11 .i64/\decide (len<2∨true=true/\len<3)=decide (len<2∨true=true/\len<3)/\allValid len (fI g)=allValid len (fI
 g)/\T5=T5/\T3=T3/\ixIf len m T7=ixIf len m T7/\True)/\True/\(29=29/\2=2/\2*len<=2*i.2/\∀(i:Nat),i<2*len->g i=g i)/\True/\4*pq.2=0/\True)/\∀(i:(Nat×(Nat->Int))×Nat),i.2<=nsegs len true g->(2*len
 = 2*len/\(i.1).1=1*(i.1).1/\len<=1000000/\FL2 (fI g) (2*len))/\(decide ((T12 i)<T6)=true->(2*len=2*len/\(i.1).1=1*(i.1).1/\0<=(T12 i)/\(T12 i)<T14/\len<=1000000)/\(T17 i)/\(toIok .f64 (fI g (2*nx len (Int.toNat
 (T12 i)))) .i64/\toIok .f64 (fI g (2*nx len (Int.toNat (T12 i))+1)) .i64)/\(4*i.2=i.2*4/\(i.2+1)*32<=140737488355328/\i.2+1<=9223372036854775807)/\true=true/\∃(pq:(Nat×(Nat->Int))×Nat),pq.2<=nsegs len true g/\
 nsegs len true g-pq.2<nsegs len true g-i.2/\(T13/\T13/\T13/\IntKind.wrap .i64 ((T12 i)+1)=(↑(pq.2):Int)/\True)/\True/\T4/\True/\(T1 i pq)/\True/\(T16 i)/\True/\((pq.1).1<=(i.1).1/\∀(i_1:Nat),i_1<(pq.1).1->(i.1).2 i_1
 = (pq.1).2 i_1)/\True/\(32=32/\0=0/\T14=T14/\T6=T6/\(True/\len=len)/\(True/\i.2+1=pq.2)/\toI .f64 T8 .i64=toI .f64 T8 .i64/\toI .f64 T9 .i64=toI .f64 T9 .i64/\toI .f64 T10 .i64=toI .f64 T10 .i64/\toI .f64 T11 .i64 =
 toI .f64 T11 .i64/\decide (len<2∨true=true/\len<3)=decide (len<2∨true=true/\len<3)/\allValid len (fI g)=allValid len (fI g)/\T5=T5/\T3=T3/\ixIf len m T7=ixIf len m T7/\True)/\True/\(T18 i)/\True/\(30=30/\4=4
 /\4*pq.2<=4*i.2+4/\∀(i_1:Nat),i_1<4*pq.2->more (4*i.2) (segI g len) [toI .f64 (fI g (2*Int.toNat (T12 i))) .i64,toI .f64 (fI g (2*Int.toNat (T12 i)+1)) .i64,toI .f64 (fI g (2*nx len (Int.toNat (T12 i)))) .i64,toI .f64
 (fI g (2*nx len (Int.toNat (T12 i))+1)) .i64] (0:Int) i_1=segI g len i_1)/\True)/\(decide ((T12 i)<T6)=false->∃(_:Unit),True/\(T14=T14/\T6=(↑(nsegs len true g):Int)/\(True/\len=len)/\(True/\i.2=nsegs len true g)/\
 (toI .f64 T8 .i64=if ppBig len true=true then mn g 0 len else(0:Int))/\(toI .f64 T9 .i64=if ppBig len true=true then mn g 1 len else(0:Int))/\(toI .f64 T10 .i64=if ppBig len true=true then mx g 0 len else(0:Int))/\(toI .f64
 T11 .i64=if ppBig len true=true then mx g 1 len else(0:Int))/\decide (len<2∨true=true/\len<3)=decide (len<2∨true=true/\len<3)/\allValid len (fI g)=geoValid len g/\T5=(ppBig len true&&(!lfZ g len len || !rtZ g len
 len))/\T3=(ppBig len true&&decide ((0:Int)<cwZ g len len))/\ixIf len m T7=ixIf len m T7/\True)/\True/\(T18 i)/\True/\(30=30/\4=4/\4*nsegs len true g<=4*i.2/\∀(i:Nat),i<4*nsegs len true g->segI g len i=segI g
 len i)/\True)))):=by subst t1 t2 t3 t4 t5 t6 t7 t8 t9 t10 t11 t12 t13 t14 t15 t16 t17 t18;kernel_rfl
theorem soT:RConOk Try.prog 7 (rconR (Unit) ⟨()⟩ soTC):=by
 refine rcon_of_vc xSoT Try.func7 rfl (by kernel_rfl) λargs=>?_
 unfold soTC;split
 ·rename_i n len k m;intro o0;try dsimp only;split
  ·rename_i m0 g hm0;intro ho;replace ho:m0=2*len/\(PS g len/\0<=k/\k<=2):=ho;obtain⟨hsz0,ho⟩:=ho;subst hsz0;refine⟨?_,_,_,(vc_soT len k m g rfl rfl rfl rfl rfl rfl rfl rfl rfl rfl rfl rfl rfl rfl rfl rfl rfl rfl).mpr ?_⟩
   ·refine okFlag_mk rfl ⟨λ_=>rfl,?_,⟨trivial,(contR_ints hm0).1,trivial⟩⟩;simp[eqvRL,eqvR,kEq_self,sgSig,fsts,nth,sameN_self]
   ·obtain⟨hs,hk0,hk2⟩:=ho;have hl:=hs.1
    have hk8:IntKind.u8.wrap k=k:=by
     show k % 256=k;omega
    have hM:∀ cl,mkUO len cl m k (fI g):=λcl=>hs.mk ⟨hk0,hk2⟩
    have hN:=hs.nsg;have hF:=hs.fl2;have hR:=λcl=>(⟨hs.rect cl (k:=0) (by decide),hs.rect cl (k:=1) (by decide)⟩:_/\_)
    simp only[true_and,and_true,eq_self,Int.toNat_natCast,decide_eq_true_eq,decide_eq_false_iff_not,implies_true];rw[hk8];simp only[hM,hN,hF,(hR _).1.1.1,(hR _).1.2.1,(hR _).2.1.1,(hR _).2.2.1,(hR _).1.1.2,(hR _).1.2.2,(hR _).2.1.2,(hR _).2.2.2,Nat.one_mul,true_and,and_true,Bool.not_not];refine λr hP=>⟨by omega,by omega,⟨(r,0),Nat.zero_le _,rfl,rfl,Nat.le_refl _,⟨Nat.le_refl _,λ_ _=>rfl⟩,rfl,rfl⟩,?_⟩
    rintro⟨r1,i⟩ hi;dsimp only at hi ⊢;refine⟨λh=>?_,λh=>⟨⟨(r1,0),Nat.zero_le _,rfl,rfl,Nat.le_refl _,⟨Nat.le_refl _,λ_ _=>rfl⟩,⟨by omega,rfl⟩,by omega,rfl⟩,?_⟩⟩
    ·have w0:=hs.wI (j:=2*i) (by omega);have w1:=hs.wI (j:=2*i+1) (by omega);have hw:IntKind.i64.wrap ((i:Int)+1)=((i+1:Nat):Int):=by rw[wrap64 (by omega) (by omega)];omega
     refine⟨⟨by omega,by omega⟩,⟨w0.1,w1.1⟩,⟨by omega,by omega,by omega⟩,(r1,i+1),by dsimp only;omega,by dsimp only;omega,hw,rfl,Nat.le_refl _,⟨Nat.le_refl _,λ_ _=>rfl⟩,rfl,by dsimp only;omega,?_⟩;exact more_two w0.2 w1.2
    rintro⟨r2,i⟩ hi;dsimp only at hi ⊢;refine⟨by omega,λh=>?_,λh=>?_⟩
    ·have hin:i<nsegs len true g:=Int.ofNat_lt.1 h;obtain⟨hil,s0,s1,s2,s3⟩:=hs.seg hin;have hnx:=nx_lt hil;have w0:=hs.wI (j:=2*i) (by omega);have w1:=hs.wI (j:=2*i+1) (by omega);have w2:=hs.wI (j:=2*nx len i) (by omega);have w3:=hs.wI (j:=2*nx len i+1) (by omega);have hw:IntKind.i64.wrap ((i:Int)+1)=((i+1:Nat):Int):=by rw[wrap64 (by omega) (by omega)];omega
     refine⟨⟨by omega,by omega,by omega⟩,⟨w0.1,w1.1⟩,⟨w2.1,w3.1⟩,⟨by omega,by omega,by omega⟩,(r2,i+1),by dsimp only;omega,by dsimp only;omega,hw,rfl,Nat.le_refl _,⟨Nat.le_refl _,λ_ _=>rfl⟩,rfl,Nat.le_refl _,by dsimp only;omega,?_⟩;exact more_four (w0.2.trans s0.symm) (w1.2.trans s1.symm) (w2.2.trans s2.symm) (w3.2.trans s3.symm)
    ·have hin:i=nsegs len true g:=by omega
     refine⟨(),⟨hin,hs.val,?_,?_⟩,Nat.le_refl _,by omega⟩
     ·by_cases hb:ppBig len true=true
      ·rw[hs.convex hb]
      ·rw[Bool.eq_false_iff.2 hb];rfl
     ·rw[hs.clock]
  ·trivial
 ·trivial
noncomputable def XSoF:RCtx:=⟨GSo,[(20,rconR (Nat×(Nat->Int)) ⟨(0,λ_=>0)⟩ seriesFC)],[],[],[]⟩
theorem xSoF:RCtxOk Try.prog XSoF:=⟨gSo,RGamOk.cons seriesF RGamOk.nil⟩
noncomputable def soHF(len:Nat)(k m:Int)(g:Nat->Int)(r:Nat×(Nat->Int))(c:List SV):Heap:=[(1,⟨true,32, .cells so0,0⟩),(2,⟨false,91, .cells (rectU len false (fI g) 3 (ixK len m (IntKind.u8.wrap k)) (ixIf len m (IntKind.u8.wrap k)) 4 r.1),0⟩),(3,⟨false,55, .flts .f64 (2*len) (fI g),2⟩),(4,⟨false,5, .ints .u8 r.1 r.2,1⟩),(5,⟨true,32, .cells c,0⟩)]
noncomputable def soF1(len:Nat)(k m:Int)(g:Nat->Int):Fam:=⟨(Nat×(Nat->Int))×Nat,λi =>
 ⟨75,[(8, .ptr 1 0),(9, .ifc 79 (.ptr 2 0)),(10, .ptr 5 0),(11, .int .i64 i.2)],soHF len k m g i.1 (soC len false k m g (.slcc 6 i.2) .nils)++[(6,⟨true,29, .ints .i64 (2*i.2) g,2⟩)],7⟩,λi=>i.2<=len,λi=>len-i.2⟩
noncomputable def soF2(len:Nat)(k m:Int)(g:Nat->Int):Fam:=⟨(Nat×(Nat->Int))×Nat,λi =>
 ⟨75,[(8, .ptr 1 0),(9, .ifc 79 (.ptr 2 0)),(10, .ptr 5 0),(12, .int .i64 i.2)],soHF len k m g i.1 (soC len false k m g (.slcc 6 len) (.slcc 7 i.2))++[(6,⟨true,29, .ints .i64 (2*len) g,2⟩),(7,⟨true,30, .ints .i64 (4*i.2) (segI g len),4⟩)],8⟩,λi=>i.2<=nsegs len false g,λi=>nsegs len false g-i.2⟩
noncomputable def soFC:List SV->RRd (Unit)
 | [.slcc n len, .ff, .int .i64 k, .int .i64 m]=>.read n λo0=>(match intsFrom .i64 o0.c with
  | some (m0,g)=>.ret ⟨[.slcc 0 len, .ff, .int .i64 k, .int .i64 m],[(0,⟨false,29, .ints .i64 m0 g,0⟩)],some (m0=2*len/\(PS g len/\0<=k/\k<=2)),λ_i=>True,λ_i=>⟨[],[], .agg (soV len false k m g (.slcc 1 len) (.slcc 2 (nsegs len false g))),[],[(1,⟨true,29, .ints .i64 (2*len) g,2⟩),(2,⟨true,30, .ints .i64 (4*nsegs len false g) (segI g len),4⟩)],none⟩⟩
  | none=>.fail)
 | _=>.fail
theorem vc_soF(len:Nat)(k m:Int)(g:Nat->Int){T1}(t1:T1=λ(i:(Nat×(Nat->Int))×Nat) (pq:(Nat×(Nat->Int))×Nat)=>(false=false/\(ppBig len false&&fGt .f64 (cwF (fI g) len len) 0)=(ppBig len false&&fGt .f64 (cwF (fI g) len len) 0)/\(ppBig len false && !(dcF (fI g) len len).2) =
 (ppBig len false && !(dcF (fI g) len len).2)/\ixK len m (IntKind.wrap .u8 k)=ixK len m (IntKind.wrap .u8 k)/\(ixIf len m (IntKind.wrap .u8 k)=ixIf len m (IntKind.wrap .u8 k)/\True/\(i.1).1=(pq.1).1)/\pick (ppBig len false) (rlo (fI g) 0
 len)=pick (ppBig len false) (rlo (fI g) 0 len)/\pick (ppBig len false) (rlo (fI g) 1 len)=pick (ppBig len false) (rlo (fI g) 1 len)/\pick (ppBig len false) (rhi (fI g) 0 len)=pick (ppBig len false) (rhi (fI g) 0 len)/\pick (ppBig len false)
 (rhi (fI g) 1 len)=pick (ppBig len false) (rhi (fI g) 1 len)/\(True/\len=len)/\True)){T2}(t2:T2=(ppBig len false)){T3}(t3:T3=(ppBig len false&&fGt .f64 (cwF (fI g) len len) 0)){T4}(t4:T4=(32=32/\0=0/\(0:Int)=0/\(0:Int)=0/\
 True/\True/\(0:Int)=0/\(0:Int)=0/\(0:Int)=0/\(0:Int)=0/\false=false/\false=false/\false=false/\false=false/\false=false/\True)){T5}(t5:T5=(ppBig len false && !(dcF (fI g) len len).2)){T6}(t6:T6=(↑(nsg false len
 (wz (fI g))):Int)){T7}(t7:T7=(IntKind.wrap .u8 k)){T8}(t8:T8=(pick T2 (rlo (fI g) 0 len))){T9}(t9:T9=(pick T2 (rlo (fI g) 1 len))){T10}(t10:T10=(pick T2 (rhi (fI g) 0 len))){T11}(t11:T11=(pick T2 (rhi (fI g) 1 len))){T12}(t12:T12=λ(i:(Nat×
 (Nat->Int))×Nat)=>(↑(i.2):Int)){T13}(t13:T13=(True/\0=0)){T14}(t14:T14=(↑len:Int)){T15}(t15:T15=λ(i:Nat×(Nat->Int))=>(2*len=2*len/\i.1=1*i.1/\True)){T16}(t16:T16=λ(i:(Nat×(Nat->Int))×Nat)=>(2*len<=2*len/\∀
 (i:Nat),i<2*len->fI g i=fI g i)){T17}(t17:T17=λ(i:(Nat×(Nat->Int))×Nat)=>(toIok .f64 (fI g (2*Int.toNat (T12 i))) .i64/\toIok .f64 (fI g (2*Int.toNat (T12 i)+1)) .i64)){T18}(t18:T18=λ(i:(Nat×(Nat->Int))×Nat)=>(29 =
 29/\2=2/\2*len<=2*len/\∀ (i:Nat),i<2*len->g i=g i)):runG XSoF 1 [(4,soF1 len k m g),(8,soF2 len k m g)] [] (codeOf Try.f7) (init Try.f7.ntmps [.slcc 0 len, .ff, .int .i64 k, .int .i64 m] [(0,⟨false,29, .ints .i64 (2*len) g,0⟩)] 1) (endK XSoF.G.E.T Try.f7.results.toList λS v=>∃ _i:Unit,True/\postP 1 ⟨[],[], .agg (soV len false k m g (.slcc 1 len) (.slcc 2 (nsegs len false g))),[],[(1,⟨true,29, .ints .i64 (2*len) g,2⟩),(2,⟨true,30, .ints .i64 (4*nsegs len false g) (segI g len),4⟩)],none⟩ S v)=(
 ∀(i:Nat×(Nat->Int)),(2*len=2*len/\mkUO len false m T7 (fI g))/\(ixP (ixIf len m T7) (nsg false len (wz (fI g))) T7 len (fI g) (ppQ len false (fI g)) i->(T15 i)/\(2*len=2*len/\i.1=1*i.1/\len<=1000000/\FL2 (fI g) (2 *
 len))/\(T15 i)/\((toIok .f64 T8 .i64/\toIok .f64 T9 .i64)/\toIok .f64 T10 .i64/\toIok .f64 T11 .i64)/\(T15 i)/\(2*len=2*len/\i.1=1*i.1/\len<=1000000)/\(T15 i)/\(T15 i)/\(2*len=2*len/\Prod.fst i=1*i.1/\True)/\(∃ (pq
 : (Nat×(Nat->Int))×Nat),pq.2<=len/\(T13/\T13/\T13/\0=(↑(pq.2):Int)/\True)/\True/\T4/\True/\(false=false/\T3=T3/\T5=T5/\ixK len m T7=ixK len m T7/\(ixIf len m T7=ixIf len m T7/\True/\i.1=(pq.1).1)/\pick T2 (rlo
 (fI g) 0 len)=pick T2 (rlo (fI g) 0 len)/\pick T2 (rlo (fI g) 1 len)=pick T2 (rlo (fI g) 1 len)/\pick T2 (rhi (fI g) 0 len)=pick T2 (rhi (fI g) 0 len)/\pick T2 (rhi (fI g) 1 len)=pick T2 (rhi (fI g) 1 len)/\(True/\len=len)/\True)/\
 True/\(2*len<=2*len/\∀(i:Nat),i<2*len->fI g i=fI g i)/\True/\((pq.1).1<=i.1/\∀(i_1:Nat),i_1<(pq.1).1->i.2 i_1=(pq.1).2 i_1)/\True/\(32=32/\0=0/\T14=T14/\T6=T6/\pq.2=0/\True/\toI .f64 T8 .i64=toI .f64
 T8 .i64/\toI .f64 T9 .i64=toI .f64 T9 .i64/\toI .f64 T10 .i64=toI .f64 T10 .i64/\toI .f64 T11 .i64=toI .f64 T11 .i64/\decide (len<2∨false=true/\len<3)=decide (len<2∨false=true/\len<3)/\allValid len (fI g)=allValid len
 (fI g)/\T5=T5/\T3=T3/\(!!ixIf len m T7)=ixIf len m T7/\True)/\True/\2*pq.2=0/\True)/\∀(i:(Nat×(Nat->Int))×Nat),i.2<=len->(2*len=2*len/\(i.1).1=1*(i.1).1/\True)/\(decide ((T12 i)<T14)=true->(2*len=2 *
 len/\(i.1).1=1*(i.1).1/\(0:Int)<=(T12 i)/\(T12 i)<T14)/\(T17 i)/\(2*i.2=i.2*2/\(i.2+1)*16<=140737488355328/\i.2+1<=9223372036854775807)/\true=true/\∃(pq:(Nat×(Nat->Int))×Nat),pq.2<=len/\len-pq.2<len -
 i.2/\(T13/\T13/\T13/\IntKind.wrap .i64 ((T12 i)+1)=(↑(pq.2):Int)/\True)/\True/\T4/\True/\(T1 i pq)/\True/\(T16 i)/\True/\((Prod.fst pq).1<=(i.1).1/\∀(i_1:Nat),i_1<(pq.1).1->(i.1).2 i_1=(pq.1).2 i_1)/\True/\(32=32/\0
 = 0/\T14=T14/\T6=T6/\(True/\i.2+1=pq.2)/\True/\toI .f64 T8 .i64=toI .f64 T8 .i64/\toI .f64 T9 .i64=toI .f64 T9 .i64/\toI .f64 T10 .i64=toI .f64 T10 .i64/\toI .f64 T11 .i64=toI .f64 T11 .i64/\decide (len<2∨false=true/\
 len<3)=decide (len<2∨false=true/\len<3)/\allValid len (fI g)=allValid len (fI g)/\T5=T5/\T3=T3/\ixIf len m T7=ixIf len m T7/\True)/\True/\(29=29/\2=2/\2*pq.2<=2*i.2+2/\∀(i_1:Nat),i_1<2*pq.2->more (2
 * i.2) g [toI .f64 (fI g (2*Int.toNat (T12 i))) .i64,toI .f64 (fI g (2*Int.toNat (T12 i)+1)) .i64] (0:Int) i_1=g i_1)/\True)/\(decide ((T12 i)<T14)=false->(∃(pq:(Nat×(Nat->Int))×Nat),pq.2<=nsegs len false g/\(T13/\T13/\
 T13/\0=(↑(pq.2):Int)/\True)/\True/\(32=32/\0=0/\(0:Int)=(0:Int)/\(0:Int)=0/\True/\True/\(0:Int)=0/\(0:Int)=0/\(0:Int)=0/\(0:Int)=0/\false=false/\false=false/\false=false/\false=false/\false
 = false/\True)/\True/\(T1 i pq)/\True/\(T16 i)/\True/\((pq.1).1<=(i.1).1/\∀(i_1:Nat),i_1<(Prod.fst pq).1->(i.1).2 i_1=(pq.1).2 i_1)/\True/\(32=32/\0=0/\T14=T14/\T6=T6/\(True/\i.2=len)/\pq.2=0/\toI .f64 T8 .i64 =
 toI .f64 T8 .i64/\toI .f64 T9 .i64=toI .f64 T9 .i64/\toI .f64 T10 .i64=toI .f64 T10 .i64/\toI .f64 T11 .i64=toI .f64 T11 .i64/\decide (len<2∨false=true/\len<3)=decide (len<2∨false=true/\len<3)/\allValid len (fI g) =
 allValid len (fI g)/\T5=T5/\T3=T3/\ixIf len m T7=ixIf len m T7/\True)/\True/\(29=29/\2=2/\2*len<=2*i.2/\∀(i:Nat),i<2*len->g i=g i)/\True/\4*pq.2=0/\True)/\∀(i:(Nat×(Nat->Int))×Nat),i.2<=nsegs len
 false g->(2*len=2*len/\(i.1).1=1*Prod.fst (i.1)/\len<=1000000/\FL2 (fI g) (2*len))/\(decide ((T12 i)<T6)=true->(2*len=2*len/\(i.1).1=1*(i.1).1/\0<=(T12 i)/\(T12 i)<T14/\len<=1000000)/\(T17 i)/\(toIok .f64
 (fI g (2*nx len (Int.toNat (T12 i)))) .i64/\toIok .f64 (fI g (2*nx len (Int.toNat (T12 i))+1)) .i64)/\(4*i.2=i.2*4/\(i.2+1)*32<=140737488355328/\i.2+1<=9223372036854775807)/\true=true/\∃(pq:(Nat×(Nat->Int))×Nat),
 pq.2<=nsegs len false g/\nsegs len false g-pq.2<nsegs len false g-i.2/\(T13/\T13/\T13/\IntKind.wrap .i64 ((T12 i)+1)=(↑(pq.2):Int)/\True)/\True/\T4/\True/\(T1 i pq)/\True/\(T16 i)/\True/\((Prod.fst pq).1<=(i.1).1/\∀ (i_1
 : Nat),i_1<(pq.1).1->(i.1).2 i_1=(pq.1).2 i_1)/\True/\(32=32/\0=0/\T14=T14/\T6=T6/\(True/\len=len)/\(True/\i.2+1=pq.2)/\toI .f64 T8 .i64=toI .f64 T8 .i64/\toI .f64 T9 .i64=toI .f64 T9 .i64/\toI .f64 T10 .i64=toI
 .f64 T10 .i64/\toI .f64 T11 .i64=toI .f64 T11 .i64/\decide (len<2∨false=true/\len<3)=decide (len<2∨false=true/\len<3)/\allValid len (fI g)=allValid len (fI g)/\T5=T5/\T3=T3/\ixIf len m T7=ixIf len m T7/\True)/\
 True/\(T18 i)/\True/\(30=30/\4=4/\4*pq.2<=4*i.2+4/\∀(i_1:Nat),i_1<4*pq.2->more (4*i.2) (segI g len) [toI .f64 (fI g (2*Int.toNat (T12 i))) .i64,toI .f64 (fI g (2*Int.toNat (T12 i)+1)) .i64,toI .f64 (fI g (2*nx
 len (Int.toNat (T12 i)))) .i64,toI .f64 (fI g (2*nx len (Int.toNat (T12 i))+1)) .i64] (0:Int) i_1=segI g len i_1)/\True)/\(decide ((T12 i)<T6)=false->∃(_:Unit),True/\(T14=T14/\T6=(↑(nsegs len false g):Int)/\(True/\len =
 len)/\(True/\i.2=nsegs len false g)/\(toI .f64 T8 .i64=if ppBig len false=true then mn g 0 len else(0:Int))/\(toI .f64 T9 .i64=if ppBig len false=true then mn g 1 len else(0:Int))/\(toI .f64 T10 .i64=if ppBig len false=true
 then mx g 0 len else(0:Int))/\(toI .f64 T11 .i64=if ppBig len false=true then mx g 1 len else(0:Int))/\decide (len<2∨false=true/\len<3)=decide (len<2∨false=true/\len<3)/\allValid len (fI g)=geoValid len g/\T5 =
 (ppBig len false&&(!lfZ g len len || !rtZ g len len))/\T3=(ppBig len false&&decide ((0:Int)<cwZ g len len))/\ixIf len m T7=ixIf len m T7/\True)/\True/\(T18 i)/\True/\(30=30/\4=4/\4*nsegs len false g<=4*i.2/\∀(i:Nat),
 i<4*nsegs len false g->segI g len i=segI g len i)/\True)))):=by subst t1 t2 t3 t4 t5 t6 t7 t8 t9 t10 t11 t12 t13 t14 t15 t16 t17 t18;kernel_rfl
theorem soF:RConOk Try.prog 7 (rconR (Unit) ⟨()⟩ soFC):=by
 refine rcon_of_vc xSoF Try.func7 rfl (by kernel_rfl) λargs=>?_
 unfold soFC;split
 ·rename_i n len k m;intro o0;try dsimp only;split
  ·rename_i m0 g hm0;intro ho;replace ho:m0=2*len/\(PS g len/\0<=k/\k<=2):=ho;obtain⟨hsz0,ho⟩:=ho;subst hsz0;refine⟨?_,_,_,(vc_soF len k m g rfl rfl rfl rfl rfl rfl rfl rfl rfl rfl rfl rfl rfl rfl rfl rfl rfl rfl).mpr ?_⟩
   ·refine okFlag_mk rfl ⟨λ_=>rfl,?_,⟨trivial,(contR_ints hm0).1,trivial⟩⟩;simp[eqvRL,eqvR,kEq_self,sgSig,fsts,nth,sameN_self]
   ·obtain⟨hs,hk0,hk2⟩:=ho;have hl:=hs.1
    have hk8:IntKind.u8.wrap k=k:=by
     show k % 256=k;omega
    have hM:∀ cl,mkUO len cl m k (fI g):=λcl=>hs.mk ⟨hk0,hk2⟩
    have hN:=hs.nsg;have hF:=hs.fl2;have hR:=λcl=>(⟨hs.rect cl (k:=0) (by decide),hs.rect cl (k:=1) (by decide)⟩:_/\_)
    simp only[true_and,and_true,eq_self,Int.toNat_natCast,decide_eq_true_eq,decide_eq_false_iff_not,implies_true,Bool.false_eq_true];rw[hk8];simp only[hM,hN,hF,(hR _).1.1.1,(hR _).1.2.1,(hR _).2.1.1,(hR _).2.2.1,(hR _).1.1.2,(hR _).1.2.2,(hR _).2.1.2,(hR _).2.2.2,Nat.one_mul,true_and,and_true,Bool.not_not];refine λr hP=>⟨by omega,by omega,⟨(r,0),Nat.zero_le _,rfl,rfl,Nat.le_refl _,⟨Nat.le_refl _,λ_ _=>rfl⟩,rfl,rfl⟩,?_⟩
    rintro⟨r1,i⟩ hi;dsimp only at hi ⊢;refine⟨λh=>?_,λh=>⟨⟨(r1,0),Nat.zero_le _,rfl,rfl,Nat.le_refl _,⟨Nat.le_refl _,λ_ _=>rfl⟩,⟨by omega,rfl⟩,by omega,rfl⟩,?_⟩⟩
    ·have w0:=hs.wI (j:=2*i) (by omega);have w1:=hs.wI (j:=2*i+1) (by omega);have hw:IntKind.i64.wrap ((i:Int)+1)=((i+1:Nat):Int):=by rw[wrap64 (by omega) (by omega)];omega
     refine⟨⟨by omega,by omega⟩,⟨w0.1,w1.1⟩,⟨by omega,by omega,by omega⟩,(r1,i+1),by dsimp only;omega,by dsimp only;omega,hw,rfl,Nat.le_refl _,⟨Nat.le_refl _,λ_ _=>rfl⟩,rfl,by dsimp only;omega,?_⟩;exact more_two w0.2 w1.2
    rintro⟨r2,i⟩ hi;dsimp only at hi ⊢;refine⟨by omega,λh=>?_,λh=>?_⟩
    ·have hin:i<nsegs len false g:=Int.ofNat_lt.1 h;obtain⟨hil,s0,s1,s2,s3⟩:=hs.seg hin;have hnx:=nx_lt hil;have w0:=hs.wI (j:=2*i) (by omega);have w1:=hs.wI (j:=2*i+1) (by omega);have w2:=hs.wI (j:=2*nx len i) (by omega);have w3:=hs.wI (j:=2*nx len i+1) (by omega);have hw:IntKind.i64.wrap ((i:Int)+1)=((i+1:Nat):Int):=by rw[wrap64 (by omega) (by omega)];omega
     refine⟨⟨by omega,by omega,by omega⟩,⟨w0.1,w1.1⟩,⟨w2.1,w3.1⟩,⟨by omega,by omega,by omega⟩,(r2,i+1),by dsimp only;omega,by dsimp only;omega,hw,rfl,Nat.le_refl _,⟨Nat.le_refl _,λ_ _=>rfl⟩,rfl,Nat.le_refl _,by dsimp only;omega,?_⟩;exact more_four (w0.2.trans s0.symm) (w1.2.trans s1.symm) (w2.2.trans s2.symm) (w3.2.trans s3.symm)
    ·have hin:i=nsegs len false g:=by omega
     refine⟨(),⟨hin,hs.val,?_,?_⟩,Nat.le_refl _,by omega⟩
     ·by_cases hb:ppBig len false=true
      ·rw[hs.convex hb]
      ·rw[Bool.eq_false_iff.2 hb];rfl
     ·rw[hs.clock]
  ·trivial
 ·trivial
end Go.Proofs.Try.Sx

namespace Go.Sx
open Go.RowKit
theorem detR_ok'{P:Program}{f:Nat}{R:RCon}(h:RConOk P f R)(i:R.ι)
  (hi:∀ j args rd nm e p,R.c i args rd nm=some (e,p)->∃ p',R.c j args rd nm=some (e,p')) (hj:∀ j args rd nm e p,R.c j args rd nm=some (e,p)->∃ p',R.c i args rd nm=some (e,p')):ConOk P f (detR R i) where
 calls:=by
  intro W0 Fr U H ρ w nm args e hH hbd hn hc ho;unfold detR at hc;split at hc
  ·rename_i e' p he;simp only[Option.some.injEq]at hc;subst hc;refine(h.calls hH hbd hn λj=>?_).mono ?_
   ·obtain⟨p',h1⟩:=hi j _ _ _ _ _ he;exact⟨e',p',h1,ho⟩
   rintro en w' ⟨j,e2,p2,h1,h2,h3⟩;obtain⟨p',h4⟩:=hj j _ _ _ _ _ h1;rw[he]at h4;simp only[Option.some.injEq,Prod.mk.injEq]at h4;obtain⟨rfl,rfl⟩:=h4;exact h3
  ·cases hc
 loc:=by
  intro args rd rd' nm e hc hr;unfold detR at hc ⊢;split at hc
  ·rename_i e' p he;simp only[Option.some.injEq]at hc;subst hc;rw[h.loc he hr]
  ·cases hc
def RRd.same{ι:Type}:RRd ι->Prop
 | .fail=>True
 | .ret hc=>∀ i j,hc.out j=hc.out i
 | .read _ k=>∀ o,(k o).same
theorem RRd.same_run{ι:Type}{rd:Nm->Option Ob}:∀ {m:RRd ι} {sg sg':List Nm} {hc:RHC ι},m.same->m.run rd sg=some (sg',hc)->∀ i j,hc.out j=hc.out i
 | .fail,sg,sg',hc,_,h=>by simp[RRd.run]at h
 | .ret hc',sg,sg',hc,hs,h=>by
  simp only[RRd.run,Option.some.injEq,Prod.mk.injEq]at h;obtain⟨_,rfl⟩:=h;exact hs
 | .read n k,sg,sg',hc,hs,h=>by
  simp only[RRd.run]at h;split at h
  ·exact RRd.same_run (hs _) h
  ·cases h
theorem detR_rcon{P:Program}{f:Nat}{ι:Type}{ne:Nonempty ι}{C:List SV->RRd ι}(h:RConOk P f (rconR ι ne C))(i:ι)(hs:∀ args,(C args).same):ConOk P f (detR (rconR ι ne C) i):=by
 have key:∀(i j:ι) args rd nm e p,(rconR ι ne C).c i args rd nm=some (e,p)->∃ p',(rconR ι ne C).c j args rd nm=some (e,p'):=by
  intro i j args rd nm e p hc;simp only[rconR]at hc ⊢;split at hc
  ·rename_i sg hc0 hrun;split at hc
   ·rename_i hd;simp only[Option.some.injEq,Prod.mk.injEq]at hc;obtain⟨rfl,_⟩:=hc;simp only[RRd.same_run (hs args) hrun i j];exact⟨_,rfl⟩
   ·cases hc
  ·cases hc
 exact detR_ok' h i (λj=>key i j) λj=>key j i
end Go.Sx

namespace Go.Proofs.Try.Sx
open Go Go.Sx Go.Proofs Go.Fl Go.Geo
set_option maxRecDepth 100000
theorem nsegs_le'(len:Nat)(b:Bool)(g:Nat->Int):nsegs len b g<=len:=by
 unfold nsegs
 repeat' split
 all_goals omega
def lsF(len:Nat)(g:Nat->Int)(sl:Slots)(h:Heap)(N:Nat)(P:Prop):Fam:=⟨Nat,λ_=>⟨121,(9, .slcc 1 len) :: sl,(1,⟨false,41, .ints .i64 (2*len) g,0⟩) :: h,N⟩,λ_=>P,λ_=>0⟩
def lsX(len:Nat)(cl:Bool)(k m:Int)(g:Nat->Int):Nm×Ob:=(5,⟨true,32, .cells (soV len cl k m g (.slcc 3 len) (.slcc 4 (nsegs len cl g))),0⟩)
def lsP(len:Nat)(g:Nat->Int):Nm×Ob:=(3,⟨false,29, .ints .i64 (2*len) g,0⟩)
def lsS(len:Nat)(cl:Bool)(g:Nat->Int):Nm×Ob:=(4,⟨false,30, .ints .i64 (4*nsegs len cl g) (segI g len),0⟩)
def lsQ(len:Nat)(k:Int)(g:Nat->Int):Prop:=PS g len/\0<=k/\k<=2
theorem same_soT:∀ args,(soTC args).same:=by
 intro args;unfold soTC;split
 ·intro o;dsimp only;split
  ·intro i j;rfl
  ·trivial
 ·trivial
noncomputable def GLwT:Ctx:=⟨⟨tys,FL⟩,[(4,conR geoOfC),(5,conR isGeoLnC),(6,pureCon awakeF),(8,conR geoToC),(7,detR (rconR Unit ⟨()⟩ soTC) ()),(9,conR geoSegsC),(10,conR geoSameC),(11,conR sameSegC),(12,conR gEmptyC),(13,conR geoValidCC),(14,pureCon geoRectF),(15,conR gRectC),(16,conR geoCvxC),(17,conR geoClkC)]⟩
theorem gLwT:CtxOk Try.prog GLwT:=⟨⟨tysOk,flOk⟩,GamOk.cons geoOf (GamOk.cons isGeoLn (GamOk.cons (.pure awake) (GamOk.cons geoTo (GamOk.cons (detR_rcon soT () (same_soT)) (GamOk.cons geoSegs (GamOk.cons geoSame (GamOk.cons sameSeg (GamOk.cons gEmpty (GamOk.cons geoValidC (GamOk.cons (.pure geoRect) (GamOk.cons gRect (GamOk.cons geoCvx (GamOk.cons geoClk GamOk.nil))))))))))))),by kernel_rfl⟩
noncomputable def lawSeTC:List SV->RdM
 | [.slcc n len, .tt, .int .i64 k, .int .i64 m]=>.read n λo0=>(match intsFrom .i64 o0.c with
  | some (m0,g)=>.ret ⟨[.slcc 0 len, .tt, .int .i64 k, .int .i64 m],[(0,⟨false,29, .ints .i64 m0 g,0⟩)], .tt,[],[],some (m0=2*len/\True)⟩
  | none=>.fail)
 | _=>.fail
theorem vc_lawSeT(len:Nat)(k m:Int)(g:Nat->Int){w9:HC}(e9:w9=⟨[.slcc 0 len, .tt, .int .i64 k, .int .i64 m],[(0,⟨false,29, .ints .i64 (2*len) g,0⟩)], .tt,[],[],some (2*len=2*len/\True)⟩){T1}(t1:T1=(32=32/\0=0/\(↑len:Int)=(↑len:Int)/\(↑(nsegs len true g):Int) =
 (↑(nsegs len true g):Int)/\(True/\len=len)/\(True/\nsegs len true g=nsegs len true g)/\((if ppBig len true=true then mn g 0 len else(0:Int))=if ppBig len true=true then mn g 0 len else(0:Int))/\((if ppBig len true=true then
 mn g 1 len else(0:Int))=if ppBig len true=true then mn g 1 len else(0:Int))/\((if ppBig len true=true then mx g 0 len else(0:Int))=if ppBig len true=true then mx g 0 len else(0:Int))/\((if ppBig len true=true then mx g 1
 len else(0:Int))=if ppBig len true=true then mx g 1 len else(0:Int))/\decide (len<2∨true=true/\len<3)=decide (len<2∨true=true/\len<3)/\geoValid len g=geoValid len g/\(ppBig len true&&(!lfZ g len len || !rtZ g len
 len))=(ppBig len true&&(!lfZ g len len || !rtZ g len len))/\(ppBig len true&&decide ((0:Int)<cwZ g len len))=(ppBig len true&&decide ((0:Int)<cwZ g len len))/\ixIf len m (IntKind.wrap .u8 k)=ixIf len m (IntKind.wrap .u8 k)/\
 True)){T2}(t2:T2=((if ppBig len true=true then mn g 0 len else(0:Int))==mn g 0 len&&((if ppBig len true=true then mn g 1 len else(0:Int))==mn g 1 len&&((if ppBig len true=true then mx g 0 len else(0:Int))==mx g 0 len &&
 ((if ppBig len true=true then mx g 1 len else(0:Int))==mx g 1 len&&true))))){T3}(t3:T3=(2*len<=2*len/\∀ (i:Nat),i<2*len->g i=g i)){T4}(t4:T4=((ppBig len true&&(!lfZ g len len || !rtZ g len len))==(!lfZ g len len ||
 !rtZ g len len))){T5}(t5:T5=((if ppBig len true=true then mn g 0 len else(0:Int))==(0:Int)&&((if ppBig len true=true then mn g 1 len else(0:Int))==(0:Int)&&((if ppBig len true=true then mx g 0 len else(0:Int))==(0 :
 Int)&&((if ppBig len true=true then mx g 1 len else(0:Int))==(0:Int)&&true))))){T6}(t6:T6=(!decide (len<2∨true=true/\len<3)==decide (len<2∨true=true/\len<3))){T7}(t7:T7=((ppBig len true&&decide ((0:Int)<cwZ g
 len len))==decide ((0:Int)<cwZ g len len))){T8}(t8:T8=(4*nsegs len true g<=4*nsegs len true g/\∀ (i:Nat),i<4*nsegs len true g->segI g len i=segI g len i)){T9}(t9:T9=(2*len=2*len/\2<=len/\PS g len)){T10}(t10:T10=(1<=
 len/\2*len<=2*len/\len<=1000000)){T11}(t11:T11=((True/\len=len)/\(True/\0=0)/\decide (len<2∨true=true/\len<3)=decide (len<2∨true=true/\len<3)/\True)){T12}(t12:T12=(True/\len=len)){T13}(t13:T13=(↑(nsegs len
 true g):Int)){T14}(t14:T14=(2*len=2*len/\len<=1000000)){T15}(t15:T15=(!decide (agree (4*nsegs len true g) (segI g len) (segI g len)))){T16}(t16:T16=(↑len:Int)){T17}(t17:T17=(!(ppBig len true&&(!lfZ g len len || !rtZ g len len))))
 {T18}(t18:T18=(!(ppBig len true&&decide ((0:Int)<cwZ g len len)))):runA GLwT 1 [] [(4,lsF len g [(1, .tt),(2, .int .i64 k),(3, .int .i64 m)] [] 2 True),(6,lsF len g [(1, .tt),(2, .int .i64 k),(3, .int .i64 m)] [] 2 (lsQ len k g)),(7,lsF len g [(1, .tt),(10, .ptr 5 0)] [lsX len true k m g,lsP len g,lsS len true g] 6 (lsQ len k g)),(8,lsF len g [(1, .tt),(10, .ptr 5 0),(11, .slcc 6 (nsegs len true g))] [lsX len true k m g,lsP len g,lsS len true g,(6,⟨false,42, .ints .i64 (4*nsegs len true g) (segI g len),0⟩)] 7 (lsQ len k g)),(10,lsF len g [(1, .tt),(10, .ptr 5 0)] [lsX len true k m g] 7 (lsQ len k g)),(11,lsF len g [(10, .ptr 5 0),(12, .bool (decide (len<2∨true=true/\len<3)))] [lsX len true k m g] 7 (lsQ len k g)),(13,lsF len g [(10, .ptr 5 0),(12, .bool (decide (len<2∨true=true/\len<3)))] [lsX len true k m g] 7 (lsQ len k g)),(15,lsF len g [(10, .ptr 5 0)] [lsX len true k m g] 7 (lsQ len k g/\ppBig len true=true))] (codeOf Try.f3) (init Try.f3.ntmps w9.args w9.heap 1) (endK GLwT.E.T Try.f3.results.toList λS v=>postP 1 w9 S v)=(
 (decide (2147483647<T16)=true->True/\True)/\(decide (2147483647<T16)=false->((2*len=2*len/\len<=2147483647)/\∃(_:Nat),True/\(T12/\True/\k=k/\m=m/\True)/\True/\T3/\True)/\∀(_:Nat),True->((2*len=2*len/\
 True)/\((!(decide (len<=40)&&geoAll (2*len) g))=true->True/\True)/\((!(decide (len<=40)&&geoAll (2*len) g))=false->(decide (k<(0:Int))=true->True/\True)/\(decide (k<(0:Int))=false->(decide ((2:Int)<k)=true->
 True/\True)/\(decide ((2:Int)<k)=false->∃(_:Nat),lsQ len k g/\(T12/\True/\k=k/\m=m/\True)/\True/\T3/\True))))/\∀(_:Nat),lsQ len k g->(T14/\(2*len=2*len/\PS g len/\(0:Int)<=k/\k<=(2:Int))/\∃(_:Nat),
 lsQ len k g/\(T12/\True/\(True/\0=0)/\True)/\True/\T3/\True/\T1/\True/\T3/\True/\T8/\True)/\∀(_:Nat),lsQ len k g->(T14/\∃(_:Nat),lsQ len k g/\(T12/\True/\(True/\0=0)/\(True/\nsegs len true g=nsegs len true g)/\
 True)/\True/\T3/\True/\T1/\True/\T3/\True/\T8/\True/\T8/\True)/\∀(_:Nat),lsQ len k g->(((T16 != T16)=true->False/\True)/\((T16 != T16)=false->((T13 != T13)=true->False/\True)/\((T13 != T13)=false->(len=len/\2*len
 = 2*len/\2*len=2*len/\len<=1000000)/\((!decide (agree (2*len) g g))=true->False/\True)/\((!decide (agree (2*len) g g))=false->(nsegs len true g=nsegs len true g/\4*nsegs len true g=4*nsegs len true g/\4*nsegs len
 true g=4*nsegs len true g/\nsegs len true g<=1000000)/\(T15=true->False/\True)/\(T15=false->∃(_:Nat),lsQ len k g/\(T12/\True/\(True/\0=0)/\True)/\True/\T3/\True/\T1/\True)))))/\∀(_:Nat),lsQ len k g->(True/\∃(_ :
 Nat),lsQ len k g/\T11/\True/\T3/\True/\T1/\True)/\∀(_:Nat),lsQ len k g->((T6=true->T6=true/\true=true/\False/\True)/\(T6=false->T6=false/\T14/\true=true/\((!geoValid len g==geoValid len g)=true->False/\True)/\
 ((!geoValid len g==geoValid len g)=false->∃(_:Nat),lsQ len k g/\T11/\True/\T3/\True/\T1/\True)))/\∀(_:Nat),lsQ len k g->((decide (len<2∨true=true/\len<3)=true->(T5=true->(T17=true->(T18=true->True/\True)/\
 (T18=false->False/\True))/\(T17=false->False/\True))/\(T5=false->False/\True))/\(decide (len<2∨true=true/\len<3)=false->∃(_:Nat),(lsQ len k g/\ppBig len true=true)/\(T12/\(True/\0=0)/\True)/\True/\T3/\True/\
 T1/\True))/\∀(_:Nat),lsQ len k g/\ppBig len true=true->(T2=true->(T4=true->(T7=true->T10/\T2=true/\T9/\T4=true/\T9/\T7=true/\true=true/\True/\True)/\(T7=false->T10/\T2=true/\T9/\T4=true/\T9/\T7=false
 /\true=true/\False/\True))/\(T4=false->T10/\T2=true/\T9/\T4=false/\true=true/\False/\True))/\(T2=false->T10/\T2=false/\true=true/\False/\True))):=by subst e9 t1 t2 t3 t4 t5 t6 t7 t8 t9 t10 t11 t12 t13 t14 t15 t16 t17 t18;kernel_rfl
theorem lawSeT:ConOk Try.prog 3 (conR lawSeTC):=by
 refine con_of_vc gLwT Try.func3 rfl (by kernel_rfl) λargs=>?_
 unfold lawSeTC;split
 ·rename_i n len k m;intro o0;try dsimp only;split
  ·rename_i m0 g hm0;intro ho;replace ho:m0=2*len/\True:=ho;obtain⟨hsz0,ho⟩:=ho;subst hsz0;refine⟨?_,_,_,(vc_lawSeT len k m g rfl rfl rfl rfl rfl rfl rfl rfl rfl rfl rfl rfl rfl rfl rfl rfl rfl rfl rfl).mpr ?_⟩
   ·refine okFlag_mk rfl ⟨?_,⟨trivial,(contR_ints hm0).1,trivial⟩⟩;simp[eqvRL,eqvR,kEq_self,sgSig,fsts,nth,sameN_self]
   ·have hh:∀ u:Bool,(!(u==u))=false:=by intro u;simp
    have ha:∀(n:Nat)(f:Nat->Int),agree n f f:=λ_ _ _ _=>rfl
    simp only[hh,ha,true_and,and_true,eq_self,implies_true,Nat.le_refl,exists_const,bne_self_eq_false,Bool.not_true,decide_true,Bool.false_eq_true,false_implies,true_implies,and_self];refine λh0=>⟨?_,λ_=>⟨λh1 h2 h3=>?_,λ_ hq=>?_⟩⟩
    ·have h0:=of_decide_eq_false h0;omega
    ·have h2:=of_decide_eq_false h2;have h3:=of_decide_eq_false h3;simp only[Bool.not_eq_false',Bool.and_eq_true,decide_eq_true_eq]at h1;exact⟨⟨h1.1,of_decide_eq_true h1.2⟩,by omega,by omega⟩
    obtain⟨hs,hk⟩:=hq;have hl:=hs.1;have hn:=nsegs_le' len true g;have hq:lsQ len k g:=⟨hs,hk⟩;refine⟨⟨by omega,⟨hs,hk⟩,hq⟩,λ_ _=>⟨⟨by omega,hq⟩,λ_ _=>⟨⟨by omega,by omega,hq⟩,λ_ _=>⟨hq,λ_ _=>⟨⟨by omega,hq⟩,λ_ _=>⟨⟨λhd=>?_,λhd=>?_⟩,λ_ hb=>?_⟩⟩⟩⟩⟩⟩
    ·have hd:=of_decide_eq_true hd
     have hb:ppBig len true=false:=by
      unfold ppBig;refine decide_eq_false λhx=>?_
      obtain⟨x1,x2⟩:=hx
      first
       | (have:=x2 rfl;omega)
       | omega
     simp[hb]
    ·have hd:=of_decide_eq_false hd;refine⟨hq,?_⟩;unfold ppBig;refine decide_eq_true ⟨by omega,λhx=>?_⟩
     first
      | omega
      | cases hx
    ·have h2:=pp_two hb.2;have e1:1<=len:=by omega
     have e2:len<=1000000:=by omega
     simp[hb.2,hs,h2,e1,e2]
  ·trivial
 ·trivial
theorem same_soF:∀ args,(soFC args).same:=by
 intro args;unfold soFC;split
 ·intro o;dsimp only;split
  ·intro i j;rfl
  ·trivial
 ·trivial
noncomputable def GLwF:Ctx:=⟨⟨tys,FL⟩,[(4,conR geoOfC),(5,conR isGeoLnC),(6,pureCon awakeF),(8,conR geoToC),(7,detR (rconR Unit ⟨()⟩ soFC) ()),(9,conR geoSegsC),(10,conR geoSameC),(11,conR sameSegC),(12,conR gEmptyC),(13,conR geoValidCC),(14,pureCon geoRectF),(15,conR gRectC),(16,conR geoCvxC),(17,conR geoClkC)]⟩
theorem gLwF:CtxOk Try.prog GLwF:=⟨⟨tysOk,flOk⟩,GamOk.cons geoOf (GamOk.cons isGeoLn (GamOk.cons (.pure awake) (GamOk.cons geoTo (GamOk.cons (detR_rcon soF () (same_soF)) (GamOk.cons geoSegs (GamOk.cons geoSame (GamOk.cons sameSeg (GamOk.cons gEmpty (GamOk.cons geoValidC (GamOk.cons (.pure geoRect) (GamOk.cons gRect (GamOk.cons geoCvx (GamOk.cons geoClk GamOk.nil))))))))))))),by kernel_rfl⟩
noncomputable def lawSeFC:List SV->RdM
 | [.slcc n len, .ff, .int .i64 k, .int .i64 m]=>.read n λo0=>(match intsFrom .i64 o0.c with
  | some (m0,g)=>.ret ⟨[.slcc 0 len, .ff, .int .i64 k, .int .i64 m],[(0,⟨false,29, .ints .i64 m0 g,0⟩)], .tt,[],[],some (m0=2*len/\True)⟩
  | none=>.fail)
 | _=>.fail
theorem vc_lawSeF(len:Nat)(k m:Int)(g:Nat->Int){w9:HC}(e9:w9=⟨[.slcc 0 len, .ff, .int .i64 k, .int .i64 m],[(0,⟨false,29, .ints .i64 (2*len) g,0⟩)], .tt,[],[],some (2*len=2*len/\True)⟩){T1}(t1:T1=(32=32/\0=0/\(↑len:Int)=(↑len:Int)/\(↑(nsegs len false g):Int) =
 (↑(nsegs len false g):Int)/\(True/\len=len)/\(True/\nsegs len false g=nsegs len false g)/\((if ppBig len false=true then mn g 0 len else(0:Int))=if ppBig len false=true then mn g 0 len else(0:Int))/\((if ppBig len false =
 true then mn g 1 len else(0:Int))=if ppBig len false=true then mn g 1 len else(0:Int))/\((if ppBig len false=true then mx g 0 len else(0:Int))=if ppBig len false=true then mx g 0 len else(0:Int))/\((if ppBig len false=true
 then mx g 1 len else(0:Int))=if ppBig len false=true then mx g 1 len else(0:Int))/\decide (len<2∨false=true/\len<3)=decide (len<2∨false=true/\len<3)/\geoValid len g=geoValid len g/\(ppBig len false&&(!lfZ g len
 len || !rtZ g len len))=(ppBig len false&&(!lfZ g len len || !rtZ g len len))/\(ppBig len false&&decide ((0:Int)<cwZ g len len))=(ppBig len false&&decide ((0:Int)<cwZ g len len))/\ixIf len m (IntKind.wrap .u8 k)=ixIf len m
 (IntKind.wrap .u8 k)/\True)){T2}(t2:T2=((if ppBig len false=true then mn g 0 len else(0:Int))==mn g 0 len&&((if ppBig len false=true then mn g 1 len else(0:Int))==mn g 1 len&&((if ppBig len false=true then mx g 0 len else(0 :
 Int))==mx g 0 len&&((if ppBig len false=true then mx g 1 len else(0:Int))==mx g 1 len&&true))))){T3}(t3:T3=(2*len<=2*len/\∀ (i:Nat),i<2*len->g i=g i)){T4}(t4:T4=((ppBig len false&&(!lfZ g len len || !rtZ g len len))
 == (!lfZ g len len || !rtZ g len len))){T5}(t5:T5=((if ppBig len false=true then mn g 0 len else(0:Int))==(0:Int)&&((if ppBig len false=true then mn g 1 len else(0:Int))==(0:Int)&&((if ppBig len false=true then mx g 0 len
 else(0:Int))==(0:Int)&&((if ppBig len false=true then mx g 1 len else(0:Int))==(0:Int)&&true))))){T6}(t6:T6=(!decide (len<2∨false=true/\len<3)==decide (len<2∨false=true/\len<3))){T7}(t7:T7=((ppBig len false
 && decide ((0:Int)<cwZ g len len))==decide ((0:Int)<cwZ g len len))){T8}(t8:T8=(4*nsegs len false g<=4*nsegs len false g/\∀ (i:Nat),i<4*nsegs len false g->segI g len i=segI g len i)){T9}(t9:T9=(2*len=2*len/\2<=len
 /\PS g len)){T10}(t10:T10=(1<=len/\2*len<=2*len/\len<=1000000)){T11}(t11:T11=((True/\len=len)/\(True/\0=0)/\decide (len<2∨false=true/\len<3)=decide (len<2∨false=true/\len<3)/\True)){T12}(t12:T12=(True/\len =
 len)){T13}(t13:T13=(↑(nsegs len false g):Int)){T14}(t14:T14=(2*len=2*len/\len<=1000000)){T15}(t15:T15=(!decide (agree (4*nsegs len false g) (segI g len) (segI g len)))){T16}(t16:T16=(↑len:Int)){T17}(t17:T17=(!(ppBig len false &&
 (!lfZ g len len || !rtZ g len len)))){T18}(t18:T18=(!(ppBig len false&&decide ((0:Int)<cwZ g len len)))):runA GLwF 1 [] [(4,lsF len g [(1, .ff),(2, .int .i64 k),(3, .int .i64 m)] [] 2 True),(6,lsF len g [(1, .ff),(2, .int .i64 k),(3, .int .i64 m)] [] 2 (lsQ len k g)),(7,lsF len g [(1, .ff),(10, .ptr 5 0)] [lsX len false k m g,lsP len g,lsS len false g] 6 (lsQ len k g)),(8,lsF len g [(1, .ff),(10, .ptr 5 0),(11, .slcc 6 (nsegs len false g))] [lsX len false k m g,lsP len g,lsS len false g,(6,⟨false,42, .ints .i64 (4*nsegs len false g) (segI g len),0⟩)] 7 (lsQ len k g)),(10,lsF len g [(1, .ff),(10, .ptr 5 0)] [lsX len false k m g] 7 (lsQ len k g)),(11,lsF len g [(10, .ptr 5 0),(12, .bool (decide (len<2∨false=true/\len<3)))] [lsX len false k m g] 7 (lsQ len k g)),(13,lsF len g [(10, .ptr 5 0),(12, .bool (decide (len<2∨false=true/\len<3)))] [lsX len false k m g] 7 (lsQ len k g)),(15,lsF len g [(10, .ptr 5 0)] [lsX len false k m g] 7 (lsQ len k g/\ppBig len false=true))] (codeOf Try.f3) (init Try.f3.ntmps w9.args w9.heap 1) (endK GLwF.E.T Try.f3.results.toList λS v=>postP 1 w9 S v)=(
 (decide (2147483647<T16)=true->True/\True)/\(decide (2147483647<T16)=false->((2*len=2*len/\len<=2147483647)/\∃(_:Nat),True/\(T12/\True/\k=k/\m=m/\True)/\True/\T3/\True)/\∀(_:Nat),True->((2*len=2*len/\
 True)/\((!(decide (len<=40)&&geoAll (2*len) g))=true->True/\True)/\((!(decide (len<=40)&&geoAll (2*len) g))=false->(decide (k<(0:Int))=true->True/\True)/\(decide (k<(0:Int))=false->(decide ((2:Int)<k)=true->
 True/\True)/\(decide ((2:Int)<k)=false->∃(_:Nat),lsQ len k g/\(T12/\True/\k=k/\m=m/\True)/\True/\T3/\True))))/\∀(_:Nat),lsQ len k g->(T14/\(2*len=2*len/\PS g len/\(0:Int)<=k/\k<=(2:Int))/\∃(_:Nat),
 lsQ len k g/\(T12/\True/\(True/\0=0)/\True)/\True/\T3/\True/\T1/\True/\T3/\True/\T8/\True)/\∀(_:Nat),lsQ len k g->(T14/\∃(_:Nat),lsQ len k g/\(T12/\True/\(True/\0=0)/\(True/\nsegs len false g=nsegs len false g)/\
 True)/\True/\T3/\True/\T1/\True/\T3/\True/\T8/\True/\T8/\True)/\∀(_:Nat),lsQ len k g->(((T16 != T16)=true->False/\True)/\((T16 != T16)=false->((T13 != T13)=true->False/\True)/\((T13 != T13)=false->(len=len/\2*len
 = 2*len/\2*len=2*len/\len<=1000000)/\((!decide (agree (2*len) g g))=true->False/\True)/\((!decide (agree (2*len) g g))=false->(nsegs len false g=nsegs len false g/\4*nsegs len false g=4*nsegs len false g/\4*nsegs
 len false g=4*nsegs len false g/\nsegs len false g<=1000000)/\(T15=true->False/\True)/\(T15=false->∃(_:Nat),lsQ len k g/\(T12/\True/\(True/\0=0)/\True)/\True/\T3/\True/\T1/\True)))))/\∀(_:Nat),lsQ len k g->(True/\
 ∃(_:Nat),lsQ len k g/\T11/\True/\T3/\True/\T1/\True)/\∀(_:Nat),lsQ len k g->((T6=true->T6=true/\true=true/\False/\True)/\(T6=false->T6=false/\T14/\true=true/\((!geoValid len g==geoValid len g)=true->False/\
 True)/\((!geoValid len g==geoValid len g)=false->∃(_:Nat),lsQ len k g/\T11/\True/\T3/\True/\T1/\True)))/\∀(_:Nat),lsQ len k g->((decide (len<2∨false=true/\len<3)=true->(T5=true->(T17=true->(T18=true->True/\
 True)/\(T18=false->False/\True))/\(T17=false->False/\True))/\(T5=false->False/\True))/\(decide (len<2∨false=true/\len<3)=false->∃(_:Nat),(lsQ len k g/\ppBig len false=true)/\(T12/\(True/\0=0)/\True)/\True/\
 T3/\True/\T1/\True))/\∀(_:Nat),lsQ len k g/\ppBig len false=true->(T2=true->(T4=true->(T7=true->T10/\T2=true/\T9/\T4=true/\T9/\T7=true/\true=true/\True/\True)/\(T7=false->T10/\T2=true/\T9/\T4=true/\T9
 /\T7=false/\true=true/\False/\True))/\(T4=false->T10/\T2=true/\T9/\T4=false/\true=true/\False/\True))/\(T2=false->T10/\T2=false/\true=true/\False/\True))):=by subst e9 t1 t2 t3 t4 t5 t6 t7 t8 t9 t10 t11 t12 t13 t14 t15 t16 t17 t18;kernel_rfl
theorem lawSeF:ConOk Try.prog 3 (conR lawSeFC):=by
 refine con_of_vc gLwF Try.func3 rfl (by kernel_rfl) λargs=>?_
 unfold lawSeFC;split
 ·rename_i n len k m;intro o0;try dsimp only;split
  ·rename_i m0 g hm0;intro ho;replace ho:m0=2*len/\True:=ho;obtain⟨hsz0,ho⟩:=ho;subst hsz0;refine⟨?_,_,_,(vc_lawSeF len k m g rfl rfl rfl rfl rfl rfl rfl rfl rfl rfl rfl rfl rfl rfl rfl rfl rfl rfl rfl).mpr ?_⟩
   ·refine okFlag_mk rfl ⟨?_,⟨trivial,(contR_ints hm0).1,trivial⟩⟩;simp[eqvRL,eqvR,kEq_self,sgSig,fsts,nth,sameN_self]
   ·have hh:∀ u:Bool,(!(u==u))=false:=by intro u;simp
    have ha:∀(n:Nat)(f:Nat->Int),agree n f f:=λ_ _ _ _=>rfl
    simp only[hh,ha,true_and,and_true,eq_self,implies_true,Nat.le_refl,exists_const,bne_self_eq_false,Bool.not_true,decide_true,Bool.false_eq_true,false_implies,true_implies,and_self,false_and,or_false];refine λh0=>⟨?_,λ_=>⟨λh1 h2 h3=>?_,λ_ hq=>?_⟩⟩
    ·have h0:=of_decide_eq_false h0;omega
    ·have h2:=of_decide_eq_false h2;have h3:=of_decide_eq_false h3;simp only[Bool.not_eq_false',Bool.and_eq_true,decide_eq_true_eq]at h1;exact⟨⟨h1.1,of_decide_eq_true h1.2⟩,by omega,by omega⟩
    obtain⟨hs,hk⟩:=hq;have hl:=hs.1;have hn:=nsegs_le' len false g;have hq:lsQ len k g:=⟨hs,hk⟩;refine⟨⟨by omega,⟨hs,hk⟩,hq⟩,λ_ _=>⟨⟨by omega,hq⟩,λ_ _=>⟨⟨by omega,by omega,hq⟩,λ_ _=>⟨hq,λ_ _=>⟨⟨by omega,hq⟩,λ_ _=>⟨⟨λhd=>?_,λhd=>?_⟩,λ_ hb=>?_⟩⟩⟩⟩⟩⟩
    ·have hd:=of_decide_eq_true hd
     have hb:ppBig len false=false:=by
      unfold ppBig;refine decide_eq_false λhx=>?_
      obtain⟨x1,x2⟩:=hx
      first
       | (have:=x2 rfl;omega)
       | omega
     simp[hb]
    ·have hd:=of_decide_eq_false hd;refine⟨hq,?_⟩;unfold ppBig;refine decide_eq_true ⟨by omega,λhx=>?_⟩
     first
      | omega
      | cases hx
    ·have h2:=pp_two hb.2;have e1:1<=len:=by omega
     have e2:len<=1000000:=by omega
     simp[hb.2,hs,h2,e1,e2]
  ·trivial
 ·trivial
end Go.Proofs.Try.Sx

namespace Go.Sx
open Go.RowKit Go.ChangeShapes Go.WideShapes Go.ChangeAt
section
variable {H:Type} {enc:TypeId×Value->H} {P:Program}
theorem trodAll_below(hl:laidOutB P=true){W W':World}(hb:Below W.heap.size W W'):∀ {ts:List TypeId} {vs:List Value} {ds:List (DataW H)} {ps:List MemPlace},
  (ts.all λt=>P.readableRec t&&decide (t<P.types.size))=true->DataW.TrodAll enc P W 0 (λ_=>true) true ts vs ds ps->(∀ x∈ps,x.block<W.heap.size)->
  DataW.TrodAll enc P W' 0 (λb=>decide (b<W.heap.size)) true ts vs ds ps
 | [],vs,ds,ps,_,h,_=>by
  cases vs <;> cases ds <;> simp_all[DataW.TrodAll]
 | t :: ts,vs,ds,ps,ht,h,hlt=>by
  obtain⟨v,vs',d,ds',p,q,rfl,rfl,rfl,h1,h2⟩:=trodAll_cons h;simp only[List.all_cons,Bool.and_eq_true,decide_eq_true_eq]at ht;exact⟨p,q,Below.trod hl ht.1.1 ht.1.2 h1 hb (λx hx=>hlt x (by simp[hx])),trodAll_below hl hb ht.2 h2 (λx hx=>hlt x (by simp[hx])),rfl⟩
theorem post_true(hl:laidOutB P=true){f:Func}{s:ChangeSpec}{apart:Bool}{W W':World}{args:Array Value}{ds:List (DataW H)}{before:List MemPlace}
  (hW:DataW.Whole enc P f.params.toList s.vars apart W args.toList ds [] before) (hb:Below W.heap.size W W') {bt:TypeId} (hbt:P.underlying bt=some .bool) (hr:f.resultTypes = #[bt])
  (hvars:s.vars=[]) (hres:(s.fn H (ds++[])).results=[.lit (.bool true)]) (hargs:(s.fn H (ds++[])).args=ds) (hvs:(s.fn H (ds++[])).vars=[])
  (hp:(f.params.toList.all λt=>P.readableRec t&&decide (t<P.types.size))=true) :
  s.post enc P f apart true false false W args (.bool true) W':=by
 have hW':=hW;obtain⟨p,q,hA,hV,hpq,_,_⟩:=hW;rw[hvars]at hV;obtain⟨_,rfl⟩:=trodVars_none hV;rw[List.append_nil]at hpq;subst hpq;refine⟨ds,[],before,[],before,[],hW',?_,?_,?_,hb.frame _,λh=>by cases h⟩
 ·rw[hres,hr];exact trodAll_mk1 (shut_bool hbt true)
 ·rw[hargs];exact trodAll_below hl hb hp hA (λx hx=>by simpa using hW'.lt x hx)
 ·rw[hvars,hvs];rfl
end
end Go.Sx

namespace Go.Sx
open Go.RowKit Go.ChangeShapes Go.WideShapes Go.ChangeAt
section
variable {P:Program} {W:World} {r:Reach} {b0:Nat}
theorem int_cell{u:TypeId}{v:Value}(hu:P.underlying u=some (.int .i64))(h:Cell.okWide P W r b0 u v):∃ n:Int,v=.int .i64 n:=by
 unfold Cell.okWide at h;rw[hu]at h;simp only at h;unfold Cell.ok at h;rw[hu]at h;cases v <;> simp only at h
 exact⟨_,by rw[h.1]⟩
end
end Go.Sx

namespace Go.Sx
open Go.RowKit Go.ChangeShapes Go.WideShapes Go.ChangeAt
section
variable {H:Type} {enc:TypeId×Value->H} {P:Program} {W:World} {r:Reach} {b0:Nat}
def IntsAt(W:World)(a:Option Addr)(cap n:Nat)(g:Nat->Int):Prop:=match a with
 | none=>n=0/\cap=0
 | some a=>(cap<=maxLen/\(a.spot=none∨n=0/\cap=0))/\∀ j,j<n->W.cell? ⟨a.block,a.off+j,none⟩=some (.int .i64 (g j))
theorem addr_add(a:Addr)(n:Nat)(h:a.spot=none):a.add n=⟨a.block,a.off+n,none⟩:=by
 obtain⟨b,o,s⟩:=a;simp only at h;subst h;exact Addr.add_lit ..
theorem open_pts{t e:TypeId}{f0 f1:Field}(ht:P.underlying t=some (.slice e))(he:P.underlying e=some (.struct #[f0,f1]))(ce:P.cellsOf e=2)(o0:f0.offset=0)(o1:f1.offset=1)
  (c0:P.cellsOf f0.type=1) (c1:P.cellsOf f1.type=1) (u0:P.underlying f0.type=some (.int .i64)) (u1:P.underlying f1.type=some (.int .i64)) {v:Value} {d:DataW H} {ps:List MemPlace}
  (hv:Value.okWide P W r b0 t v) (hd:DataW.Trod enc P W 0 (λ_=>true) true t v d ps):∃ a len cap g,v=.slice a len cap/\cap<=maxLen/\IntsAt W a cap (2*len) g:=by
 obtain⟨fuel,hf⟩:=hd
 have hok:Cell.okWide P W r b0 t v:=by
  unfold Value.okWide at hv;rw[ht]at hv;exact hv
 have hvs:v.cells.toList=[v]∨∃ cs,v=.agg cs:=by
  cases v <;> first|exact .inr ⟨_,rfl⟩|exact .inl rfl
 have hvc:v.cells.toList=[v]:=by
  rcases hvs with h|⟨cs,rfl⟩
  ·exact h
  ·unfold Cell.okWide Cell.ok at hok;rw[ht]at hok;exact hok.elim
 rw[hvc]at hf;rcases Go.Deep.open_slice ht hf with⟨hcs,_⟩|⟨a,len,cap,m,n,D,Pl,hcs,_,hl,hm,hmm,_,hx⟩
 ·simp only[List.cons.injEq,and_true]at hcs;subst hcs;exact⟨none,0,0,λ_=>0,rfl,by decide,rfl,rfl⟩
 ·simp only[List.cons.injEq,and_true]at hcs;subst hcs
  have hspot:a.spot=none:=by
   unfold Cell.okWide Cell.ok at hok;rw[ht]at hok;exact hok.2.2.2.1
  have hcells:∀ i,i<len->∃ x y:Int,W.cell? ⟨a.block,a.off+2*i,none⟩=some (.int .i64 x)/\W.cell? ⟨a.block,a.off+(2*i+1),none⟩=some (.int .i64 y):=by
   intro i hi;have hlm:len<=m:=by rw[hmm];simpa using hl
   obtain⟨cs',h1,h2⟩:=hx i (by omega);rw[ce]at h1;obtain⟨_,hlen,hcell⟩:=World.cells?_some h1;obtain⟨xs,k,_,_,_,hxl,hfs⟩:=DataW.trod_struct he h2
   match xs,hxl,cs',hlen with
   | [y0,y1],_,[v0,v1],_ =>
    have g0:=hfs 0 f0 rfl;have g1:=hfs 1 f1 rfl;simp[o0,o1,c0,c1]at g0 g1;have e0:=hcell 0 (by omega);have e1:=hcell 1 (by omega);obtain⟨x,hx',_⟩:=DataW.trod_int u0 g0;obtain⟨y,hy',_⟩:=DataW.trod_int u1 g1;simp only[List.cons.injEq,and_true]at hx' hy';subst hx' hy';refine⟨x,y,?_,?_⟩
    ·rw[<-show (a.add (i*2)).add 0=(⟨a.block,a.off+2*i,none⟩:Addr) by rw[addr_add a _ hspot];show Addr.mk _ _ _=_;congr 1;simp;omega];simpa using e0
    ·rw[<-show (a.add (i*2)).add 1=(⟨a.block,a.off+(2*i+1),none⟩:Addr) by rw[addr_add a _ hspot];show Addr.mk _ _ _=_;congr 1;simp;omega];simpa using e1
  obtain⟨q,hq⟩:∃ q:Nat->Int×Int,∀ i,i<len->W.cell? ⟨a.block,a.off+2*i,none⟩=some (.int .i64 (q i).1)/\W.cell? ⟨a.block,a.off+(2*i+1),none⟩=some (.int .i64 (q i).2):=by
   refine⟨λi=>if h:i<len then((hcells i h).choose,(hcells i h).choose_spec.choose)else(0,0),λi hi=>?_⟩;simp only[hi,dif_pos];exact(hcells i hi).choose_spec.choose_spec
  refine⟨some a,len,cap,λj=>if j % 2=0 then(q (j / 2)).1 else(q (j / 2)).2,rfl,hm,⟨hm, .inl hspot⟩,λj hj=>?_⟩;have h2:=hq (j / 2) (by omega);by_cases hp:j % 2=0
  ·have e:j=2*(j / 2):=by omega
   simp only[hp,if_pos];rw[<-h2.1];congr 2;omega
  ·simp only[hp,if_false];rw[<-h2.2];congr 2;omega
end
section
variable {P:Program} {W:World}
theorem hsat_ro{k:Nat}{H:Heap}{ρ:Rho}(hk:∀ n o,look H n=some o->n<k/\o.rw=false/\o.c.bd (·< k)/\OSat W ρ o (ρ n)):HSat W (·< W.heap.size) (·< k) H ρ W where
 os:=rfl
 tape:=rfl
 output:=rfl
 size:=Nat.le_refl _
 frlt:=λ_ h=>h
 frame:=λ_ _=>rfl
 used:=λn o h=>(hk n o h).1
 bd:=λn o h=>(hk n o h).2.2.1
 obj:=λn o h=>(hk n o h).2.2.2
 inj:=λn _ o _ _ _ h _ _ hr=>by rw[(hk n o h).2.1]at hr;cases hr
 free:=λn o _ h hr=>by rw[(hk n o h).2.1]at hr;cases hr
 rawd:=λn o _ _ _ _ h hr=>by rw[(hk n o h).2.1]at hr;cases hr
theorem HSat.toBelow{U:Nm->Prop}{H:Heap}{ρ:Rho}{W':World}(h:HSat W (·< W.heap.size) U H ρ W'):Below W.heap.size W W' :=
 ⟨h.os,h.tape,h.output,h.size,λk hk=>h.frame k hk⟩
theorem calls_of_con {f k:Nat} {C:Con} {fn:Func} (h:ConOk P f C) (hf:P.funcs[f]? = some fn) (hb:fn.body.isNone=false) (hnm:(fn.name == "runtime.NumGoroutine")=false)
  {args:List SV} {H:Heap} {ρ:Rho} {e:Eff} (hk:∀ n o,look H n=some o->n<k/\o.rw=false/\o.c.bd (·< k)/\OSat W ρ o (ρ n)) (ha:bdL (·< k) args)
  (hc:C args (look H) k=some e) (ho:okP e.obl) (hv:e.val=some .tt) :
  Calls P f (denL ρ args).toArray W λen w'=>en=.returned (.bool true)/\Below W.heap.size W w':=by
 have:=h.calls (hsat_ro hk) ha (λj _ (h:k+j<k)=>absurd h (by omega)) hc ho;rcases this with⟨_,h1⟩|⟨v',w',h1,_⟩
 ·refine h1.mono ?_;rintro en w' ⟨ρ',_,h2,v,h3,_,rfl⟩;rw[hv]at h3;simp only[Option.some.injEq]at h3;subst h3;exact⟨rfl,h2.toBelow⟩
 ·simp only[callFunc,Sem.run_bind,run_program,Result.andThen_ok,hf,hnm,hb,Bool.false_eq_true,if_false,Sem.run_pure]at h1;cases h1
end
def rhoOf(a:Option Addr)(cap:Nat):Option (Nat×Nat×Nat):=a.map λa=>(a.block,a.off,match a.spot with
 | none=>cap
 | some k=>maxLen+1+k)
theorem osat_ints{W:World}{ρ:Rho}{a:Option Addr}{cap n e:Nat}{g:Nat->Int}(h:IntsAt W a cap n g):OSat W ρ ⟨false,e, .ints .i64 n g,0⟩ (rhoOf a cap):=by
 cases a with
 | none=>exact h.1
 | some a =>
  refine⟨λi hi=>h.2 i hi,(nomatch ·),λhn=>?_⟩;have hn':0<n:=hn;rcases h.1.2 with h1|h1
  ·rw[h1];exact h.1.1
  ·omega
theorem den_slcc{ρ : Rho}{n : Nm}{a : Option Addr}{cap len m : Nat}{W : World}{g : Nat -> Int}(hρ : ρ n = rhoOf a cap)(h : IntsAt W a cap m g) : (SV.slcc n len).den ρ = .slice a len cap := by
 show Value.slice (ρ.addrC n) len (ρ.cap n) = _;unfold Rho.addrC Rho.cap;rw [hρ]
 cases a with
 | none => simp [rhoOf, h.2]
 | some a =>
   obtain ⟨b, o, s⟩ := a;obtain ⟨⟨h1, h2⟩, _⟩ := h
   cases s with
   | none => simp [rhoOf, Rho.sp_le h1, Rho.cp_le h1]
   | some k =>
     have : cap = 0 := by rcases h2 with h2 | h2; · cases h2
                          · exact h2.2
     subst this;have hk : ¬ maxLen + 1 + k <= maxLen := by omega
     simp [rhoOf, Rho.sp, Rho.cp, hk]
end Go.Sx
