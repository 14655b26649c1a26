/- Parts of a proof, in order: what each says stands at its head. No conditions. -/
import Derived.Test.YtfhkmkhcofodmaaGreatM6
import Derived.Test.YtfhkmkhcofodmaaGreatM4
import Derived.Test.YtfhkmkhcofodmaaGreatM2
namespace Go.Proofs.Tryz.Sx
open Go Go.Sx Go.Proofs Go.Fl Go.Geo
set_option maxRecDepth 100000
open Int (toNat)
open Go.IntKind (wrap)
noncomputable section
def GQ0:Ctx:=⟨⟨tys,FP⟩,[(112,B3 b0Q),(113,z4 a2P),(123,a4s (o9 Unit ⟨()⟩ b9r) ()),(124,z4 b0F)]⟩
theorem gQ0:B7 prog GQ0:=⟨⟨E1,c3d⟩,j9.cons c2V (j9.cons (.pure b0h) (j9.cons c8f (j9.cons (.pure c2i) j9.nil))),by kernel_rfl⟩
def qH(ts:List Nat)(cl cw cv:Bool)(k:Int)(x y z w n:Nat)(g:Nat->Nat)(a0 a1 a2 a3 r0 r1 r2 r3:Nat)(q:RM):A1 :=
 [(0,rwO ts q),(1,⟨false,150,a0c cl cw cv k x y z w 2 n,0⟩),(2,⟨false,100, .flts .f64 (2*n) g,0⟩),(3,⟨true,102, .cells [.flt .f64 a0, .flt .f64 a1, .flt .f64 a2, .flt .f64 a3],0⟩),(4,⟨true,102, .cells [.flt .f64 r0, .flt .f64 r1, .flt .f64 r2, .flt .f64 r3],0⟩)]
def qH5(ts:List Nat)(cl cw cv:Bool)(k:Int)(x y z w n:Nat)(g:Nat->Nat)(a0 a1 a2 a3 r0 r1 r2 r3:Nat)(Q:Q4)(q:RM):A1 :=
 [(0,rwO ts q),(1,⟨false,150,a0c cl cw cv k x y z w 2 n,0⟩),(2,⟨false,100, .flts .f64 (2*n) g,0⟩),(3,⟨true,102, .cells [.flt .f64 a0, .flt .f64 a1, .flt .f64 a2, .flt .f64 a3],0⟩),(4,⟨true,102, .cells [.flt .f64 r0, .flt .f64 r1, .flt .f64 r2, .flt .f64 r3],0⟩),(5,⟨true,102, .cells [.flt .f64 Q.x0, .flt .f64 Q.y0, .flt .f64 Q.x1, .flt .f64 Q.y1],0⟩)]
def qH6(ts:List Nat)(cl cw cv:Bool)(k:Int)(x y z w n:Nat)(g:Nat->Nat)(a0 a1 a2 a3 r0 r1 r2 r3:Nat)(R Q:Q4)(q:RM):A1 :=
 [(0,rwO ts q),(1,⟨false,150,a0c cl cw cv k x y z w 2 n,0⟩),(2,⟨false,100, .flts .f64 (2*n) g,0⟩),(3,⟨true,102, .cells [.flt .f64 a0, .flt .f64 a1, .flt .f64 a2, .flt .f64 a3],0⟩),(4,⟨true,102, .cells [.flt .f64 r0, .flt .f64 r1, .flt .f64 r2, .flt .f64 r3],0⟩),(5,⟨true,102, .cells [.flt .f64 R.x0, .flt .f64 R.y0, .flt .f64 R.x1, .flt .f64 R.y1],0⟩),(6,⟨true,102, .cells [.flt .f64 Q.x0, .flt .f64 Q.y0, .flt .f64 Q.x1, .flt .f64 Q.y1],0⟩)]
def qL(ts:List Nat)(cl cw cv:Bool)(k:Int)(x y z w n:Nat)(g:Nat->Nat)(a0 a1 a2 a3 r0 r1 r2 r3:Nat)(q:RM)(b:Nat)(i dp:Int):R5 :=
 ⟨⟨QI,λs=>⟨175,[(0, .pb 0 b 0),(1, .ptr 1 0),(4, .int .i64 i),(5, .int .i64 dp),(8, .ptr 3 0),(9, .ptr 4 0),(14, .dv 0 s.v),(15, .int .i64 s.j)],qH ts cl cw cv k x y z w n g a0 a1 a2 a3 r0 r1 r2 r3 s.q,5⟩,qlI q g n b ⟨a0,a1,a2,a3⟩ (16-dp.toNat-1),λs=>32-s.j⟩,
  λs=>[(17,⟨Nat,λt=>⟨175,[(0, .pb 0 b 0),(1, .ptr 1 0),(4, .int .i64 i),(5, .int .i64 dp),(8, .ptr 3 0),(9, .ptr 4 0),(14, .dv 0 s.v),(15, .int .i64 s.j),(16, .int .u32 t)],qH ts cl cw cv k x y z w n g a0 a1 a2 a3 r0 r1 r2 r3 s.q,5⟩,λt=>qlX q g n b ⟨a0,a1,a2,a3⟩ (16-dp.toNat-1) s t,λ_=>0⟩),
   (24,⟨Nat×RM,λt=>⟨175,[(0, .pb 0 b 0),(1, .ptr 1 0),(4, .int .i64 i),(5, .int .i64 dp),(8, .ptr 3 0),(9, .ptr 4 0),(14, .dv 0 s.v),(15, .int .i64 s.j),(16, .int .u32 (t.1:Nat)),(17, .ptr 5 0),(18, .int .i64 (cqV ⟨a0,a1,a2,a3⟩ (rcF g n t.1))),(19, .ptr 6 0)],qH6 ts cl cw cv k x y z w n g a0 a1 a2 a3 r0 r1 r2 r3 (rcF g n t.1) (qbV ⟨a0,a1,a2,a3⟩ (cqV ⟨a0,a1,a2,a3⟩ (rcF g n t.1))) t.2,7⟩,λt=>qlY q g n b ⟨a0,a1,a2,a3⟩ (16-dp.toNat-1) s t.1 t.2,λ_=>0⟩)]⟩
def a5Z(K:Nat):List SV->RRd RM
 | [.pb nn b c, .ptr s 0, .agg [.flt .f64 a0, .flt .f64 a1, .flt .f64 a2, .flt .f64 a3], .agg [.flt .f64 r0, .flt .f64 r1, .flt .f64 r2, .flt .f64 r3], .int .i64 i, .int .i64 dp]=>.read nn λo0=>(match I5 o0 with
  | some (ts,q)=>.read s λo1=>(match a3o o1.c with
   | some (cl,cw,cv,k,x,y,z,w,p,n)=>.read p λo2=>(match A9 .f64 o2.c with
    | some (m2,g)=>.ret ⟨[.pb 0 b 0, .ptr 1 0, .agg [.flt .f64 a0, .flt .f64 a1, .flt .f64 a2, .flt .f64 a3], .agg [.flt .f64 r0, .flt .f64 r1, .flt .f64 r2, .flt .f64 r3], .int .i64 i, .int .i64 dp],
      [(0,rwO ts q),(1,⟨false,150,a0c cl cw cv k x y z w 2 n,0⟩),(2,⟨false,100, .flts .f64 m2 g,0⟩)],some (0=c/\m2=2*n/\((0<=dp/\dp<=16/\2*(16-dp.toNat)+a1x q b<K)/\(0<=i/\i<n)/\qiO q g n b ⟨a0,a1,a2,a3⟩ ⟨r0,r1,r2,r3⟩ i.toNat (16-dp.toNat))),
      λj=>qiP q g n b ⟨a0,a1,a2,a3⟩ (16-dp.toNat) i.toNat j,λj=>⟨[],[], .tup [],[(0,rwO ts (j))],[],none⟩⟩
    | none=>.fail)
   | none=>.fail)
  | none=>.fail)
 | _=>.fail
def X11(H:Nat):F3:=⟨GQ0,[(117,o9 RM ⟨default⟩ (a5Z H))],[(191,0)],[],[(188,0)]⟩
theorem x11(H:Nat)(ih:z0 prog 117 (o9 RM ⟨default⟩ (a5Z H))):A7 prog (X11 H):=⟨gQ0,q8.cons ih q8.nil⟩
def c0o(K:Nat):List SV->RRd (RM)
 | [.pb nn b c, .ptr s 0, .agg [.flt .f64 a0, .flt .f64 a1, .flt .f64 a2, .flt .f64 a3], .agg [.flt .f64 r0, .flt .f64 r1, .flt .f64 r2, .flt .f64 r3], .int .i64 i, .int .i64 dp]=>.read nn λo0=>(match I5 o0 with
  | some (ts,q)=>.read s λo1=>(match a3o o1.c with
  | some (cl,cw,cv,k,x,y,z,w,p,n)=>.read p λo2=>(match A9 .f64 o2.c with
  | some (m2,g)=>.ret ⟨[.pb 0 b 0, .ptr 1 0, .agg [.flt .f64 a0, .flt .f64 a1, .flt .f64 a2, .flt .f64 a3], .agg [.flt .f64 r0, .flt .f64 r1, .flt .f64 r2, .flt .f64 r3], .int .i64 i, .int .i64 dp],[(0,rwO ts q),(1,⟨false,150,a0c cl cw cv k x y z w 2 n,0⟩),(2,⟨false,100, .flts .f64 m2 g,0⟩)],some (0=c/\m2=2*n/\((0<=dp/\dp<=16/\2*(16-dp.toNat)+a1x q b<K)/\(0<=i/\i<n)/\qiO q g n b ⟨a0,a1,a2,a3⟩ ⟨r0,r1,r2,r3⟩ i.toNat (16-dp.toNat))),λj=>qiP q g n b ⟨a0,a1,a2,a3⟩ (16-dp.toNat) i.toNat j,λj=>⟨[],[], .tup [],[(0,rwO ts (j))],[],none⟩⟩
  | none=>.fail)
  | none=>.fail)
  | none=>.fail)
 | _=>.fail
theorem b9M(R:Option Ob->SV->Prop)(H:Nat)(ts:List Nat)(q:RM)(b:Nat)(cl cw cv:Bool)(k:Int)(x y z w:Nat)(_:Nm)(n:Nat)(a0 a1 a2 a3 r0 r1 r2 r3:Nat)(i dp:Int)(g:Nat->Nat){T1}(t1:T1=λ(j:Nat)=>(Q4.mk (I2 (g (2*toNat (wrap .i64 (↑j:Int)))) (g (2*nx n (toNat (wrap .i64 (↑j:Int)))))) (I2 (g (2*toNat (wrap .i64 (↑j:Int))+1)) (g (2*nx n (toNat (wrap .i64
 (↑j:Int)))+1))) (H8 (g (2*toNat (wrap .i64 (↑j:Int)))) (g (2*nx n (toNat (wrap .i64 (↑j:Int)))))) (H8 (g (2*toNat (wrap .i64 (↑j:Int))+1)) (g (2*nx n (toNat (wrap .i64 (↑j :
 Int)))+1))))){T2}(t2:T2=(Q4.mk a0 a1 a2 a3)){T3}(t3:T3=(cqV T2 (Q4.mk r0 r1 r2 r3))){T4}(t4:T4=(cl=cl/\cw=cw/\cv=cv/\k=k/\True/\x=x/\y=y/\z=z/\w=w/\(True/\n=n)/\True)){T5}(t5:T5=λ(j:Nat) (pq:Nat×RM)=>(102=102/\
 0=0/\I2 (g (2*toNat (wrap .i64 (↑j:Int)))) (g (2*nx n (toNat (wrap .i64 (↑j:Int)))))=I2 (g (2*pq.1)) (g (2*nx n (pq.1)))/\I2 (g (2*toNat (wrap .i64 (↑j:Int))+1)) (g (2*nx n
 (toNat (wrap .i64 (↑j:Int)))+1))=I2 (g (2*pq.1+1)) (g (2*nx n (pq.1)+1))/\H8 (g (2*toNat (wrap .i64 (↑j:Int)))) (g (2*nx n (toNat (wrap .i64 (↑j:Int)))))=H8 (g (2*pq.1)) (g (2*nx
 n (pq.1)))/\H8 (g (2*toNat (wrap .i64 (↑j:Int))+1)) (g (2*nx n (toNat (wrap .i64 (↑j:Int)))+1))=H8 (g (2*pq.1+1)) (g (2*nx n (pq.1)+1))/\True)){T6}(t6:T6=(RM.mk (RM.D q) (RM.S q) (RM.F
 q))){T7}(t7:T7=(102=102/\0=0/\a0=a0/\a1=a1/\a2=a2/\a3=a3/\True)){T8}(t8:T8=(102=102/\0=0/\r0=r0/\r1=r1/\r2=r2/\r3=r3/\True)){T9}(t9:T9=λ(i_1:QI)=>(RM.mk (RM.D (QI.q i_1)) (RM.S (QI.q i_1)) (RM.F (QI.q
 i_1)))){T10}(t10:T10=(2*n<=2*n/\∀ (i:Nat),i<2*n->g i=g i)){T11}(t11:T11=(True/\0=0)){T12}(t12:T12=λ(i_1:ApI)=>(P1 (RM.D q) q.2 q.3 1 (slB (q.3 b 1)) (slC (q.3 b 1)) (slL (q.3 b 1)) (slK (q.3 b 1)) 1 [Value.int IntKind.u32
 (wrap IntKind.u32 i)] i_1->(i_1.4 b/\2<=i_1.5 b)/\R (Option.some (Ob.mk true 0 (a9.raw ts (ApI.D i_1) i_1.5 (j0 i_1.6 b 1 (Value.slice (Option.some (Addr.mk i_1.1 i_1.2 Option.none)) (slL (q.3 b 1)+1) i_1.3))) 0)) (SV.tup
 []))){T13}(t13:T13=(16-toNat (wrap .i64 (dp+(1:Int))))){T14}(t14:T14=(Q4.mk r0 r1 r2 r3)){T15}(t15:T15=(16-toNat dp-1)){T16}(t16:T16=λ(j:Nat×RM)=>(cqV T2 (rcF g n (j.1)))){T17}(t17:T17=λ(i_1:QI)=>(RM.mk (RM.D (QI.q
 i_1)) (QI.q i_1).2 (j0 (j0 (QI.q i_1).3 b 1 (QI.v i_1)) b 0 (Value.bool true)))){T18}(t18:T18=(True/\b=b/\0=0)){T19}(t19:T19=λ(i_1:QI)=>(↑(QI.j i_1):Int)){T20}(t20:T20=(2+toNat T3*1)){T21}(t21:T21=(102=102/\0=0/\qb0 T2
 T3=qb0 T2 T3/\qb1 T2 T3=qb1 T2 T3/\qb2 T2 T3=qb2 T2 T3/\qb3 T2 T3=qb3 T2 T3/\True)){T22}(t22:T22=(isSlN (q.3 b 1)/\appO (RM.D q) q.2 1 4 (slB (q.3 b 1)) (slC (q.3 b 1)) (slL (q.3 b 1)) (slK (q.3 b 1)) 1)){T23}(t23:T23=((0:Int)<=cqV
 T2 T14/\cqV T2 T14<(4:Int))){T24}(t24:T24=λ(j:Nat)=>(cqV T2 (T1 j))){T25}(t25:T25=(T18/\T11/\i=i/\dp=dp/\T11/\cqV T2 T14=cqV T2 T14/\T11/\True)){T26}(t26:T26=λ(i_1:QI)=>((QI.q i_1).3 b 1)){T27}(t27:T27=λ(j:Nat×
 RM)=>((j.2).3 b (2+toNat (T16 j)*1))){T28}(t28:T28=(midOk a0 a2/\midOk a1 a3)){T29}(t29:T29=(T6.3 b 1)){T30}(t30:T30=(Q4.mk (qb0 T2 T3) (qb1 T2 T3) (qb2 T2 T3) (qb3 T2 T3))){T31}(t31:T31=λ(j:Nat×RM)=>(Q4.mk (qb0 T2 (T16 j)) (qb1 T2
 (T16 j)) (qb2 T2 (T16 j)) (qb3 T2 (T16 j)))){T32}(t32:T32=λ(pq:Nat×RM)=>(cqV T2 (rcF g n (pq.1)))){T33}(t33:T33=λ(i_1:QI)=>((QI.q i_1).3 (slB (T26 i_1)) (slC (T26 i_1)+toNat (T19 i_1)*1))){T34}(t34:T34=λ(j:Nat)=>(2+toNat
 (T24 j)*1)):K8 (X11 H) 3 [(14,qL ts cl cw cv k x y z w n g a0 a1 a2 a3 r0 r1 r2 r3 q b i dp)] [(10,⟨RM,λq'=>⟨175,[(0, .pb 0 b 0),(1, .ptr 1 0),(4, .int .i64 i),(5, .int .i64 dp),(9, .ptr 4 0),(12, .int .i64 (cqV ⟨a0,a1,a2,a3⟩ ⟨r0,r1,r2,r3⟩)),(13, .ptr 5 0)],qH5 ts cl cw cv k x y z w n g a0 a1 a2 a3 r0 r1 r2 r3 (qbV ⟨a0,a1,a2,a3⟩ (cqV ⟨a0,a1,a2,a3⟩ ⟨r0,r1,r2,r3⟩)) q',6⟩,λq'=>qcP q g n b ⟨a0,a1,a2,a3⟩ (16-dp.toNat-1) (cqV ⟨a0,a1,a2,a3⟩ ⟨r0,r1,r2,r3⟩).toNat q',λ_=>0⟩)] (p9 f117) (A6 f117.ntmps [.pb 0 b 0, .ptr 1 0, .agg [.flt .f64 a0, .flt .f64 a1, .flt .f64 a2, .flt .f64 a3], .agg [.flt .f64 r0, .flt .f64 r1, .flt .f64 r2, .flt .f64 r3], .int .i64 i, .int .i64 dp] [(0,rwO ts q),(1,⟨false,150,a0c cl cw cv k x y z w 2 n,0⟩),(2,⟨false,100, .flts .f64 (2*n) g,0⟩)] 3) (A8 (X11 H).G.E.T f117.results.toList λS v=>R (Go.Sx.look S.H 0) v)=(
 ((dp==(16:Int))=true->(q.1 b/\1<q.2 b)/\∀(i_1:ApI),T22/\(T12 i_1))/\((dp==(16:Int))=false->(q.1 b/\0<q.2 b/\b1c (q.3 b 0))/\(Z8 (q.3 b 0)=true->T28/\((cqV T2 T14==(-1:Int))=true->(q.1 b/\1<T6.2 b)/\∀
 (i_1:ApI),(isSlN T29/\appO (RM.D T6) q.2 1 4 (slB T29) (slC T29) (slL T29) (slK T29) 1)/\(P1 (RM.D T6) q.2 q.3 1 (slB T29) (slC T29) (slL T29) (slK T29) 1 [Value.int IntKind.u32 (wrap IntKind.u32 i)] i_1->(i_1.4 b/\2<=i_1.5 b)/\R
 (Option.some (Ob.mk true 0 (a9.raw ts (ApI.D i_1) i_1.5 (j0 i_1.6 b 1 (Value.slice (Option.some (Addr.mk i_1.1 i_1.2 Option.none)) (slL T29+1) i_1.3))) 0)) (SV.tup [])))/\((cqV T2 T14==(-1:Int))=false->(T28/\(0:Int)<=cqV T2 T14/\
 cqV T2 T14<(4:Int))/\(T23/\(q.1 b/\2+toNat T3*1<T6.2 b)/\a3l (T6.3 b T20)/\(R0 (T6.3 b T20)=true->∀(i_1:Nat),¬q.1 i_1->T23/\((b=i_1∨q.1 b)/\2+toNat T3*1+1<=K2 (RM.D T6) q.2 i_1 6 b)/\∃(pq:RM),
 qcP q g n b T2 T15 (toNat T3) pq/\T25/\True/\(0=0/\0=0/\ts=ts/\j0 (I4 (RM.D T6) q.3 i_1 (Go.Sx.rz tys 191)) b T20 (Value.pointer (Option.some (Addr.mk i_1 0 Option.none)))=pq.3/\K2 (RM.D T6) q.2 i_1 6=pq.2/\K5 (RM.D
 T6) i_1=RM.D pq)/\True/\T4/\True/\T10/\True/\T7/\True/\T8/\True/\T21/\True)/\(R0 (T6.3 b T20)=false->∃(pq:RM),qcP q g n b T2 T15 (toNat T3) pq/\T25/\True/\(0=0/\0=0/\ts=ts/\q.3=pq.3/\q.2=pq.2/\RM.D T6 =
 RM.D pq)/\True/\T4/\True/\T10/\True/\T7/\True/\T8/\True/\T21/\True))/\∀(j:RM),qcP q g n b T2 T15 (toNat T3) j->∀(i_1:RM),T23/\(j.1 b/\2+toNat T3*1<j.2 b)/\((0=ptC (j.3 b T20)/\2*n=2*n/\((0:Int)<=
 wrap .i64 (dp+(1:Int))/\wrap .i64 (dp+(1:Int))<=(16:Int)/\2*T13+a1x (RM.mk (RM.D j) j.2 j.3) (ptB (j.3 b T20))<H)/\((0:Int)<=i/\i<(↑n:Int))/\qiO (RM.mk (RM.D j) j.2 j.3) g n (ptB (j.3 b T20)) T30 T14
 (toNat i) T13)/\a1d (j.3 b T20))/\true=true/\(qiP (RM.mk (RM.D j) j.2 j.3) g n (ptB (j.3 b T20)) T30 T13 (toNat i) i_1->R (Option.some (Ob.mk true 0 (a9.raw ts (RM.D i_1) i_1.2 i_1.3) 0)) (SV.tup []))))/\(Z8 (q.3 b 0)=false->
 (q.1 b/\1<q.2 b)/\isSlN (q.3 b 1)/\(((↑(slL (q.3 b 1)):Int)==(32:Int))=true->(∃(pq:QI),qlI q g n b T2 T15 pq/\(T18/\T11/\i=i/\dp=dp/\T11/\T11/\QI.v pq=Value.slice Option.none 0 0/\0=(↑(QI.j pq):Int)/\True)/\True
 /\(0=0/\0=0/\ts=ts/\q.3=(QI.q pq).3/\q.2=(QI.q pq).2/\RM.D q=RM.D (QI.q pq))/\True/\T4/\True/\T10/\True/\T7/\True/\T8/\True)/\∀(i_1:QI),qlI q g n b T2 T15 i_1->((QI.q i_1).1 b/\1<(QI.q i_1).2 b)/\isSlN (T26 i_1)/\
 (decide ((T19 i_1)<(↑(slL (T26 i_1)):Int))=true->(((QI.q i_1).1 b/\1<(QI.q i_1).2 b)/\(a5G (T26 i_1)/\0<=(T19 i_1)/\(T19 i_1)<(↑(slL (T26 i_1)):Int))/\((QI.q i_1).1 (slB (T26 i_1))/\slC (T26 i_1)+toNat (T19 i_1)*1<(QI.q
 i_1).2 (slB (T26 i_1))/\B9 IntKind.u32 (T33 i_1))/\∃(j:Nat),qlX q g n b T2 T15 i_1 j/\(T18/\T11/\i=i/\dp=dp/\T11/\T11/\(True/\QI.v i_1=QI.v i_1)/\(T19 i_1)=(T19 i_1)/\p7 (T33 i_1)=(↑j:Int)/\True)/\True/\(0=0/\0
 = 0/\ts=ts/\(QI.q i_1).3=(QI.q i_1).3/\(QI.q i_1).2=(QI.q i_1).2/\RM.D (QI.q i_1)=RM.D (QI.q i_1))/\True/\T4/\True/\T10/\True/\T7/\True/\T8/\True)/\∀(j:Nat),qlX q g n b T2 T15 i_1 j->(2*n=2*n/\(0:Int)<=
 wrap .i64 (↑j:Int)/\wrap .i64 (↑j:Int)<(↑n:Int)/\n<=1000000)/\T28/\((cqV T2 (T1 j)==(-1:Int))=true->∀(i_2:ApI),(isSlN (QI.v i_1)/\appO (RM.D (T9 i_1)) (QI.q i_1).2 1 4 (slB (QI.v i_1)) (slC (QI.v i_1)) (slL
 (QI.v i_1)) (slK (QI.v i_1)) 1)/\(P1 (RM.D (T9 i_1)) (QI.q i_1).2 (QI.q i_1).3 1 (slB (QI.v i_1)) (slC (QI.v i_1)) (slL (QI.v i_1)) (slK (QI.v i_1)) 1 [Value.int IntKind.u32 (↑j:Int)] i_2->∃(pq:QI),qlI q g n b T2 T15 pq/\32-QI.j pq<32
 - QI.j i_1/\(T18/\T11/\i=i/\dp=dp/\T11/\T11/\(True/\QI.v pq=Value.slice (Option.some (Addr.mk i_2.1 i_2.2 Option.none)) (slL (QI.v i_1)+1) i_2.3)/\wrap .i64 ((T19 i_1)+1)=(↑(QI.j pq):Int)/\True)/\True/\(0=0/\0=0
 /\ts=ts/\i_2.6=(QI.q pq).3/\i_2.5=(QI.q pq).2/\ApI.D i_2=RM.D (QI.q pq))/\True/\T4/\True/\T10/\True/\T7/\True/\T8/\True))/\((cqV T2 (T1 j)==(-1:Int))=false->(T28/\(0:Int)<=cqV T2 (T1 j)/\cqV T2 (T1 j)<(4:Int))/\
 (((0:Int)<=cqV T2 (T1 j)/\cqV T2 (T1 j)<(4:Int))/\((QI.q i_1).1 b/\2+toNat (T24 j)*1<(T9 i_1).2 b)/\a3l ((T9 i_1).3 b (T34 j))/\(R0 ((T9 i_1).3 b (T34 j))=true->∀(i_2:Nat),¬(QI.q i_1).1 i_2->((0:Int)<=cqV T2 (T1
 j)/\cqV T2 (T1 j)<(4:Int))/\((b=i_2∨(QI.q i_1).1 b)/\2+toNat (T24 j)*1+1<=K2 (RM.D (T9 i_1)) (QI.q i_1).2 i_2 6 b)/\∃(pq:Nat×RM),qlY q g n b T2 T15 i_1 (pq.1) (pq.2)/\(T18/\T11/\i=i/\dp=dp/\T11/\T11/\(True/\
 QI.v i_1=QI.v i_1)/\(T19 i_1)=(T19 i_1)/\(↑j:Int)=(↑(pq.1):Int)/\T11/\cqV T2 (T1 j)=cqV T2 (rcF g n (Prod.fst pq))/\T11/\True)/\True/\(0=0/\0=0/\ts=ts/\j0 (I4 (RM.D (T9 i_1)) (QI.q i_1).3 i_2 (Go.Sx.rz tys 191)) b
 (T34 j) (Value.pointer (Option.some (Addr.mk i_2 0 Option.none)))=(pq.2).3/\K2 (RM.D (T9 i_1)) (QI.q i_1).2 i_2 6=(pq.2).2/\K5 (RM.D (T9 i_1)) i_2=RM.D (pq.2))/\True/\T4/\True/\T10/\True/\T7/\True/\T8/\True/\(T5 j pq)/\True/\
 (102=102/\0=0/\qb0 T2 (T24 j)=qb0 T2 (T32 pq)/\qb1 T2 (T24 j)=qb1 T2 (cqV T2 (rcF g n (Prod.fst pq)))/\qb2 T2 (T24 j)=qb2 T2 (T32 pq)/\qb3 T2 (T24 j)=qb3 T2 (T32 pq)/\True)/\True)/\(R0 ((T9 i_1).3 b (T34 j))=false->∃(pq :
 Nat×RM),qlY q g n b T2 T15 i_1 (pq.1) (pq.2)/\(T18/\T11/\i=i/\dp=dp/\T11/\T11/\(True/\QI.v i_1=QI.v i_1)/\(T19 i_1)=(T19 i_1)/\(↑j:Int)=(↑(pq.1):Int)/\T11/\cqV T2 (T1 j)=cqV T2 (rcF g n (pq.1))/\T11/\True)/\True/\(0
 = 0/\0=0/\ts=ts/\(QI.q i_1).3=(pq.2).3/\(QI.q i_1).2=(pq.2).2/\RM.D (T9 i_1)=RM.D (pq.2))/\True/\T4/\True/\T10/\True/\T7/\True/\T8/\True/\(T5 j pq)/\True/\(102=102/\0=0/\qb0 T2 (T24 j)=qb0 T2 (cqV T2 (rcF g n
 (Prod.fst pq)))/\qb1 T2 (T24 j)=qb1 T2 (T32 pq)/\qb2 T2 (T24 j)=qb2 T2 (T32 pq)/\qb3 T2 (T24 j)=qb3 T2 (cqV T2 (rcF g n (Prod.fst pq)))/\True)/\True))/\∀(j:Nat×RM),qlY q g n b T2 T15 i_1 (j.1) (j.2)->∀(i_2:RM),((0:Int)<=cqV
 T2 (rcF g n (j.1))/\cqV T2 (rcF g n (j.1))<(4:Int))/\((j.2).1 b/\2+toNat (T16 j)*1<(j.2).2 b)/\((0=ptC (T27 j)/\2*n=2*n/\((0:Int)<=wrap .i64 (dp+(1:Int))/\wrap .i64 (dp+(1:Int))<=(16:Int)/\2
 * T13+a1x (RM.mk (RM.D (j.2)) (j.2).2 (j.2).3) (ptB (T27 j))<H)/\((0:Int)<=wrap .i64 (↑(j.1):Int)/\wrap .i64 (↑(j.1):Int)<(↑n:Int))/\qiO (RM.mk (RM.D (j.2)) (j.2).2 (j.2).3) g n (ptB (T27 j)) (T31 j) (Q4.mk (I2 (g
 (2*j.1)) (g (2*nx n (j.1)))) (I2 (g (2*j.1+1)) (g (2*nx n (j.1)+1))) (H8 (g (2*j.1)) (g (2*nx n (j.1)))) (H8 (g (2*j.1+1)) (g (2*nx n (j.1)+1)))) (toNat (wrap .i64 (↑(j.1):Int))) T13)/\a1d (T27 j))/\true
 = true/\(qiP (RM.mk (RM.D (j.2)) (j.2).2 (j.2).3) g n (ptB ((j.2).3 b (2+toNat (cqV T2 (rcF g n (Prod.fst j)))*1))) (T31 j) T13 (toNat (wrap .i64 (↑(j.1):Int))) i_2->∃(pq:QI),qlI q g n b T2 T15 pq/\32-QI.j pq<32 -
 QI.j i_1/\(T18/\T11/\i=i/\dp=dp/\T11/\T11/\(True/\QI.v i_1=QI.v pq)/\wrap .i64 ((T19 i_1)+1)=(↑(QI.j pq):Int)/\True)/\True/\(0=0/\0=0/\ts=ts/\i_2.3=(QI.q pq).3/\i_2.2=(QI.q pq).2/\RM.D i_2=RM.D (QI.q
 pq))/\True/\T4/\True/\T10/\True/\T7/\True/\T8/\True)))/\(decide ((T19 i_1)<(↑(slL (T26 i_1)):Int))=false->(((QI.q i_1).1 b/\2<=(QI.q i_1).2 b)/\Value.oneCell' (QI.v i_1)=true)/\((QI.q i_1).1 b/\1<=(QI.q i_1).2 b)/\∀(i_2 :
 RM),(0=0/\2*n=2*n/\((0:Int)<=dp/\dp<=(16:Int)/\2*(16-toNat dp)+a1x (T17 i_1) b<H)/\((0:Int)<=i/\i<(↑n:Int))/\qiO (T17 i_1) g n b T2 T14 (toNat i) (16-toNat dp))/\(qiP (T17 i_1) g n b T2 (16 -
 toNat dp) (toNat i) i_2->R (Option.some (Ob.mk true 0 (a9.raw ts (RM.D i_2) i_2.2 i_2.3) 0)) (SV.tup []))))/\(((↑(slL (q.3 b 1)):Int)==(32:Int))=false->(q.1 b/\1<q.2 b)/\∀(i_1:ApI),T22/\(T12 i_1))))):=by subst t1 t2 t3 t4 t5 t6 t7 t8 t9 t10 t11 t12 t13 t14 t15 t16 t17 t18 t19 t20 t21 t22 t23 t24 t25 t26 t27 t28 t29 t30 t31 t32 t33 t34;kernel_rfl
theorem c8u(H:Nat)(ih:z0 prog 117 (o9 RM ⟨default⟩ (a5Z H))):z0 prog 117 (o9 (RM) ⟨default⟩ (c0o (H+1))):=by
 refine D7 (x11 H ih) func117 rfl (by kernel_rfl) λargs=>?_
 unfold c0o;split;rotate_left;trivial;rename_i nn b c s a0 a1 a2 a3 r0 r1 r2 r3 i dp;intro o0;try dsimp only
 split;rotate_left;trivial;rename_i ts q hm0;intro o1;try dsimp only
 split;rotate_left;trivial;rename_i cl cw cv k x y z w p n hm1;intro o2;try dsimp only
 split;rotate_left;trivial;rename_i m2 g hm2;intro(ho:0=c/\m2=2*n/\((0<=dp/\dp<=16/\2*(16-dp.toNat)+a1x q b<(H+1))/\(0<=i/\i<n)/\qiO q g n b ⟨a0,a1,a2,a3⟩ ⟨r0,r1,r2,r3⟩ i.toNat (16-dp.toNat)));obtain⟨heq0,hsz2,ho⟩:=ho;subst heq0 hsz2
 refine⟨?_,Nat.succ_pos _,ts,λ(j:RM)=>j,λ(j:RM)=>.tup [],λ_=>rfl,?_,_,_,(b9M (I7 3 ts (λ(j:RM)=>qiP q g n b ⟨a0,a1,a2,a3⟩ (16-dp.toNat) i.toNat j) (λ(j:RM)=>j) (λ(j:RM)=>.tup [])) H ts q b cl cw cv k x y z w p n a0 a1 a2 a3 r0 r1 r2 r3 i dp g rfl rfl rfl rfl rfl rfl rfl rfl rfl rfl rfl rfl rfl rfl rfl rfl rfl rfl rfl rfl rfl rfl rfl rfl rfl rfl rfl rfl rfl rfl rfl rfl rfl rfl).mpr ?_⟩
 ·refine j8 rfl ⟨λ_=>rfl,?_,⟨trivial,B8 hm0,⟨trivial,R6 hm1 g9,⟨trivial,(C6 hm2).1,trivial⟩⟩⟩⟩;simp[q9,z5,A0,C0,z8,z3,nth,g9]
 ·intro j _;rfl
 ·obtain⟨⟨dp0,dp16,hK⟩,⟨i0,i1⟩,⟨hd16,hQ,hn⟩,hr,hit,k0,hk,hl⟩:=ho;obtain⟨t,rfl⟩:∃ t:Nat,i=(t:Nat):=⟨i.toNat,by omega⟩;obtain⟨d,rfl,hd⟩:∃ d:Nat,dp=((16-d:Nat):Int)/\d<=16:=⟨16-dp.toNat,by omega,by omega⟩;have hdd:16-(16-d)=d:=by omega
  simp only[hdd,tN9]at hK hd16 hQ hr hit hk;obtain⟨c1,c2,c3,c4,c5⟩:=hk.cells;have hu:wrap .u32 (t:Int)=t:=by show (t:Int) % 4294967296=_;omega
  simp only[true_and,and_true,eq_self,tN9,Nat.mul_one,decide_eq_true_eq,decide_eq_false_iff_not,implies_true];simp only[hdd,hu,hr];refine⟨λh=>?_,λh=>⟨⟨c1,by omega,c3⟩,λhs=>?_,λhs=>?_⟩⟩
  ·have h0:d=0:=by
    have:(((16-d:Nat):Int))=16:=by simpa using h
    omega
   subst h0;refine⟨⟨c1,by omega⟩,λj=>⟨⟨c4,c5⟩,λhp=>?_⟩⟩;obtain⟨e1,e2⟩:=c3v hk hit hp;exact⟨e1,_,e2,rfl,trivial⟩
  ·have h0:d≠0:=λe=>by rw[e]at h;exact absurd h (by decide)
   obtain⟨e,rfl⟩:∃ e,d=e+1:=⟨d-1,by omega⟩;have hmid:midOk a0 a2/\midOk a1 a3:=hQ.midOk (by omega);generalize (⟨a0,a1,a2,a3⟩:Q4)=A at *;refine⟨hmid,λhc=>⟨⟨c1,by omega⟩,λj=>⟨⟨c4,c5⟩,λhp=>?_⟩⟩,λhc=>?_⟩
   ·obtain⟨e1,e2⟩:=b6P hk (.inl hs) hit hp;exact⟨e1,_,e2,rfl,trivial⟩
   obtain⟨⟨hc0,hc4⟩,hcI⟩:(0<=cqV A (rcF g n t)/\cqV A (rcF g n t)<4)/\inQ (qbV A (cqV A (rcF g n t))) (rcF g n t):=by
    rcases b3R (by omega) hQ hit.2.1 hit.2.2 with h1|h1
    ·rw[h1]at hc;exact absurd hc (by decide)
    ·exact h1
   refine⟨⟨hmid,hc0,hc4⟩,⟨⟨hc0,hc4⟩,⟨c1,by omega⟩,hk.kidc (by omega),λhn z hz=>?_,λhn=>⟨q,c2b hk hs (by omega) hn,⟨rfl,rfl,rfl⟩,Nat.le_refl _⟩⟩,?_⟩
   ·simp only[Q7 hz,Q2 hz];refine⟨⟨hc0,hc4⟩,⟨.inr c1,?_⟩,_,c2U hk hs (by omega) hn hz,⟨rfl,rfl,rfl⟩,Nat.le_refl _⟩;have:b≠z:=λe=>hz (e▸c1)
    simp only[D8];rw[if_neg this];omega
   rintro q' ⟨k1,v,E,ks,y,hq⟩;obtain rfl:k1=k0:=hk.uniq hq.hk;obtain⟨⟨d1,d2⟩,d3,d4,d5⟩:=b6x hq hl;have hw:IntKind.i64.wrap (((16-(e+1):Nat):Int)+1)=((16-e:Nat):Int):=by rw[j5 (by omega) (by omega)];omega
   have hce:(((cqV A (rcF g n t)).toNat:Nat):Int)=cqV A (rcF g n t):=by omega
   have hee:16-(16-e)=e:=by omega
   rw[hce]at d4;have hsp:=a9g q' y.b;intro q'';simp only[hw,d3,hee,tN9,ptB,ptC];refine⟨⟨hc0,hc4⟩,⟨d1,by omega⟩,⟨⟨trivial,⟨by omega,by omega,?_⟩,⟨by omega,by omega⟩,⟨⟨by omega,hQ.sub (by omega) _,hn⟩,rfl,⟨hit.1,hit.2.1,hcI⟩,y,d4,d5⟩⟩,rfl⟩,λhP=>⟨_,c2p hq hl (by rw[hce];exact hP),rfl,trivial⟩⟩;show 2*e+a1x q' y.b<H;omega
  ·have h0:d≠0:=λe=>by rw[e]at h;exact absurd h (by decide)
   obtain⟨e,rfl⟩:∃ e,d=e+1:=⟨d-1,by omega⟩;have hmid:midOk a0 a2/\midOk a1 a3:=hQ.midOk (by omega);have hrc:∀ j,Q4.mk (I2 (g (2*j)) (g (2*nx n j))) (I2 (g (2*j+1)) (g (2*nx n j+1))) (H8 (g (2*j)) (g (2*nx n j))) (H8 (g (2*j+1)) (g (2*nx n j+1)))=rcF g n j:=λ_=>rfl
   generalize (⟨a0,a1,a2,a3⟩:Q4)=A at *;refine⟨⟨c1,by omega⟩,c4,λhl2=>⟨⟨_,b9s hk hs ?_,⟨rfl,rfl⟩,⟨rfl,rfl,rfl⟩,Nat.le_refl _⟩,?_⟩,λhl2=>⟨⟨c1,by omega⟩,λj=>⟨⟨c4,c5⟩,λhp=>?_⟩⟩⟩
   ·have:((slL (q.F b 1):Nat):Int)=32:=by simpa using hl2
    omega
   ·rintro⟨sj,sv,sq⟩ ⟨k1,v,E,N,ks,hq,hne⟩;obtain rfl:k1=k0:=hk.uniq hq.hk;obtain⟨⟨b1,b2⟩,b3,b4,b5⟩:=b1l hq;dsimp only at b1 b2 b3;simp only[b3,b5];have hw1:IntKind.i64.wrap (((16-(e+1):Nat):Int)+1)=((16-e:Nat):Int):=by rw[j5 (by omega) (by omega)];omega
    have hee:16-(16-e)=e:=by omega
    refine⟨⟨b1,by omega⟩,b4,λhj=>⟨?_,?_⟩,λhj=>?_⟩
    ·obtain⟨x,x1,x2,x3,x4⟩:=b9q hq (by show sj<32;omega);dsimp only at x1 x2 x3 x4;exact⟨⟨b1,by omega⟩,⟨x2,by omega,by omega⟩,⟨x3.1,x3.2,by rw[x4];rfl⟩,x,⟨k1,v,E,N,ks,hq,x1,hne⟩,by rw[x4];rfl,Nat.le_refl _⟩
    ·rintro j ⟨k2,v2,E2,N2,ks2,hq2,hx,hne2⟩;obtain rfl:k2=k1:=hk.uniq hq2.hk;obtain⟨o1,o2⟩:=b3P hq2 hx;have hjn:j<n:=o1.1;have hw:IntKind.i64.wrap (j:Int)=j:=j5 (by omega) (by omega);have hcs:=b3R (by omega) hQ o1.2.1 o1.2.2;have hlen:=a9h hq2;have hNn:=hq2.w.n;dsimp only at hNn o2 hx;have hws:IntKind.i64.wrap ((sj:Int)+1)=((sj+1:Nat):Int):=by rw[j5 (by omega) (by omega)];omega
     simp only[hw,tN9,hrc,hws];refine⟨⟨by omega,by omega,hn⟩,hmid,λhc=>λi=>⟨hq2.w.appO (by omega),λhp=>⟨_,b9d hq2 hne2 hx hp,by show 32-(sj+1)<32-sj;omega,⟨rfl,rfl⟩,⟨rfl,rfl,rfl⟩,Nat.le_refl _⟩⟩,λhc=>?_⟩
     obtain⟨⟨hc0,hc4⟩,hcI⟩:(0<=cqV A (rcF g n j)/\cqV A (rcF g n j)<4)/\inQ (qbV A (cqV A (rcF g n j))) (rcF g n j):=by
      rcases hcs with h1|h1
      ·rw[h1]at hc;exact absurd hc (by decide)
      ·exact h1
     have hck:=hq2.p.a.kid (c:=(cqV A (rcF g n j)).toNat) (by omega);refine⟨⟨hmid,hc0,hc4⟩,⟨⟨hc0,hc4⟩,⟨b1,by omega⟩,?_,λhnl z hz=>?_,λhnl=>⟨(j,sq),c2v hq2 hne2 hx ⟨hc0,hc4,hcI⟩ hnl,⟨rfl,rfl⟩,⟨rfl,rfl,rfl⟩,Nat.le_refl _,⟨rfl,rfl,rfl,rfl⟩,⟨rfl,rfl,rfl,rfl⟩⟩⟩,?_⟩
     ·obtain⟨o,_,h5⟩:=hck;dsimp only at h5;rw[h5];exact a4k o
     ·simp only[Q7 hz,Q2 hz];have hbz:b≠z:=λe=>hz (e▸b1)
      refine⟨⟨hc0,hc4⟩,⟨.inr b1,by simp only[D8];rw[if_neg hbz];omega⟩,(j,_),c3p hq2 hne2 hx ⟨hc0,hc4,hcI⟩ hnl hz,⟨rfl,rfl⟩,⟨rfl,rfl,rfl⟩,Nat.le_refl _,⟨rfl,rfl,rfl,rfl⟩,⟨rfl,rfl,rfl,rfl⟩⟩
     rintro⟨j2,q2⟩ ⟨k3,v3,E3,N3,ks3,y,hq3,hx3,⟨hc0,hc4,hcI⟩,hy,hne3⟩;dsimp only at hx3 hy hc0 hc4 hcI ⊢;obtain rfl:k3=k2:=hk.uniq hq3.hk;obtain⟨o3,_⟩:=b3P (s:=⟨sj,sv,q2⟩) hq3 hx3;have hlen3:=a9h hq3;have hj2:j2<n:=o3.1;have hw2:IntKind.i64.wrap (j2:Int)=j2:=j5 (by omega) (by omega);obtain⟨d3,d4⟩:=hq3.p.sub hy (by omega);have hyl:=a9T hy;have hce:(((cqV A (rcF g n j2)).toNat:Nat):Int)=cqV A (rcF g n j2):=by omega
     have hsp:=a9g q2 y.b;have hsp0:a1x q b=1:=by unfold a1x;rw[hs];rfl
     have d3':q2.F b (2+(cqV A (rcF g n j2)).toNat)=.pointer (some ⟨y.b,0,none⟩):=d3;have d2':q2.S b=6:=hq3.p.a.S;simp only[hw1,hw2,d3',hee,tN9,ptB,ptC];rw[hce]at d4;refine λq4=>⟨⟨hc0,hc4⟩,⟨hq3.p.a.D,by omega⟩,⟨⟨trivial,⟨by omega,by omega,?_⟩,⟨by omega,by omega⟩,⟨⟨by omega,hQ.sub (by omega) _,hn⟩,rfl,⟨o3.1,o3.2.1,hcI⟩,y,d4,by omega⟩⟩,rfl⟩,λhP=>⟨_,b7D (s:=⟨sj,sv,q2⟩) hq3 hx3 hy hne3 (by rw[hce];exact hP),by show 32-(sj+1)<32-sj;omega,⟨rfl,rfl⟩,⟨rfl,rfl,rfl⟩,Nat.le_refl _⟩⟩
     show 2*e+a1x q2 y.b<H;omega
    ·obtain⟨k2,f1,f2,f3⟩:=c3y hq hne (by show ¬sj<32;omega);dsimp only at f1 f2 f3
     have hsv:sv.oneCell'=true:=by
      rcases hq.w.sl with e1|e1
      ·have e1:sv=_:=e1;rw[e1];rfl
      ·have e1:sv=_:=e1;rw[e1];rfl
     have hsp0:a1x q b=1:=by unfold a1x;rw[hs];rfl
     have hsp1:a1x ⟨sq.D,sq.S,j0 (j0 sq.F b 1 sv) b 0 (.bool true)⟩ b=0:=by
      have e0:Z8 ((j0 (j0 sq.F b 1 sv) b 0 (.bool true)) b 0)=true:=by
       rw[show (j0 (j0 sq.F b 1 sv) b 0 (.bool true)) b 0=.bool true from A2];rfl
      exact if_pos e0
     refine⟨⟨⟨b1,by omega⟩,hsv⟩,⟨b1,by omega⟩,λq4=>⟨⟨⟨by omega,by omega,by rw[hsp1];omega⟩,⟨by omega,by omega⟩,⟨⟨by omega,hQ,hn⟩,rfl,hit,k2,f1,f2⟩⟩,λhP=>⟨_,f3 _ _ hP,rfl,trivial⟩⟩⟩
   ·have e0:slL (q.F b 1)≠32:=λe1=>by rw[e1]at hl2;exact absurd hl2 (by decide)
    obtain⟨e1,e2⟩:=b6P hk (.inr e0) hit hp;exact⟨e1,_,e2,rfl,trivial⟩
theorem b5h:z0 prog 117 (o9 RM ⟨default⟩ (a5Z 0)):=by
 refine a1o x0 func117 rfl (by kernel_rfl) λargs=>?_
 unfold a5Z;split;rotate_left;trivial;rename_i nn b c s a0 a1 a2 a3 r0 r1 r2 r3 i dp;intro o0;try dsimp only
 split;rotate_left;trivial;intro o1;try dsimp only
 split;rotate_left;trivial;intro o2;try dsimp only
 split;rotate_left;trivial;intro ho;exfalso;obtain⟨_,_,⟨_,_,h2⟩,_⟩:=ho;omega
theorem b3t:∀ H,z0 prog 117 (o9 RM ⟨default⟩ (a5Z H))
 | 0=>b5h
 | H+1=>c8u H (b3t H)
end
structure EQ where
 a:Nat
 e:Nat
 its:List Nat
def b9E:Option EQ->List Nat
 | none=>[]
 | some k=>k.its
def qsz{α:Type}:Option α->Nat
 | none=>1
 | some _=>5
def J8{α:Type}(ks:List (Option α))(t:Nat):Nat:=((ks.take t).map qsz).sum
structure a5L (g:Nat->Int) (a w:Nat) (E:List Nat):Prop where
 hw:w=1∨w=2∨w=4
 hg:g a=(w:Nat)
 hn:leN g (a+1) w=(E.length:Nat)
 hi:∀(j x:Nat),E[j]? = some x->leN g (a+1+w+w*j) w=(x:Nat)
def a4U(g : Nat -> Int)(R : Nat -> Q4)(m : Nat) : Nat -> Nat -> Nat -> Q4 -> List Nat -> Prop
 | 0, a, e, Q, its => ∃ w, a5L g a w its /\ a + 2 + w + w * its.length <= e /\ g (a + 1 + w + w * its.length) = 0 /\ ∀ x ∈ its, a1j R m Q x
 | d + 1, a, e, Q, its => ∃(w : Nat)(E : List Nat)(ks : List (Option EQ)), a5L g a w E /\ its = E ++ ks.flatMap b9E /\ (∀ x ∈ E, a1j R m Q x) /\
     ((ks = [] /\ a + 2 + w + w * E.length <= e /\ g (a + 1 + w + w * E.length) = 0) ∨
      (ks.length = 4 /\ g (a + 1 + w + w * E.length) = 1 /\ a + 2 + w + w * E.length + J8 ks 4 <= e /\ (∀ t, ks[t]? = some none -> g (a + 2 + w + w * E.length + J8 ks t) = 0) /\
       ∀ t k, ks[t]? = some (some k) -> g (a + 2 + w + w * E.length + J8 ks t) = 1 /\ leN g (a + 2 + w + w * E.length + J8 ks t + 1) 4 = (k.a : Nat) /\
         a + 2 + w + w * E.length + J8 ks 4 <= k.a /\ k.e <= e /\ a4U g R m d k.a k.e (qbV Q (t : Int)) k.its))
theorem a5L.congr{g g':Nat->Int}{a w:Nat}{E:List Nat}(h:a5L g a w E)(hg:∀ p,a<=p->p<a+1+w+w*E.length->g' p=g p):a5L g' a w E where
 hw:=h.hw
 hg:=by rw[hg _ (by omega) (by omega)];exact h.hg
 hn:=by rw[L5 λi hi=>hg _ (by omega) (by omega)];exact h.hn
 hi:=λj x hj=>by
  have hlt:=(List.getElem?_eq_some_iff.1 hj).1;have hm:w*(j+1)<=w*E.length:=Nat.mul_le_mul_left w hlt;rw[Nat.mul_add,Nat.mul_one]at hm;rw[L5 λi hi=>hg _ (by omega) (by omega)];exact h.hi j x hj
theorem b2V{α:Type}:∀(ks:List (Option α))(t s:Nat),t<=s->J8 ks t<=J8 ks s
 | [],t,s,_=>by simp[J8]
 | o :: r,0,s,_=>by simp[J8]
 | o :: r,t+1,0,h=>absurd h (by omega)
 | o :: r,t+1,s+1,h=>by
  have:=b2V r t s (by omega);simp only[J8,List.take_succ_cons,List.map_cons,List.sum_cons]at *;omega
theorem a3V{α:Type}{ks:List (Option α)}{t:Nat}{o:Option α}(h:ks[t]? = some o):J8 ks (t+1)=J8 ks t+qsz o:=by
 unfold J8;rw[List.take_add_one,h];simp
theorem a2F{g g':Nat->Int}{R:Nat->Q4}{m:Nat}:∀ {d a e:Nat} {Q:Q4} {its:List Nat},a4U g R m d a e Q its->(∀ p,a<=p->p<e->g' p=g p)->a4U g' R m d a e Q its
 | 0,a,e,Q,its,⟨w,h1,h2,h3,h4⟩,hg=>⟨w,h1.congr λp p1 p2=>hg p p1 (by omega),h2,by rw[hg _ (by omega) (by omega)];exact h3,h4⟩
 | d+1,a,e,Q,its,⟨w,E,ks,h1,h2,h3,h4⟩,hg=>by
  have hlo:a+2+w+w*E.length<=e:=by
   rcases h4 with h4|h4
   ·exact h4.2.1
   ·have:=h4.2.2.1;omega
  refine⟨w,E,ks,h1.congr λp p1 p2=>hg p p1 (by omega),h2,h3,?_⟩;rcases h4 with⟨k1,k2,k3⟩|⟨k1,k2,k3,k4,k5⟩
  ·exact .inl ⟨k1,k2,by rw[hg _ (by omega) (by omega)];exact k3⟩
  ·have hsz:∀ {t:Nat} {o:Option EQ},ks[t]? = some o->J8 ks t+qsz o<=J8 ks 4:=fun {t o} ht=>by
    have:=(List.getElem?_eq_some_iff.1 ht).1;rw[<-a3V ht];exact b2V ks _ _ (by omega)
   refine .inr ⟨k1,by rw[hg _ (by omega) (by omega)];exact k2,k3,λt ht=>?_,λt k ht=>?_⟩
   ·have:=hsz ht;simp only[qsz]at this;rw[hg _ (by omega) (by omega)];exact k4 t ht
   ·have:=hsz ht;simp only[qsz]at this;obtain⟨l1,l2,l3,l4,l5⟩:=k5 t k ht;refine⟨by rw[hg _ (by omega) (by omega)];exact l1,by rw[L5 λi hi=>hg _ (by omega) (by omega)];exact l2,l3,l4,a2F l5 λp p1 p2=>hg p (by omega) (by omega)⟩
def qBy(d n:Nat):Nat:=26*(1+d*n)+4*n
def kBy(d:Nat):Option QK->Nat
 | none=>0
 | some x=>qBy d x.its.length
theorem a8P{d:Nat}:∀ {ks:List (Option QK)},(∀ x,some x∈ks->1<=x.its.length)->(ks.map (kBy d)).sum<=26*((d+1)*(ks.flatMap Q1).length)+4*(ks.flatMap Q1).length
 | [],_=>by simp
 | none :: r,h=>by
  have:=a8P (d:=d) (ks:=r) λx hx=>h x (List.mem_cons_of_mem _ hx)
  simpa [kBy,Q1]using this
 | some x :: r,h=>by
  have h1:=a8P (d:=d) (ks:=r) λx hx=>h x (List.mem_cons_of_mem _ hx)
  have h2:=h x (by simp);simp only[List.map_cons,List.sum_cons,List.flatMap_cons,List.length_append,kBy,Q1,qBy,Nat.mul_add,Nat.add_mul]at *;omega
theorem b0H{d:Nat}{ks:List (Option QK)}(h:kne ks)(E:List Nat):26+4*E.length+(ks.map (kBy d)).sum<=qBy (d+1) (E++ks.flatMap Q1).length:=by
 have h1:=a8P (d:=d) (ks:=ks) λx hx=>by
  obtain⟨j,hj,e⟩:=List.getElem_of_mem hx;exact h j x (by rw[List.getElem?_eq_getElem hj,e])
 have h2:(d+1)*(ks.flatMap Q1).length<=(d+1)*(E++ks.flatMap Q1).length:=Nat.mul_le_mul_left _ (by simp);simp only[qBy,List.length_append]at *;omega
structure qmA (q:RM) (R:Nat->Q4) (m d b0:Nat) (Q:Q4) (k:QK) (b:Nat):Prop where
 t:isQT q R m d Q k
 kb:k.b=b0
 nd:k.fp.Nodup
 le:k.its.length<=1000
 bf:b∉k.fp
 lt:∀ x∈k.its,x<4294967296
def qnL(q:RM)(b0:Nat):Nat:=slL (q.F b0 1)
def qit(q:RM)(b0 t:Nat):Int:=p7 (q.F (slB (q.F b0 1)) (slC (q.F b0 1)+t))
def a3Y(q:RM)(b0 t:Nat):Bool:=R0 (q.F b0 (2+t))
def qhI(q:RM)(b0:Nat)(w:Int)(j:Nat):List Int:=[w]++byL (qnL q b0:Nat) w.toNat++(List.range j).flatMap λt=>byL (qit q b0 t) w.toNat
def qfl(q:RM)(b0 t:Nat):List Int:=if a3Y q b0 t=true then [0]else [1,0,0,0,0]
def qhF(q:RM)(b0:Nat)(w:Int)(j:Nat):List Int:=qhI q b0 w (qnL q b0)++[1]++(List.range j).flatMap (qfl q b0)
def qmP(q:RM)(b0:Nat)(Q:Q4)(b c l:Nat)(i:DI):Prop:=∀ R m d k,qmA q R m d b0 Q k b->l+qBy d k.its.length<=100000000->∃ us,apd q b c l us i/\us.length<=qBy d k.its.length/\a4U (bG i) R m d l i.l Q k.its
def qmO(q:RM)(b0:Nat)(Q:Q4)(b c l kk K:Nat):Prop:=byO q b c l kk/\∃ R m d k,qmA q R m d b0 Q k b/\l+qBy d k.its.length<=100000000/\d<K/\d<=16/\QB d Q
structure QC where
 i:DI
 j:Nat
 w:Int
 g:Nat->Int
def q1P(q:RM)(b0:Nat)(p:Nat×Int):Prop:=p.1<=qnL q b0/\wOk p.2/\nbI (qnL q b0:Nat)<=p.2/\∀ t,t<p.1->nbI (qit q b0 t)<=p.2
def q2P(q:RM)(b0 b c l:Nat)(p:C1):Prop:=apd q b c l (qhI q b0 p.w p.j) p.i/\q1P q b0 (qnL q b0,p.w)/\p.j<=qnL q b0
def q3M(q:RM)(b0 l:Nat)(w:Int)(j:Nat)(g:Nat->Int):Prop:=∀ t,t<j->a3Y q b0 t=false->g t=((l+(qhF q b0 w t).length+1:Nat):Int)
def q3P(q:RM)(b0 b c l:Nat)(p:QC):Prop:=Z8 (q.F b0 0)=true/\apd q b c l (qhF q b0 p.w p.j) p.i/\q1P q b0 (qnL q b0,p.w)/\p.j<=4/\q3M q b0 l p.w p.j p.g
def q4K(q:RM)(R:Nat->Q4)(m d b0:Nat)(Q:Q4)(b c l:Nat)(p:QC)(k:QK):Prop:=∃ us v E ks,apd q b c l us p.i/\qpN q R m d Q b0 true v E ks []/\kne ks/\k.its=E++ks.flatMap Q1/\k.fp=b0 :: (fpU v++ks.flatMap kfp)/\
 (∀ t,t<(qhI q b0 p.w (qnL q b0)++[1]).length->bG p.i (l+t)=(qhI q b0 p.w (qnL q b0)++[1]).getD t 0)/\
 (∀ t,t<4->bG p.i (l+(qhF q b0 p.w t).length)=if a3Y q b0 t=true then 0 else 1)/\(qhF q b0 p.w 4).length<=us.length/\
 us.length<=26+4*E.length+((ks.take p.j).map (kBy d)).sum/\
 ∀ t x,t<p.j->ks[t]? = some (some x)->∃ a e,leN (bG p.i) (l+(qhF q b0 p.w t).length+1) 4=(a:Nat)/\l+(qhF q b0 p.w 4).length<=a/\e<=p.i.l/\a4U (bG p.i) R m d a e (qbV Q (t:Int)) x.its
def q4P(q:RM)(b0:Nat)(Q:Q4)(b c l:Nat)(p:QC):Prop:=Z8 (q.F b0 0)=true/\q1P q b0 (qnL q b0,p.w)/\p.j<=4/\q3M q b0 l p.w 4 p.g/\
 ∀ R m d k,qmA q R m (d+1) b0 Q k b->l+qBy (d+1) k.its.length<=100000000->q4K q R m d b0 Q b c l p k
theorem apd.refl{q:RM}{b c l kk:Nat}(h:byO q b c l kk):apd q b c l [] ⟨q,b,c,l,kk⟩ where
 o:=h
 n:=by simp
 old:=λ_ _=>rfl
 new:=λj x hx=>by simp at hx
 keep:=λx hx=>⟨hx,rfl,λ_ _=>rfl⟩
 nw:=.inl rfl
section
variable {q:RM} {R:Nat->Q4} {m d b0 b c l:Nat} {Q:Q4} {k:QK}
theorem qmA.node(h:qmA q R m d b0 Q k b):∃ sp v E ks,qnA q b0 sp v E ks/\(∀ y∈fpU v,y∈k.fp)/\b0∈k.fp/\E.length<=k.its.length/\(∀ x∈E,x∈k.its/\a1j R m Q x)/\(sp=false->ks=nok/\k.its=E):=by
 have hb:=h.kb;subst hb
 cases d with
 | zero =>
  obtain⟨v,E,h1,h2,h3,h4⟩:=h.t;exact⟨_,v,E,_,h1,λy hy=>by rw[h2];exact List.mem_cons_of_mem _ hy,by rw[h2];simp,by rw[h3];exact Nat.le_refl _,λx hx=>⟨by rw[h3];exact hx,h4 x hx⟩,λ_=>⟨rfl,h3⟩⟩
 | succ d =>
  obtain⟨sp,v,E,ks,h1,h0,h2,h3,h4,h5,h6⟩:=h.t;refine⟨sp,v,E,ks,h1,λy hy=>by rw[h2];exact List.mem_cons_of_mem _ (List.mem_append_left _ hy),by rw[h2];simp,by rw[h3];simp,λx hx=>⟨by rw[h3];exact List.mem_append_left _ hx,h4 x hx⟩,λe=>⟨(h0 e).1,?_⟩⟩;rw[h3,(h0 e).1,a6n];simp
theorem qmA.bne(h:qmA q R m d b0 Q k b):b0≠b:=λe=>by
 obtain⟨_,_,_,_,_,_,h1,_⟩:=h.node;exact h.bf (e▸h1)
theorem qmA.off(h:qmA q R m d b0 Q k b){us:List Int}{i:DI}(hp:apd q b c l us i):(i.q.D b0/\i.q.S b0=6)/\∀ y,i.q.F b0 y=q.F b0 y:=by
 obtain⟨sp,v,E,ks,h1,_⟩:=h.node;have h2:=hp.keep _ h1.D;exact⟨⟨h2.1,h2.2.1.trans h1.S⟩,h2.2.2 h.bne⟩
theorem qmA.sl(h:qmA q R m d b0 Q k b):isSlN (q.F b0 1)/\b1c (q.F b0 0)/\qnL q b0<=1000/\(∀ t,t<4->a3l (q.F b0 (2+t)))/\(q.D b0/\q.S b0=6):=by
 obtain⟨sp,v,E,ks,h1,h2,h3,h4,_⟩:=h.node;have h5:=h.le;refine⟨by rw[h1.s1];exact h1.u.sl,by rw[h1.s0];rfl,?_,λt ht=>?_,h1.D,h1.S⟩
 ·unfold qnL;rw[h1.s1,h1.u.n];omega
 ·obtain⟨o,_,h6⟩:=h1.kid ht;rw[h6];exact a4k o
theorem qmA.item(h:qmA q R m d b0 Q k b){us:List Int}{i:DI}(hp:apd q b c l us i){t:Nat}(ht:t<qnL q b0):a5G (q.F b0 1)/\(i.q.D (slB (q.F b0 1))/\slC (q.F b0 1)+t<i.q.S (slB (q.F b0 1)))/\
  i.q.F (slB (q.F b0 1)) (slC (q.F b0 1)+t)=.int .u32 (qit q b0 t)/\0<=qit q b0 t/\qit q b0 t<4294967296:=by
 obtain⟨sp,v,E,ks,h1,h2,h3,h4,h4b,_⟩:=h.node;have e1:=h1.s1;unfold qnL at ht;rw[e1]at ht;have hg:=List.getElem?_eq_getElem (by rw[<-h1.u.n];exact ht:t<E.length);have hpos:=h1.u.pos hg;obtain⟨d1,d2⟩:=h1.u.D hpos;have hne:slB v≠b:=λe=>h.bf (e▸h2 _ (a6T hpos))
 obtain⟨k1,k2,k3⟩:=hp.keep _ d1;have hc:=h1.u.c _ _ hg;have hle:=h1.u.le
 have hq:qit q b0 t=((E[t]'(by rw[<-h1.u.n];exact ht):Nat):Int):=by
  unfold qit;rw[e1,hc];rfl
 have hlt:=h.lt _ (h4b _ (List.mem_of_getElem? hg)).1;rw[e1,hq];refine⟨?_,⟨k1,by rw[k2];omega⟩,by rw[k3 hne];exact hc,by omega,by omega⟩;rcases h1.u.sl with e|e
 ·rw[e]at hpos;exact absurd hpos (by decide)
 ·exact e
theorem qmA.its(h:qmA q R m d b0 Q k b):∃ sp v E ks,qnA q b0 sp v E ks/\(∀ x∈E,x∈k.its/\a1j R m Q x)/\(sp=false->ks=nok/\k.its=E)/\qnL q b0=E.length/\∀(t x:Nat),E[t]? = some x->qit q b0 t=(x:Nat):=by
 obtain⟨sp,v,E,ks,h1,h2,h3,h4,h5,h6⟩:=h.node;refine⟨sp,v,E,ks,h1,h5,h6,by unfold qnL;rw[h1.s1,h1.u.n],λt x ht=>?_⟩;unfold qit;rw[h1.s1,h1.u.c _ _ ht];rfl
end
section
variable {q:RM} {b0:Nat} {w:Nat}
theorem P6(j:Nat):(qhI q b0 (w:Nat) j).length=1+w+w*j:=by
 have:=W2 (f:=λt=>byL (qit q b0 t) w) (λt=>F5 _ _) j;simp only[qhI,List.length_append,F5,tN9,this,List.length_cons,List.length_nil]
theorem c6N(j:Nat):(qhI q b0 (w:Nat) j)[0]? = some (w:Int):=by simp[qhI]
theorem c4V(j:Nat){s:Nat}(hs:s<w):(qhI q b0 (w:Nat) j)[1+s]? = some (byI (qnL q b0:Nat) s):=by
 unfold qhI;rw[List.append_assoc,List.getElem?_append_right (by simp),List.getElem?_append_left (by simp[F5,hs])];simp[byL,hs]
theorem c5O{j t s:Nat}(ht:t<j)(hs:s<w):(qhI q b0 (w:Nat) j)[1+w+(w*t+s)]? = some (byI (qit q b0 t) s):=by
 unfold qhI;rw[List.getElem?_append_right (by simp[F5];omega)];simp only[List.length_append,List.length_cons,List.length_nil,F5,tN9];rw[show 1+w+(w*t+s)-(0+1+w)=w*t+s by omega];rw[a6E (f:=λt=>byL (qit q b0 t) w) (λt=>F5 _ _) hs ht];simp[byL,hs]
theorem b5u(w:Int)(j:Nat):qhI q b0 w (j+1)=qhI q b0 w j++byL (qit q b0 j) w.toNat:=by
 unfold qhI;rw[List.range_succ,List.flatMap_append,<-List.append_assoc];simp
theorem b3p{v w:Int}(hw:wOk w)(h:nbI v<=w)(h0:0<=v)(h1:v<4294967296){g:Nat->Int}{p:Nat}(hg:∀ s,s<w.toNat->g (p+s)=byI v s):leN g p w.toNat=v:=by
 unfold nbI at h;rcases hw with e|e|e <;> subst e
 ·exact c0v hg h0 (by split at h <;> (try split at h) <;> omega)
 ·exact c0q hg h0 (by split at h <;> (try split at h) <;> omega)
 ·exact b1x hg h0 h1
theorem b3s{E:List Nat}{gB:Nat->Int}{l:Nat}(hb:∀ t,t<1+w+w*E.length->∀ x,(qhI q b0 (w:Nat) E.length)[t]? = some x->gB (l+t)=x)(hn:qnL q b0=E.length)(hq:q1P q b0 (qnL q b0,(w:Nat)))
  (hit:∀(t x:Nat),E[t]? = some x->qit q b0 t=(x:Nat)) (hl:E.length<4294967296) (hlt:∀ x∈E,x<4294967296):a5L gB l w E:=by
 obtain⟨_,q2,q3,q4⟩:=hq;dsimp only at q2 q3 q4;have hw:w=1∨w=2∨w=4:=by unfold wOk at q2;omega
 refine⟨hw,?_,?_,λj x hj=>?_⟩
 ·have:=hb 0 (by omega) _ (c6N _);simpa using this
 ·have:=b3p (g:=gB) (p:=l+1) q2 q3 (by omega) (by omega) λs hs=>by
   rw[tN9]at hs;rw[Nat.add_assoc];exact hb (1+s) (by have:=Nat.le_refl w;omega) _ (c4V _ hs)
  rw[tN9,hn]at this;exact this
 ·have hjl:=(List.getElem?_eq_some_iff.1 hj).1;have hx:=hlt x (List.mem_of_getElem? hj);have e:=hit j x hj;have hm:w*(j+1)<=w*E.length:=Nat.mul_le_mul_left w hjl;rw[Nat.mul_add,Nat.mul_one]at hm
  have:=b3p (g:=gB) (p:=l+1+w+w*j) q2 (q4 j (by omega)) (by omega) (by omega) λs hs=>by
   rw[tN9]at hs;rw[show l+1+w+w*j+s=l+(1+w+(w*j+s)) by omega];exact hb _ (by omega) _ (c5O hjl hs)
  rw[tN9,e]at this;exact this
theorem a3Q(t:Nat):(qfl q b0 t).length=if a3Y q b0 t=true then 1 else 5:=by
 unfold qfl;split <;> rfl
theorem V9(w:Int)(j:Nat):qhF q b0 w (j+1)=qhF q b0 w j++qfl q b0 j:=by
 unfold qhF;rw[List.range_succ,List.flatMap_append,<-List.append_assoc];simp
theorem a6c(w:Int):qhF q b0 w 0=qhI q b0 w (qnL q b0)++[1]:=by simp[qhF]
theorem a5b{ks:List (Option QK)}(h:∀ t o,ks[t]? = some o->a3Y q b0 t=o.isNone)(hl:ks.length=4):∀ j,j<=4->(qhF q b0 (w:Nat) j).length=2+w+w*qnL q b0+J8 ks j
 | 0,_=>by rw[a6c,List.length_append,P6];simp[J8];omega
 | j+1,hj=>by
  have ih:=a5b h hl j (by omega);have hg:=List.getElem?_eq_getElem (by omega:j<ks.length);have h1:=h _ _ hg;rw[V9,List.length_append,ih,a3V hg,a3Q,h1];generalize ks[j]=o at *;cases o <;> simp[qsz] <;> omega
end
theorem b0R{P:Nat->QK->EQ->Prop}(hP:∀ t x e,P t x e->e.its=x.its):∀(ks:List (Option QK))(s:Nat),(∀(t:Nat)(x:QK),ks[t]? = some (some x)->∃ e,P (s+t) x e)->
  ∃ es:List (Option EQ),es.length=ks.length/\es.flatMap b9E=ks.flatMap Q1/\(∀ t,J8 es t=J8 ks t)/\(∀ t:Nat,es[t]? = some none->ks[t]? = some none)/\∀(t:Nat)(e:EQ),es[t]? = some (some e)->∃ x,ks[t]? = some (some x)/\P (s+t) x e
 | [],s,_=>⟨[],rfl,rfl,λt=>by simp[J8],λt h=>by simp at h,λt e h=>by simp at h⟩
 | o :: r,s,h=>by
  obtain⟨es,h1,h2,h3,h4,h5⟩:=b0R hP r (s+1) λt x ht=>by
   have:=h (t+1) x (by simpa using ht);rw[show s+1+t=s+(t+1) by omega];exact this
  cases o with
  | none =>
   refine⟨none :: es,by simp[h1],by simp[b9E,Q1,h2],λt=>?_,λt ht=>?_,λt e ht=>?_⟩
   ·cases t with
    | zero=>simp[J8]
    | succ t=>have:=h3 t;simp only[J8,List.take_succ_cons,List.map_cons,List.sum_cons,qsz]at *;omega
   ·cases t with
    | zero=>rfl
    | succ t=>simpa using h4 t (by simpa using ht)
   ·cases t with
    | zero=>simp at ht
    | succ t =>
     obtain⟨x,g1,g2⟩:=h5 t e (by simpa using ht);exact⟨x,by simpa using g1,by rw[show s+(t+1)=s+1+t by omega];exact g2⟩
  | some x =>
   obtain⟨e0,he0⟩:=h 0 x rfl;refine⟨some e0 :: es,by simp[h1],by simp[b9E,Q1,h2,hP _ _ _ he0],λt=>?_,λt ht=>?_,λt e ht=>?_⟩
   ·cases t with
    | zero=>simp[J8]
    | succ t=>have:=h3 t;simp only[J8,List.take_succ_cons,List.map_cons,List.sum_cons,qsz]at *;omega
   ·cases t with
    | zero=>simp at ht
    | succ t=>simpa using h4 t (by simpa using ht)
   ·cases t with
    | zero =>
     simp at ht;subst ht;exact⟨x,rfl,he0⟩
    | succ t =>
     obtain⟨y,g1,g2⟩:=h5 t e (by simpa using ht);exact⟨y,by simpa using g1,by rw[show s+(t+1)=s+1+t by omega];exact g2⟩
theorem wOk.nat{w:Int}(h:wOk w):∃ n:Nat,w=(n:Int)/\n<=4/\1<=n:=by
 rcases h with e|e|e <;> subst e
 ·exact⟨1,rfl,by omega,by omega⟩
 ·exact⟨2,rfl,by omega,by omega⟩
 ·exact⟨4,rfl,by omega,by omega⟩
section
variable {q:RM} {R:Nat->Q4} {m d b0 b c l:Nat} {Q:Q4} {k:QK}
theorem a4x(w:Int){t:Nat}:∀ {j:Nat},t<j->∃ r,qhF q b0 w j=qhF q b0 w t++qfl q b0 t++r
 | 0,h=>absurd h (Nat.not_lt_zero t)
 | j+1,h=>by
  rw[V9];by_cases e:t=j
  ·subst e;exact⟨[],by simp⟩
  ·obtain⟨r,hr⟩:=a4x w (t:=t) (j:=j) (by omega);exact⟨r++qfl q b0 j,by rw[hr];simp⟩
theorem a0q(w:Int){t j:Nat}(h:t<=j):(qhF q b0 w t).length<=(qhF q b0 w j).length:=by
 by_cases e:t=j
 ·subst e;exact Nat.le_refl _
 ·obtain⟨r,hr⟩:=a4x (q:=q) (b0:=b0) w (t:=t) (j:=j) (by omega);rw[hr];simp only[List.length_append];omega
theorem c3z(t:Nat):(qfl q b0 t)[0]? = some (if a3Y q b0 t=true then 0 else 1):=by unfold qfl;split <;> rfl
theorem a5t{w n:Nat}(h:w<=4):w*n<=4*n:=Nat.mul_le_mul_right n h
theorem c2t(h:qmA q R m d b0 Q k b)(hs:Z8 (q.F b0 0)=false){w:Int}{i:DI}(hp:apd q b c l (qhI q b0 w (qnL q b0)++[0]) i)(hq:q1P q b0 (qnL q b0,w)) :
  ∃ us,apd q b c l us i/\us.length<=qBy d k.its.length/\a4U (bG i) R m d l i.l Q k.its:=by
 obtain⟨sp,v,E,ks,h1,h5,h6,hn,hit⟩:=h.its;obtain⟨w,rfl,hw,_⟩:=hq.2.1.nat;obtain rfl:sp=false:=by rw[h1.s0]at hs;exact hs
 obtain⟨_,hE⟩:=h6 rfl;have hle:=h.le
 have hH:a5L (bG i) l w E:=by
  refine b3s (λt ht x hx=>a0M hp ?_) hn hq hit (by rw[hE]at hle;omega) λx hx=>h.lt x (h5 x hx).1
  rw[hn,List.getElem?_append_left (by rw[P6];exact ht)];exact hx
 have hz:bG i (l+1+w+w*E.length)=0:=by
  rw[show l+1+w+w*E.length=l+(1+w+w*E.length) by omega];refine a0M hp ?_;rw[hn,List.getElem?_append_right (by rw[P6];exact Nat.le_refl _),P6];simp
 have hl:=hp.n;rw[List.length_append,P6,hn]at hl;simp only[List.length_cons,List.length_nil]at hl;have hm:=a5t (n:=E.length) hw;refine⟨_,hp,?_,?_⟩
 ·rw[List.length_append,P6,hn,hE];simp only[List.length_cons,List.length_nil,qBy];have:26*1<=26*(1+d*E.length):=Nat.mul_le_mul_left _ (by omega);omega
 ·cases d with
  | zero=>exact⟨w,by rw[hE];exact hH,by rw[hE];omega,by rw[hE];exact hz,λx hx=>(h5 x (by rw[<-hE];exact hx)).2⟩
  | succ d=>exact⟨w,E,[],hH,by rw[hE];simp,λx hx=>(h5 x hx).2, .inl ⟨rfl,by omega,hz⟩⟩
theorem qmA.split(h:qmA q R m (d+1) b0 Q k b)(hs:Z8 (q.F b0 0)=true):∃ v E ks,qpN q R m d Q b0 true v E ks []/\kne ks/\k.its=E++ks.flatMap Q1/\k.fp=b0 :: (fpU v++ks.flatMap kfp):=by
 obtain⟨sp,v,E,ks,h1,_,h3,h4,h5⟩:=b9T h.t h.nd;rw[h.kb]at h1 h3;obtain rfl:sp=true:=by rw[h1.a.s0]at hs;exact hs
 exact⟨v,E,ks,h1,h5,h4,h3⟩
theorem Y9{v:Value}{E xs:List Nat}{ks:List (Option QK)}{sp:Bool}(h:qpN q R m d Q b0 sp v E ks xs):∀(t:Nat)(o:Option QK),ks[t]? = some o->a3Y q b0 t=o.isNone:=λt o ht=>by
 unfold a3Y;rw[h.a.k t o ht,a1Q]
theorem c5K{v:Value}{E xs:List Nat}{ks:List (Option QK)}{sp:Bool}(h:qpN q R m d Q b0 sp v E ks xs):qnL q b0=E.length:=by
 unfold qnL;rw[h.a.s1,h.a.u.n]
theorem c0V{ks:List (Option QK)}(h:ks.length=4):J8 ks 4<=20:=by
 match ks,h with
 | [a,b,c,d],_=>cases a <;> cases b <;> cases c <;> cases d <;> simp[J8,qsz]
theorem b8t(h:qmA q R m (d+1) b0 Q k b)(hs:Z8 (q.F b0 0)=true){w:Int}(hw:wOk w):(qhF q b0 w 4).length<=26+4*qnL q b0:=by
 obtain⟨wn,rfl,hw4,_⟩:=hw.nat;obtain⟨v,E,ks,h1,_⟩:=h.split hs;rw[a5b (Y9 h1) h1.a.kl 4 (Nat.le_refl _)];have h2:=c0V h1.a.kl;have h3:=a5t (n:=qnL q b0) hw4;omega
theorem qmA.pos(h:qmA q R m d b0 Q k b)(hs:Z8 (q.F b0 0)=true):∃ e,d=e+1:=by
 cases d with
 | succ e=>exact⟨e,rfl⟩
 | zero =>
  obtain⟨v,E,h1,_⟩:=h.t;have h2:=h1.s0;rw[h.kb]at h2;rw[h2]at hs;exact absurd hs (by decide)
theorem b6h(h:qmA q R m (d+1) b0 Q k b)(hs:Z8 (q.F b0 0)=true){p p':QC}(hp:apd q b c l (qhF q b0 p.w 4) p.i)(hw:wOk p.w)(e1:p'.i=p.i)(e2:p'.j=0)(e3:p'.w=p.w):q4K q R m d b0 Q b c l p' k:=by
 obtain⟨v,E,ks,h1,h2,h3,h4⟩:=h.split hs;obtain⟨w,e,hw4,_⟩:=hw.nat;have hpos:=a5b (q:=q) (b0:=b0) (w:=w) (Y9 h1) h1.a.kl 4 (Nat.le_refl _);have h20:=c0V h1.a.kl;have hm:=a5t (n:=E.length) hw4;rw[c5K h1]at hpos;rw[q4K,e1,e2,e3];refine⟨_,v,E,ks,hp,h1,h2,h3,h4,λt ht=>a0M hp ?_,λt ht=>a0M hp ?_,Nat.le_refl _,?_,λt x ht=>absurd ht (Nat.not_lt_zero t)⟩
 ·unfold qhF;rw[List.getElem?_append_left ht,List.getElem?_eq_getElem ht,List.getD_eq_getElem?_getD,List.getElem?_eq_getElem ht];rfl
 ·obtain⟨r,hr⟩:=a4x (q:=q) (b0:=b0) p.w ht;rw[hr,List.append_assoc,List.getElem?_append_right (Nat.le_refl _),Nat.sub_self,List.getElem?_append_left (by rw[a3Q];split <;> omega)];exact c3z t
 ·rw[e,hpos];simp;omega
theorem b8O{p p':QC}(hK:q4K q R m d b0 Q b c l p k)(hj:p.j<4)(hn:a3Y q b0 p.j=true)(e1:p'.i=p.i)(e2:p'.j=p.j+1)(e3:p'.w=p.w):q4K q R m d b0 Q b c l p' k:=by
 obtain⟨us,v,E,ks,k1,k2,k3,k4,k5,k6,k7,k8,k9,k10⟩:=hK;have hg:=List.getElem?_eq_getElem (by rw[k2.a.kl];exact hj:p.j<ks.length);have hno:=Y9 k2 _ _ hg;rw[q4K,e1,e2,e3];refine⟨us,v,E,ks,k1,k2,k3,k4,k5,k6,k7,k8,?_,λt x ht hx=>?_⟩
 ·rw[List.take_add_one,List.map_append,List.sum_append];omega
 ·by_cases e:t=p.j
  ·subst e;rw[hx]at hg;simp only[oI9]at hg;rw[<-hg,hn]at hno;exact absurd hno (by simp)
  ·exact k10 t x (by omega) hx
theorem b3L(h:qmA q R m (d+1) b0 Q k b)(hbd:l+qBy (d+1) k.its.length<=100000000){p:QC}(hw:wOk p.w)(hK:q4K q R m d b0 Q b c l p k)(hj:p.j<4)(hn:a3Y q b0 p.j=false) :
  ∃ x:QK,q.F b0 (2+p.j)=.pointer (some ⟨x.b,0,none⟩)/\l+((qhF q b0 p.w p.j).length+1)+4<=p.i.l/\p.i.l<=100000000/\byO p.i.q p.i.b p.i.c p.i.l p.i.k/\
  byO (p4R p.i.q p.i.b (p.i.c+(l+((qhF q b0 p.w p.j).length+1))) (p.i.l:Nat)) p.i.b p.i.c p.i.l p.i.k/\
  qmA (p4R p.i.q p.i.b (p.i.c+(l+((qhF q b0 p.w p.j).length+1))) (p.i.l:Nat)) R m d x.b (qbV Q (p.j:Int)) x p.i.b/\p.i.l+qBy d x.its.length<=100000000/\
  ∀ i',qmP (p4R p.i.q p.i.b (p.i.c+(l+((qhF q b0 p.w p.j).length+1))) (p.i.l:Nat)) x.b (qbV Q (p.j:Int)) p.i.b p.i.c p.i.l i'->q4K q R m d b0 Q b c l ⟨i',p.j+1,p.w,p.g⟩ k:=by
 obtain⟨us,v,E,ks,k1,k2,k3,k4,k5,k6,k7,k8,k9,k10⟩:=hK;obtain⟨w,e,hw4,_⟩:=hw.nat;have hn1:=k1.n;obtain⟨o,hg,hcell⟩:=k2.a.kid hj;have hno:=Y9 k2 _ _ hg;rw[hn]at hno
 obtain⟨x,rfl⟩:∃ x,o=some x:=by cases o with
  | none=>simp at hno
  | some x=>exact⟨x,rfl⟩
 have hF1:(qhF q b0 p.w (p.j+1)).length=(qhF q b0 p.w p.j).length+5:=by rw[V9,List.length_append,a3Q,hn];simp
 have hF4:=a0q (q:=q) (b0:=b0) p.w (t:=p.j+1) (j:=4) (by omega);have hF0:=a0q (q:=q) (b0:=b0) p.w (t:=0) (j:=p.j) (by omega);rw[a6c]at hF0;generalize hS:(qhF q b0 p.w p.j).length=S at *;obtain⟨us2,v1,v2,v3,v4⟩:=b1s k1 (s:=S+1) (by omega) (p.i.l:Nat)
 have hsum:((ks.take (p.j+1)).map (kBy d)).sum=((ks.take p.j).map (kBy d)).sum+qBy d x.its.length:=by
  rw[List.take_add_one,hg,List.map_append,List.sum_append];simp[kBy]
 have hsum4:((ks.take (p.j+1)).map (kBy d)).sum<=(ks.map (kBy d)).sum:=by
  conv=>rhs;rw[<-List.take_append_drop (p.j+1) ks]
  rw[List.map_append,List.sum_append];omega
 have hnode:=b0H (d:=d) k3 E;rw[<-k4]at hnode;have hxk:∀ y∈x.fp,y∈k.fp:=λy hy=>by rw[k5];exact List.mem_cons_of_mem _ (List.mem_append_right _ (I6 hg hy))
 have hkx:qmA (p4R p.i.q p.i.b (p.i.c+(l+(S+1))) (p.i.l:Nat)) R m d x.b (qbV Q (p.j:Int)) x p.i.b:=by
  have hD:=(k2.kid _ _ hg).D;have hne:∀ y∈x.fp,y≠b:=λy hy e=>h.bf (e▸hxk y hy)
  refine⟨(k2.kid _ _ hg).same λy hy=>?_,rfl,c1o hg (nd4.1 k2.nd).2.1.2.1,?_,λhb=>?_,λy hy=>h.lt y ?_⟩
  ·obtain⟨g1,g2,g3⟩:=v2.keep y (hD y hy);exact⟨g1,g2,g3 (hne y hy)⟩
  ·have g1:=a9T hg;have g2:=h.le;rw[k4,List.length_append]at g2;omega
  ·rcases k1.nw with g1|g1
   ·exact hne _ hb g1
   ·exact g1 (hD _ hb)
  ·rw[k4];exact List.mem_append_right _ (List.mem_flatMap.2 ⟨some x,List.mem_of_getElem? hg,hy⟩)
 refine⟨x,hcell,by omega,by omega,k1.o,v2.o,hkx,by omega,λi' hi'=>?_⟩;obtain⟨us3,w1,w2,w3⟩:=hi' R m d x hkx (by omega);have hall:=v2.trans w1;have hn3:=w1.n
 have old:∀ pp,pp<p.i.l->bG i' pp=bG ⟨p4R p.i.q p.i.b (p.i.c+(l+(S+1))) (p.i.l:Nat),p.i.b,p.i.c,p.i.l,p.i.k⟩ pp:=λpp hpp=>by
  unfold bG;rw[w1.old pp hpp]
 have old2:∀ pp,pp<p.i.l->(pp<l+(S+1)∨l+(S+1)+4<=pp)->bG i' pp=bG p.i pp:=λpp h1 h2=>(old pp h1).trans (v4 pp h2)
 have far:∀ t,t<4->t≠p.j->(qhF q b0 p.w t).length+(qfl q b0 t).length<=S∨S+5<=(qhF q b0 p.w t).length:=λt ht hne=>by
  rcases Nat.lt_or_ge t p.j with c1|c1
  ·have:=a0q (q:=q) (b0:=b0) p.w (t:=t+1) (j:=p.j) (by omega);rw[V9,List.length_append,hS]at this;exact .inl this
  ·have:=a0q (q:=q) (b0:=b0) p.w (t:=p.j+1) (j:=t) (by omega);rw[hF1]at this;exact .inr this
 have l4:∀ t,t<4->(qhF q b0 p.w t).length+(qfl q b0 t).length<=(qhF q b0 p.w 4).length:=λt ht=>by
  have:=a0q (q:=q) (b0:=b0) p.w (t:=t+1) (j:=4) (by omega);rw[V9,List.length_append]at this;exact this
 have flp:∀ t,1<=(qfl q b0 t).length:=λt=>by rw[a3Q];split <;> omega
 unfold q4K;dsimp only;refine⟨us2++us3,v,E,ks,hall,k2,k3,k4,k5,λt ht=>?_,λt ht=>?_,by rw[List.length_append];omega,?_,λt y ht hy=>?_⟩
 ·have ht:t<(qhI q b0 p.w (qnL q b0)++[1]).length:=ht;exact(old2 _ (by omega) (by omega)).trans (k6 t ht)
 ·have g1:=flp t;have g2:=l4 t ht;by_cases ce:t=p.j
  ·subst ce;exact(old2 _ (by rw[hS];omega) (by rw[hS];omega)).trans (k7 _ ht)
  ·have g3:=far t ht ce;exact(old2 _ (by omega) (by omega)).trans (k7 t ht)
 ·show (us2++us3).length<=26+4*E.length+((ks.take (p.j+1)).map (kBy d)).sum;rw[hsum,List.length_append];omega
 ·have ht:t<p.j+1:=ht;by_cases ce:t=p.j
  ·subst ce;rw[hg]at hy;simp only[oI9]at hy;subst hy;refine⟨p.i.l,i'.l,?_,by show l+(qhF q b0 p.w 4).length<=p.i.l;omega,Nat.le_refl _,w3⟩;show leN (bG i') (l+(qhF q b0 p.w p.j).length+1) 4=_;rw[hS];refine b1x (λj hj4=>?_) (by omega) (by omega);rw[show l+S+1+j=l+(S+1)+j by omega];exact(old _ (by omega)).trans (v3 j hj4)
  ·obtain⟨a,e',a1,a2,a3,a4⟩:=k10 t y (by omega) hy;have g2:=l4 t (by omega);have g3:=far t (by omega) ce
   have g4:(qfl q b0 t).length=5:=by
    rw[a3Q,Y9 k2 _ _ hy];simp
   refine⟨a,e',?_,a2,by show e'<=i'.l;omega,a2F a4 λpp p1 p2=>old2 pp (by omega) (by omega)⟩;show leN (bG i') (l+(qhF q b0 p.w t).length+1) 4=_;rw[L5 λj hj=>old2 _ (by omega) (by omega)];exact a1
theorem c3A(h:qmA q R m (d+1) b0 Q k b){p:QC}(hq:q1P q b0 (qnL q b0,p.w))(hK:q4K q R m d b0 Q b c l p k)(hj:4<=p.j) :
  ∃ us,apd q b c l us p.i/\us.length<=qBy (d+1) k.its.length/\a4U (bG p.i) R m (d+1) l p.i.l Q k.its:=by
 obtain⟨us,v,E,ks,k1,k2,k3,k4,k5,k6,k7,k8,k9,k10⟩:=hK;obtain⟨w,e,hw4,_⟩:=hq.2.1.nat;dsimp only at e;rw[e]at hq k6 k7 k8 k10;have hn1:=k1.n;have hnE:=c5K k2;have hpos:=a5b (q:=q) (b0:=b0) (w:=w) (Y9 k2) k2.a.kl;rw[hnE]at hpos k6;have hnode:=b0H (d:=d) k3 E;rw[<-k4]at hnode;have hle:=h.le;have hEl:E.length<=k.its.length:=by rw[k4];simp
 obtain⟨es,e1,e2,e3,e4,e5⟩:=b0R (P:=λt x kk=>kk.its=x.its/\leN (bG p.i) (l+2+w+w*E.length+J8 ks t+1) 4=(kk.a:Nat)/\l+2+w+w*E.length+J8 ks 4<=kk.a/\kk.e<=p.i.l/\a4U (bG p.i) R m d kk.a kk.e (qbV Q (t:Int)) kk.its) (λ_ _ _ hh=>hh.1) ks 0 λt x hx=>by
  have ht4:t<4:=by rw[<-k2.a.kl];exact(List.getElem?_eq_some_iff.1 hx).1
  obtain⟨a,e',a1,a2,a3,a4⟩:=k10 t x (by omega) hx;rw[hpos t (by omega)]at a1;rw[hpos 4 (by omega)]at a2;refine⟨⟨a,e',x.its⟩,rfl,?_,by show _<=a;omega,a3,?_⟩
  ·rw[Nat.zero_add,show l+2+w+w*E.length+J8 ks t+1=l+(2+w+w*E.length+J8 ks t)+1 by omega];exact a1
  ·rw[Nat.zero_add];exact a4
 have hlen:(qhI q b0 (w:Nat) E.length++[1]).length=2+w+w*E.length:=by rw[List.length_append,P6];simp;omega
 refine⟨us,k1,?_,w,E,es,?_,by rw[e2,k4],k2.ok, .inr ⟨by rw[e1,k2.a.kl],?_,?_,λt ht=>?_,λt kk ht=>?_⟩⟩
 ·have:ks.take p.j=ks:=List.take_of_length_le (by rw[k2.a.kl];exact hj);rw[this]at k9;omega
 ·refine b3s (λt ht x hx=>?_) hnE hq (λt x hx=>?_) (by omega) λx hx=>h.lt x (by rw[k4];exact List.mem_append_left _ hx)
  ·rw[k6 t (by omega),List.getD_eq_getElem?_getD,List.getElem?_append_left (by rw[P6];exact ht),hx];rfl
  ·unfold qit;rw[k2.a.s1,k2.a.u.c _ _ hx];rfl
 ·have:=k6 (1+w+w*E.length) (by omega);rw[List.getD_eq_getElem?_getD,List.getElem?_append_right (by rw[P6];exact Nat.le_refl _),P6]at this;rw[show l+1+w+w*E.length=l+(1+w+w*E.length) by omega,this];simp
 ·rw[e3 4];rw[hpos 4 (by omega)]at k8;omega
 ·have hx:=e4 t ht;have ht4:t<4:=by rw[<-k2.a.kl];exact(List.getElem?_eq_some_iff.1 hx).1
  have:=k7 t ht4;rw[hpos t (by omega),Y9 k2 _ _ hx]at this;rw[e3 t,show l+2+w+w*E.length+J8 ks t=l+(2+w+w*E.length+J8 ks t) by omega,this];rfl
 ·obtain⟨x,hx,g1,g2,g3,g4,g5⟩:=e5 t kk ht;have ht4:t<4:=by rw[<-k2.a.kl];exact(List.getElem?_eq_some_iff.1 hx).1
  have:=k7 t ht4;rw[hpos t (by omega),Y9 k2 _ _ hx]at this;rw[Nat.zero_add]at g2 g5;rw[e3 t,e3 4];refine⟨?_,g2,g3,g4,g5⟩;rw[show l+2+w+w*E.length+J8 ks t=l+(2+w+w*E.length+J8 ks t) by omega,this];rfl
end
noncomputable section
def qcH(ts:List Nat)(a0 a1 a2 a3:Nat)(q:RM):A1:=[(0,rwO ts q),(1,⟨true,102, .cells [.flt .f64 a0, .flt .f64 a1, .flt .f64 a2, .flt .f64 a3],0⟩)]
def c4b(ts:List Nat)(a0 a1 a2 a3:Nat)(q:RM)(g:Nat->Int):A1:=[(0,rwO ts q),(1,⟨true,102, .cells [.flt .f64 a0, .flt .f64 a1, .flt .f64 a2, .flt .f64 a3],0⟩),(2,⟨true,206, .ints .i64 4 g,0⟩)]
def q1L(ts:List Nat)(q:RM)(b0 b c l kk a0 a1 a2 a3:Nat):R5:=⟨⟨Nat×Int,λp=>⟨143,[(0, .pb 0 b0 0),(1, .slb 0 b c l kk),(5, .ptr 1 0),(7, .int .u8 p.2),(8, .int .i64 p.1)],qcH ts a0 a1 a2 a3 q,2⟩,q1P q b0,λp=>qnL q b0-p.1⟩,λ_=>[]⟩
def q2L(ts:List Nat)(q:RM)(b0 b c l a0 a1 a2 a3:Nat):R5:=⟨⟨C1,λp=>⟨143,[(0, .pb 0 b0 0),(1, .slb 0 p.i.b p.i.c p.i.l p.i.k),(5, .ptr 1 0),(7, .int .u8 p.w),(10, .int .i64 p.j)],qcH ts a0 a1 a2 a3 p.i.q,2⟩,q2P q b0 b c l,λp=>qnL q b0-p.j⟩,λ_=>[]⟩
def q3L(ts:List Nat)(q:RM)(b0 b c l a0 a1 a2 a3:Nat):R5:=⟨⟨QC,λp=>⟨143,[(0, .pb 0 b0 0),(1, .slb 0 p.i.b p.i.c p.i.l p.i.k),(5, .ptr 1 0),(11, .ptr 2 0),(12, .int .i64 p.j)],c4b ts a0 a1 a2 a3 p.i.q p.g,3⟩,q3P q b0 b c l,λp=>4-p.j⟩,λ_=>[]⟩
def q4L(ts:List Nat)(q:RM)(b0 b c l a0 a1 a2 a3:Nat):R5:=⟨⟨QC,λp=>⟨143,[(0, .pb 0 b0 0),(1, .slb 0 p.i.b p.i.c p.i.l p.i.k),(5, .ptr 1 0),(11, .ptr 2 0),(13, .int .i64 p.j)],c4b ts a0 a1 a2 a3 p.i.q p.g,3⟩,q4P q b0 ⟨a0,a1,a2,a3⟩ b c l,λp=>4-p.j⟩,λ_=>[]⟩
def a6A(K:Nat):List SV->RRd DI
 | [.pb n b0 c0, .slb n1 b c l kk, .agg [.flt .f64 a0, .flt .f64 a1, .flt .f64 a2, .flt .f64 a3]]=>.read n λo0=>(match I5 o0 with
  | some (ts,q)=>.ret ⟨[.pb 0 b0 0, .slb 0 b c l kk, .agg [.flt .f64 a0, .flt .f64 a1, .flt .f64 a2, .flt .f64 a3]],[(0,rwO ts q)],some (n=n1/\0=c0/\(qmO q b0 ⟨a0,a1,a2,a3⟩ b c l kk K)),λi=>qmP q b0 ⟨a0,a1,a2,a3⟩ b c l i,λi=>⟨[],[], .slb 0 i.b i.c i.l i.k,[(0,rwO ts (i.q))],[],none⟩⟩
  | none=>.fail)
 | _=>.fail
def GQc:Ctx:=⟨⟨tys,[]⟩,[(125,z4 b3n),(124,z4 b0F)]⟩
theorem gQc:B7 prog GQc:=⟨⟨E1,FlatsOk.nil⟩,j9.cons (.pure c5w) (j9.cons (.pure c2i) j9.nil),by kernel_rfl⟩
def X12(H:Nat):F3:=⟨GQc,[(118,o9 DI ⟨default⟩ (a6A H)),(121,o9 Unit ⟨()⟩ a7F),(126,o9 DI ⟨default⟩ a5g)],[],[],[(185,0)]⟩
theorem x12(H:Nat)(ih:z0 prog 118 (o9 DI ⟨default⟩ (a6A H))):A7 prog (X12 H):=⟨gQc,q8.cons ih (q8.cons b8w (q8.cons b7Q q8.nil))⟩
def c1J(K:Nat):List SV->RRd (DI)
 | [.pb n b0 c0, .slb n1 b c l kk, .agg [.flt .f64 a0, .flt .f64 a1, .flt .f64 a2, .flt .f64 a3]]=>.read n λo0=>(match I5 o0 with
  | some (ts,q)=>.ret ⟨[.pb 0 b0 0, .slb 0 b c l kk, .agg [.flt .f64 a0, .flt .f64 a1, .flt .f64 a2, .flt .f64 a3]],[(0,rwO ts q)],some (n=n1/\0=c0/\(qmO q b0 ⟨a0,a1,a2,a3⟩ b c l kk K)),λi=>qmP q b0 ⟨a0,a1,a2,a3⟩ b c l i,λi=>⟨[],[], .slb 0 i.b i.c i.l i.k,[(0,rwO ts (i.q))],[],none⟩⟩
  | none=>.fail)
 | _=>.fail
theorem b8o(R:Option Ob->SV->Prop)(H:Nat)(ts:List Nat)(q:RM)(b0 b c l kk a0 a1 a2 a3:Nat){T1}(t1:T1=λ(i:QC)=>(pB (pB (pB (DI.q (QC.i i)).3 (DI.b (QC.i i)) (DI.c (QC.i i)+toNat (i.4 (0+toNat (↑(QC.j i):Int)*1))*1) (wrap IntKind.u32 (↑(DI.l (QC.i i)):Int)) 0) (DI.b (QC.i i)) (DI.c (QC.i i)+toNat (i.4 (0
 + toNat (↑(QC.j i):Int)*1))*1) (wrap IntKind.u32 (↑(DI.l (QC.i i)):Int)) 1) (DI.b (QC.i i)) (DI.c (QC.i i)+toNat (i.4 (0+toNat (↑(QC.j i):Int)*1))*1) (wrap IntKind.u32 (↑(DI.l (QC.i i)):Int))
 2)){T2}(t2:T2=(102=102/\0=0/\a0=a0/\a1=a1/\a2=a2/\a3=a3/\True)){T3}(t3:T3=λ(i:QC)=>(↑(QC.j i):Int)){T4}(t4:T4=λ(i:QC)=>(pB (T1 i) (DI.b (QC.i i)) (DI.c (QC.i i)+toNat (i.4 (0+toNat (T3 i)*1))*1)
 (wrap IntKind.u32 (↑(DI.l (QC.i i)):Int)) 3 b0 (2+toNat (T3 i)*1))){T5}(t5:T5=λ(i:QC)=>(p4R (RM.mk (RM.D (DI.q (QC.i i))) (RM.S (DI.q (QC.i i))) (RM.F (DI.q (QC.i i)))) (DI.b (QC.i i)) (DI.c (QC.i i)+toNat (QC.g i (0 +
 toNat (T3 i)*TI.size ty3))*TI.size ty5) (wrap IntKind.u32 (↑(DI.l (QC.i i)):Int)))){T6}(t6:T6=λ(i:C1)=>(DI.q (C1.i i))){T7}(t7:T7=λ(i:QC)=>(DI.q (QC.i i))){T8}(t8:T8=(True/\b0=b0/\0=0)){T9}(t9:T9=λ(i:C1)=>((T6 i).3
 (slB ((T6 i).3 b0 1)) (slC ((T6 i).3 b0 1)+toNat (↑(C1.j i):Int)*1))){T10}(t10:T10=(True/\0=0)){T11}(t11:T11=λ(i:Nat×Int)=>(q.3 (slB (q.3 b0 1)) (slC (q.3 b0 1)+toNat (↑(i.1):Int)*1))){T12}(t12:T12=(Q4.mk a0 a1 a2
 a3)){T13}(t13:T13=λ(i:QC)=>(RM.mk (RM.D (T5 i)) (T7 i).2 (pB (T1 i) (DI.b (QC.i i)) (DI.c (QC.i i)+toNat (i.4 (0+toNat (T3 i)*1))*1) (wrap IntKind.u32 (↑(DI.l (QC.i i)):Int)) 3))){T14}(t14:T14=λ(i:QC)=>((T7 i).3 b0 (2
 + toNat (T3 i)*1))){T15}(t15:T15=(0=0/\0=0/\ts=ts/\q.3=q.3/\q.2=q.2/\RM.D q=RM.D q)){T16}(t16:T16=λ(pq:QC)=>(DI.q (QC.i pq))){T17}(t17:T17=λ(i:QC) (pq:QC)=>(True/\DI.b (QC.i i)=DI.b (QC.i pq)/\DI.c (QC.i i)=DI.c
 (QC.i pq)/\DI.l (QC.i i)=DI.l (QC.i pq)/\DI.k (QC.i i)=DI.k (QC.i pq))){T18}(t18:T18=λ(i:QC)=>(0+toNat (T3 i)*1)){T19}(t19:T19=(True/\b=b/\c=c/\l=l/\kk=kk)){T20}(t20:T20=λ(i:QC) (pq:QC)=>(0=0/\0=0/\ts=ts/\(T7
 i).3=(T16 pq).3/\(T7 i).2=(T16 pq).2/\RM.D (T7 i)=RM.D (T16 pq))){T21}(t21:T21=(↑(slL (q.3 b0 1)):Int)){T22}(t22:T22=λ(i:QC)=>(DI.b (QC.i i))){T23}(t23:T23=λ(i:QC)=>(Q4.mk (qb0 T12 (T3 i)) (qb1 T12 (T3 i)) (qb2 T12 (T3 i)) (qb3 T12
 (T3 i)))){T24}(t24:T24=λ(i:QC)=>(DI.l (QC.i i))){T25}(t25:T25=λ(i:QC) (pq:QC)=>(206=206/\0=0/\4<=4/\∀ (i_4:Nat),i_4<4->i.4 i_4=pq.4 i_4)){T26}(t26:T26=λ(i:C1)=>(↑(C1.j i):Int)){T27}(t27:T27=λ(pq:QC)=>(↑(QC.j pq) :
 Int)){T28}(t28:T28=λ(i:C1)=>((T6 i).3 b0 1)):K8 (X12 H) 1 [(3,q1L ts q b0 b c l kk a0 a1 a2 a3),(11,q2L ts q b0 b c l a0 a1 a2 a3),(20,q3L ts q b0 b c l a0 a1 a2 a3),(28,q4L ts q b0 b c l a0 a1 a2 a3)] [] (p9 f118) (A6 f118.ntmps [.pb 0 b0 0, .slb 0 b c l kk, .agg [.flt .f64 a0, .flt .f64 a1, .flt .f64 a2, .flt .f64 a3]] [(0,rwO ts q)] 1) (A8 (X12 H).G.E.T f118.results.toList λS v=>R (Go.Sx.look S.H 0) v)=(
 (q.1 b0/\1<q.2 b0)/\isSlN (q.3 b0 1)/\(∃(pq:Nat×Int),q1P q b0 pq/\(T8/\T19/\T10/\nbI (wrap IntKind.u32 T21)=pq.2/\0=(↑(pq.1):Int)/\True)/\True/\T15/\True/\T2/\True)/\∀(i:Nat×Int),q1P q b0 i->(q.1 b0/\1 <
 q.2 b0)/\isSlN (q.3 b0 1)/\(decide ((↑(i.1):Int)<T21)=true->(q.1 b0/\1<q.2 b0)/\(a5G (q.3 b0 1)/\0<=(↑(i.1):Int)/\(↑(i.1):Int)<T21)/\(q.1 (slB (q.3 b0 1))/\slC (q.3 b0 1)+toNat (↑(i.1):Int)*1<q.2 (slB (q.3 b0 1))
 /\B9 IntKind.u32 (T11 i))/\(decide (i.2<nbI (p7 (T11 i)))=true->∃(pq:Nat×Int),q1P q b0 pq/\qnL q b0-pq.1<qnL q b0-i.1/\(T8/\T19/\T10/\nbI (p7 (T11 i))=pq.2/\wrap .i64 ((↑(i.1):Int)+1)=(↑(pq.1):Int)/\
 True)/\True/\T15/\True/\T2/\True)/\(decide (i.2<nbI (p7 (T11 i)))=false->∃(pq:Nat×Int),q1P q b0 pq/\qnL q b0-pq.1<qnL q b0-i.1/\(T8/\T19/\T10/\i.2=pq.2/\wrap .i64 ((↑(i.1):Int)+1)=(↑(pq.1):Int)/\True)
 /\True/\T15/\True/\T2/\True))/\(decide ((↑(i.1):Int)<T21)=false->∀(i_1:ApI),appO (RM.D q) q.2 1 1 b c l kk 1/\(P1 (RM.D q) q.2 q.3 1 b c l kk 1 [Value.int .u8 (i.2)] i_1->(i_1.4 b0/\1<i_1.5 b0)/\isSlN (i_1.6 b0 1)/\∀(i_2 :
 DI),((byO (RM.mk (ApI.D i_1) i_1.5 i_1.6) i_1.1 i_1.2 (l+1) i_1.3/\l+1<=1000000000)/\((0:Int)<=wrap IntKind.u32 (↑(slL (i_1.6 b0 1)):Int)/\wrap IntKind.u32 (↑(slL (i_1.6 b0 1)):Int)<4294967296)/\(i.2=(1:Int)∨
 i.2=(2:Int)∨i.2=(4:Int)))/\(apd (RM.mk (ApI.D i_1) i_1.5 i_1.6) i_1.1 i_1.2 (l+1) (byL (wrap IntKind.u32 (↑(slL (i_1.6 b0 1)):Int)) (toNat (i.2))) i_2->(∃(pq:C1),q2P q b0 b c l pq/\(T8/\(True/\DI.b i_2=DI.b (C1.i
 pq)/\DI.c i_2=DI.c (C1.i pq)/\DI.l i_2=DI.l (C1.i pq)/\DI.k i_2=DI.k (C1.i pq))/\T10/\i.2=C1.w pq/\0=(↑(C1.j pq):Int)/\True)/\True/\(0=0/\0=0/\ts=ts/\(DI.q i_2).3=(DI.q (C1.i pq)).3/\(DI.q i_2).2=(DI.q (C1.i pq)).2
 /\RM.D (DI.q i_2)=RM.D (DI.q (C1.i pq)))/\True/\T2/\True)/\∀(i:C1),q2P q b0 b c l i->((T6 i).1 b0/\1<(T6 i).2 b0)/\isSlN (T28 i)/\(decide ((T26 i)<(↑(slL (T28 i)):Int))=true->((T6 i).1 b0/\1<(T6 i).2 b0)/\(a5G (T28 i)/\0
 <=(T26 i)/\(T26 i)<(↑(slL (T28 i)):Int))/\((T6 i).1 (slB (T28 i))/\slC (T28 i)+toNat (T26 i)*1<(T6 i).2 (slB (T28 i))/\B9 IntKind.u32 (T9 i))/\∀(i_3:DI),((byO (RM.mk (RM.D (T6 i)) (T6 i).2 (T6 i).3) (DI.b (C1.i i)) (DI.c
 (C1.i i)) (DI.l (C1.i i)) (DI.k (C1.i i))/\DI.l (C1.i i)<=1000000000)/\((0:Int)<=p7 (T9 i)/\p7 (T9 i)<(4294967296:Int))/\(C1.w i=(1:Int)∨C1.w i=(2:Int)∨C1.w i=(4:Int)))/\(apd (RM.mk (RM.D (T6 i)) (T6 i).2 (T6 i).3)
 (DI.b (C1.i i)) (DI.c (C1.i i)) (DI.l (C1.i i)) (byL (p7 (T9 i)) (toNat (C1.w i))) i_3->∃(pq:C1),q2P q b0 b c l pq/\qnL q b0-C1.j pq<qnL q b0-C1.j i/\(T8/\(True/\DI.b i_3=DI.b (C1.i pq)/\DI.c i_3=DI.c (C1.i pq)/\DI.l i_3 =
 DI.l (C1.i pq)/\DI.k i_3=DI.k (C1.i pq))/\T10/\C1.w i=C1.w pq/\wrap .i64 ((T26 i)+1)=(↑(C1.j pq):Int)/\True)/\True/\(0=0/\0=0/\ts=ts/\(DI.q i_3).3=(DI.q (C1.i pq)).3/\(DI.q i_3).2=(DI.q (C1.i pq)).2/\RM.D (DI.q
 i_3)=RM.D (DI.q (C1.i pq)))/\True/\T2/\True))/\(decide ((T26 i)<(↑(slL (T28 i)):Int))=false->((T6 i).1 b0/\0<(T6 i).2 b0/\b1c ((T6 i).3 b0 0))/\((!Z8 ((T6 i).3 b0 0))=true->∀(i_3:ApI),appO (RM.D (T6 i)) (T6 i).2 1 1 (DI.b
 (C1.i i)) (DI.c (C1.i i)) (DI.l (C1.i i)) (DI.k (C1.i i)) 1/\(P1 (RM.D (T6 i)) (T6 i).2 (T6 i).3 1 (DI.b (C1.i i)) (DI.c (C1.i i)) (DI.l (C1.i i)) (DI.k (C1.i i)) 1 [Value.int .u8 (0:Int)] i_3->R (Option.some (Ob.mk true 0 (a9.raw ts (ApI.D
 i_3) i_3.5 i_3.6) 0)) (SV.slb 0 i_3.1 i_3.2 (DI.l (C1.i i)+1) i_3.3)))/\((!Z8 ((T6 i).3 b0 0))=false->∀(i_3:ApI),appO (RM.D (T6 i)) (T6 i).2 1 1 (DI.b (C1.i i)) (DI.c (C1.i i)) (DI.l (C1.i i)) (DI.k (C1.i i)) 1/\(P1 (RM.D (T6 i)) (T6
 i).2 (T6 i).3 1 (DI.b (C1.i i)) (DI.c (C1.i i)) (DI.l (C1.i i)) (DI.k (C1.i i)) 1 [Value.int .u8 (1:Int)] i_3->(∃(pq:QC),q3P q b0 b c l pq/\(T8/\(True/\i_3.1=DI.b (QC.i pq)/\i_3.2=DI.c (QC.i pq)/\DI.l (C1.i i)+1=DI.l (QC.i pq)/\
 i_3.3=DI.k (QC.i pq))/\T10/\T10/\0=(T27 pq)/\True)/\True/\(0=0/\0=0/\ts=ts/\i_3.6=(T16 pq).3/\i_3.5=(T16 pq).2/\ApI.D i_3=RM.D (T16 pq))/\True/\T2/\True/\(206=206/\0=0/\4<=4/\∀(i:Nat),i<4->List.getD [(0 :
 Int),(0:Int),(0:Int),(0:Int)] i (0:Int)=pq.4 i)/\True)/\∀(i:QC),q3P q b0 b c l i->(decide ((T3 i)<4)=true->(0<=(T3 i)/\(T3 i)<(4:Int))/\((T7 i).1 b0/\2+toNat (T3 i)*1<(T7 i).2 b0)/\a3l (T14 i)/\(R0
 (T14 i)=true->∀(i_4:ApI),appO (RM.D (T7 i)) (T7 i).2 1 1 (T22 i) (DI.c (QC.i i)) (T24 i) (DI.k (QC.i i)) 1/\(P1 (RM.D (T7 i)) (T7 i).2 (T7 i).3 1 (T22 i) (DI.c (QC.i i)) (T24 i) (DI.k (QC.i i)) 1 [Value.int .u8 (0:Int)] i_4->∃(pq:QC),
 q3P q b0 b c l pq/\4-QC.j pq<4-QC.j i/\(T8/\(True/\i_4.1=DI.b (QC.i pq)/\i_4.2=DI.c (QC.i pq)/\DI.l (QC.i i)+1=DI.l (QC.i pq)/\i_4.3=DI.k (QC.i pq))/\T10/\T10/\wrap .i64 ((T3 i)+(1:Int))=(T27 pq)/\True)/\True
 /\(0=0/\0=0/\ts=ts/\i_4.6=(T16 pq).3/\i_4.5=(T16 pq).2/\ApI.D i_4=RM.D (T16 pq))/\True/\T2/\True/\(206=206/\0=0/\4<=4/\∀(i_5:Nat),i_5<4->i.4 i_5=pq.4 i_5)/\True))/\(R0 (T14 i)=false->∀(i_4:ApI),appO
 (RM.D (T7 i)) (T7 i).2 1 1 (T22 i) (DI.c (QC.i i)) (T24 i) (DI.k (QC.i i)) 1/\(P1 (RM.D (T7 i)) (T7 i).2 (T7 i).3 1 (T22 i) (DI.c (QC.i i)) (T24 i) (DI.k (QC.i i)) 1 [Value.int .u8 (1:Int)] i_4->((0<=(T3 i)/\(T3 i)<4)/\1<=4)/\0 +
 toNat (T3 i)*1+1<=4/\∀(i_5:ApI),appO (ApI.D i_4) i_4.5 1 1 i_4.1 i_4.2 (DI.l (QC.i i)+1) i_4.3 4/\(P1 (ApI.D i_4) i_4.5 i_4.6 1 i_4.1 i_4.2 (DI.l (QC.i i)+1) i_4.3 4 [Value.int .u8 (0:Int),Value.int .u8 (0:Int),Value.int
 .u8 (0:Int),Value.int .u8 (0:Int)] i_5->∃(pq:QC),q3P q b0 b c l pq/\4-QC.j pq<4-QC.j i/\(T8/\(True/\i_5.1=DI.b (QC.i pq)/\i_5.2=DI.c (QC.i pq)/\DI.l (QC.i i)+1+4=DI.l (QC.i pq)/\i_5.3=DI.k (QC.i pq))/\T10/\T10/\
 wrap .i64 ((T3 i)+1)=(T27 pq)/\True)/\True/\(0=0/\0=0/\ts=ts/\i_5.6=(T16 pq).3/\i_5.5=(T16 pq).2/\ApI.D i_5=RM.D (T16 pq))/\True/\T2/\True/\(206=206/\0=0/\4<=4/\∀(i_6:Nat),i_6<4->upd (QC.g i) (T18 i)
 (↑(DI.l (QC.i i)+1):Int) i_6=pq.4 i_6)/\True))))/\(decide ((T3 i)<4)=false->(∃(pq:QC),q4P q b0 T12 b c l pq/\(T8/\(T17 i pq)/\T10/\T10/\(0:Int)=(T27 pq)/\True)/\True/\(T20 i pq)/\True/\T2/\True/\(T25 i pq)/\True)/\∀
 (i:QC),q4P q b0 T12 b c l i->(decide ((T3 i)<4)=true->(0<=(T3 i)/\(T3 i)<(4:Int))/\((T7 i).1 b0/\2+toNat (T3 i)*1<(T7 i).2 b0)/\a3l (T14 i)/\((!R0 (T14 i))=true->∀(_:Unit),((0<=(T3 i)/\(T3 i)<4)/\1<=4)/\
 0+toNat (T3 i)*1+1<=4/\((0:Int)<=i.4 (T18 i)/\toNat (i.4 (T18 i))<=DI.l (QC.i i)/\toNat (i.4 (T18 i))<DI.k (QC.i i))/\(((0:Int)<=wrap IntKind.u32 (↑(T24 i):Int)/\wrap IntKind.u32 (↑(T24 i):Int) <
 4294967296)/\(4<=DI.l (QC.i i)-toNat (i.4 (T18 i))/\(T7 i).1 (T22 i)/\DI.c (QC.i i)+toNat (i.4 (T18 i))*1+4<=(RM.mk (RM.D (T7 i)) (RM.S (T7 i)) (RM.F (T7 i))).2 (T22 i))/\B9 .u8 ((RM.mk (RM.D (T7 i)) (RM.S (T7 i)) (RM.F (T7
 i))).3 (T22 i) (DI.c (QC.i i)+toNat (i.4 (T18 i))*1+3)))/\true=true/\(True->∀(i_5:DI),(0<=(T3 i)/\(T3 i)<4)/\((T7 i).1 b0/\2+toNat (T3 i)*1<(T5 i).2 b0)/\((midOk a0 a2/\midOk a1 a3)/\0<=(T3 i)/\(T3 i)<4)/\
 ((0=0/\0=ptC (T4 i)/\qmO (T13 i) (ptB (T4 i)) (T23 i) (T22 i) (DI.c (QC.i i)) (T24 i) (DI.k (QC.i i)) H)/\a1d (T4 i))/\true=true/\(qmP (T13 i) (ptB (T4 i)) (T23 i) (T22 i) (DI.c (QC.i i)) (T24 i) i_5->∃(pq:QC),q4P q b0 T12 b c l pq/\
 4-QC.j pq<4-QC.j i/\(T8/\(True/\DI.b i_5=DI.b (QC.i pq)/\DI.c i_5=DI.c (QC.i pq)/\DI.l i_5=DI.l (QC.i pq)/\DI.k i_5=DI.k (QC.i pq))/\T10/\T10/\wrap .i64 ((T3 i)+1)=(T27 pq)/\True)/\True/\(0=0/\0=0/\ts=ts
 /\(DI.q i_5).3=(T16 pq).3/\(DI.q i_5).2=(T16 pq).2/\RM.D (DI.q i_5)=RM.D (T16 pq))/\True/\T2/\True/\(206=206/\0=0/\4<=4/\∀(i_6:Nat),i_6<4->i.4 i_6=pq.4 i_6)/\True)))/\((!R0 (T14 i))=false->∃(pq:QC),q4P q b0 T12
 b c l pq/\4-QC.j pq<4-QC.j i/\(T8/\(T17 i pq)/\T10/\T10/\wrap .i64 ((T3 i)+1)=(T27 pq)/\True)/\True/\(T20 i pq)/\True/\T2/\True/\(T25 i pq)/\True))/\(decide ((T3 i)<4)=false->R (Option.some (Ob.mk true 0
 (a9.raw ts (RM.D (T7 i)) (T7 i).2 (T7 i).3) 0)) (SV.slb 0 (T22 i) (DI.c (QC.i i)) (T24 i) (DI.k (QC.i i)))))))))))):=by subst t1 t2 t3 t4 t5 t6 t7 t8 t9 t10 t11 t12 t13 t14 t15 t16 t17 t18 t19 t20 t21 t22 t23 t24 t25 t26 t27 t28;kernel_rfl
theorem c7g(H:Nat)(ih:z0 prog 118 (o9 DI ⟨default⟩ (a6A H))):z0 prog 118 (o9 (DI) ⟨default⟩ (c1J (H+1))):=by
 refine D7 (x12 H ih) func118 rfl (by kernel_rfl) λargs=>?_
 unfold c1J;split;rotate_left;trivial;rename_i n b0 c0 n1 b c l kk a0 a1 a2 a3;intro o0;try dsimp only
 split;rotate_left;trivial;rename_i ts q hm0;intro(ho:n=n1/\0=c0/\(qmO q b0 ⟨a0,a1,a2,a3⟩ b c l kk (H+1)));obtain⟨heq0,heq1,ho⟩:=ho;subst heq0 heq1;refine⟨?_,Nat.succ_pos _,ts,λ(i:DI)=>i.q,λ(i:DI)=>.slb 0 i.b i.c i.l i.k,λ_=>rfl,?_,_,_,(b8o (I7 1 ts (λ(i:DI)=>qmP q b0 ⟨a0,a1,a2,a3⟩ b c l i) (λ(i:DI)=>i.q) (λ(i:DI)=>.slb 0 i.b i.c i.l i.k)) H ts q b0 b c l kk a0 a1 a2 a3 rfl rfl rfl rfl rfl rfl rfl rfl rfl rfl rfl rfl rfl rfl rfl rfl rfl rfl rfl rfl rfl rfl rfl rfl rfl rfl rfl rfl).mpr ?_⟩
 ·refine j8 rfl ⟨λ_=>rfl,?_,⟨trivial,B8 hm0,trivial⟩⟩;simp[q9,z5,C0,z8,z3,nth,g9]
 ·intro i _;rfl
 ·obtain⟨hO,R,m,d,k,hA,hbd,hdK,hd16,hQB⟩:=ho;obtain⟨s1,s2,s3,s4,s5,s6⟩:=hA.sl;have hL:slL (q.F b0 1)=qnL q b0:=rfl
  have hw32:∀ v:Nat,v<=100000000->wrap .u32 ((v:Nat):Int)=((v:Nat):Int):=λv hv=>by
   show ((v:Nat):Int) % 4294967296=_;omega
  have hI:∀ t,p7 (q.F (slB (q.F b0 1)) (slC (q.F b0 1)+t))=qit q b0 t:=λ_=>rfl
  simp only[true_and,and_true,eq_self,tN9,Nat.mul_one,decide_eq_true_eq,decide_eq_false_iff_not,true_implies];simp only[hL,hw32 _ (show qnL q b0<=100000000 by omega),hI];refine⟨⟨s5,by omega⟩,s1,⟨(0,nbI (qnL q b0:Nat)),⟨Nat.zero_le _,b2x _,Int.le_refl _,λt ht=>absurd ht (Nat.not_lt_zero t)⟩,rfl,rfl⟩,?_⟩;rintro⟨j,w⟩ ⟨p1,p2,p3,p4⟩;dsimp only at p1 p2 p3 p4 ⊢;refine⟨⟨s5,by omega⟩,s1,λhlt=>?_,λhge=>?_⟩
  ·obtain⟨i1,i2,i3,i4,i5⟩:=hA.item (apd.refl hO) (t:=j) (by omega);have hwj:IntKind.i64.wrap ((j:Int)+1)=((j+1:Nat):Int):=by rw[j5 (by omega) (by omega)];rfl
   refine⟨⟨s5,by omega⟩,⟨i1,by omega,by omega⟩,⟨i2.1,i2.2,by rw[i3];rfl⟩,λhw=>⟨(j+1,nbI (qit q b0 j)),⟨by show j+1<=_;omega,b2x _,by show _<=nbI (qit q b0 j);omega,λt ht=>?_⟩,by show qnL q b0-(j+1)<qnL q b0-j;omega,rfl,hwj⟩,λhw=>⟨(j+1,w),⟨by show j+1<=_;omega,p2,p3,λt ht=>?_⟩,by show qnL q b0-(j+1)<qnL q b0-j;omega,rfl,hwj⟩⟩
   ·show nbI (qit q b0 t)<=nbI (qit q b0 j);have ht:t<j+1:=ht;rcases Nat.lt_or_ge t j with c1|c1
    ·have:=p4 t c1;omega
    ·have:t=j:=by omega
     subst this;exact Int.le_refl _
   ·show nbI (qit q b0 t)<=w;have ht:t<j+1:=ht;rcases Nat.lt_or_ge t j with c1|c1
    ·exact p4 t c1
    ·have:t=j:=by omega
     subst this;omega
  have hj:j=qnL q b0:=by omega
  subst hj;have hq1:q1P q b0 (qnL q b0,w):=⟨Nat.le_refl _,p2,p3,p4⟩;have hl8:l<=100000000:=by omega
  obtain⟨wn,hwn,hw4,hw1⟩:=p2.nat;refine λi=>⟨K6 hO (by omega) (by omega),λhp=>?_⟩
  have a1:=J7 hO (us:=[w]) rfl (by intro x hx;simp at hx;subst hx;exact p2.r) rfl hp;obtain⟨⟨b1,b2⟩,b3⟩:=hA.off a1;dsimp only at b1 b2 b3;simp only[b3,hL,hw32 _ (show qnL q b0<=100000000 by omega)];refine⟨⟨b1,by omega⟩,s1,λi2=>⟨⟨⟨a1.o,by omega⟩,⟨by omega,by omega⟩,p2⟩,λhp2=>?_⟩⟩;have a2:=a1.trans hp2;refine⟨⟨⟨i2,0,w⟩,⟨?_,hq1,Nat.zero_le _⟩,⟨⟨rfl,rfl,rfl,rfl⟩,rfl,rfl⟩,rfl,rfl,rfl⟩,?_⟩
  ·have:qhI q b0 w 0=[w]++byL (qnL q b0:Nat) w.toNat:=by simp[qhI]
   show apd q b c l (qhI q b0 w 0) i2;rw[this];exact a2
  clear a1 a2 b1 b2 b3 hp hp2 hge;rintro⟨i3,j,w2⟩ ⟨g1,g2,g3⟩;dsimp only at g1 g2 g3 ⊢;obtain⟨⟨b1,b2⟩,b3⟩:=hA.off g1;obtain⟨wn2,rfl,hw24,hw21⟩:=g2.2.1.nat;have hlen:=g1.n;rw[P6]at hlen;have hm:=a5t (n:=j) hw24
  have hqb:26+4*qnL q b0<=qBy d k.its.length:=by
   obtain⟨sp,v,E,ks,_,_,_,e4,_⟩:=hA.its;obtain⟨_,_,_,_,f1,_,_,f4,_⟩:=hA.node;have:qnL q b0<=k.its.length:=by unfold qnL;rw[f1.s1,f1.u.n];exact f4
   have h2:26*1<=26*(1+d*k.its.length):=Nat.mul_le_mul_left _ (by omega);unfold qBy;omega
  simp only[b3,hL];refine⟨⟨b1,by omega⟩,s1,λhlt=>?_,λhge=>?_⟩
  ·obtain⟨i1,i2',i3',i4,i5⟩:=hA.item g1 (t:=j) (by omega);have hwj:IntKind.i64.wrap ((j:Int)+1)=((j+1:Nat):Int):=by rw[j5 (by omega) (by omega)];rfl
   simp only[i3',p7];refine⟨⟨b1,by omega⟩,⟨i1,by omega,by omega⟩,⟨i2'.1,i2'.2,rfl⟩,λi6=>⟨⟨⟨g1.o,by omega⟩,⟨i4,i5⟩,g2.2.1⟩,λhp=>⟨⟨i6,j+1,(wn2:Int)⟩,⟨?_,g2,by show j+1<=_;omega⟩,by show qnL q b0-(j+1)<qnL q b0-j;omega,⟨⟨rfl,rfl,rfl,rfl⟩,rfl,hwj⟩,rfl,rfl,rfl⟩⟩⟩;show apd q b c l (qhI q b0 (wn2:Int) (j+1)) i6;rw[b5u];exact g1.trans hp
  have hj:j=qnL q b0:=by omega
  subst hj;refine⟨⟨b1,by omega,s2⟩,λhs=>λi4=>⟨K6 g1.o (by omega) (by omega),λhp=>?_⟩,λhs=>λi4=>⟨K6 g1.o (by omega) (by omega),λhp=>?_⟩⟩
  ·have a1:=g1.trans (J7 g1.o (us:=[0]) rfl (by decide) rfl hp);have hs':Z8 (q.F b0 0)=false:=by simpa using hs
   exact⟨⟨⟨i4.D,i4.S,i4.F⟩,i4.b,i4.c,i3.l+1,i4.k⟩,λR' m' d' k' hA' hbd'=>c2t hA' hs' a1 g2,rfl,⟨trivial,rfl,rfl,rfl,rfl⟩⟩
  have hs':Z8 (q.F b0 0)=true:=by simpa using hs
  have a1:=g1.trans (J7 g1.o (us:=[1]) rfl (by decide) rfl hp);rw[<-a6c]at a1;refine⟨⟨⟨⟨⟨i4.D,i4.S,i4.F⟩,i4.b,i4.c,i3.l+1,i4.k⟩,0,(wn2:Int),λ_=>0⟩,⟨hs',a1,g2,Nat.zero_le _,λt ht=>absurd ht (Nat.not_lt_zero t)⟩,⟨⟨rfl,rfl,rfl,rfl⟩,rfl⟩,⟨rfl,rfl,rfl⟩,Nat.le_refl _,λt ht=>?_⟩,?_⟩
  ·match t,ht with
   | 0,_=>rfl
   | 1,_=>rfl
   | 2,_=>rfl
   | 3,_=>rfl
  clear a1 hp b1 b2 b3 g1 hlen hm;obtain⟨e,rfl⟩:=hA.pos hs';rintro⟨i5,j,w3,gm⟩ ⟨_,g1,g3,g4,g5⟩;dsimp only at g1 g3 g4 g5 ⊢;obtain⟨⟨b1,b2⟩,b3⟩:=hA.off g1;have hF4:=b8t (w:=w3) hA hs' g3.2.1;have hFj:=a0q (q:=q) (b0:=b0) w3 g4;have hlen:=g1.n;have hN:∀ t,R0 (q.F b0 (2+t))=a3Y q b0 t:=λ_=>rfl
  simp only[b3,hN];refine⟨λhlt=>?_,λhge=>?_⟩
  ·have hwj:IntKind.i64.wrap ((j:Int)+1)=((j+1:Nat):Int):=by rw[j5 (by omega) (by omega)];rfl
   refine⟨⟨by omega,by omega⟩,⟨b1,by omega⟩,s4 j (by omega),λhn i6=>⟨K6 g1.o (by omega) (by omega),λhp=>?_⟩,λhn i6=>⟨K6 g1.o (by omega) (by omega),λhp=>⟨⟨⟨by omega,by omega⟩,by omega⟩,by omega,λi7=>⟨?_,λhp2=>?_⟩⟩⟩⟩
   ·have a1:=g1.trans (J7 g1.o (us:=[0]) rfl (by decide) rfl hp);refine⟨⟨⟨⟨i6.D,i6.S,i6.F⟩,i6.b,i6.c,i5.l+1,i6.k⟩,j+1,w3,gm⟩,⟨hs',?_,g3,by show j+1<=4;omega,λt ht ht2=>?_⟩,by show 4-(j+1)<4-j;omega,⟨⟨rfl,rfl,rfl,rfl⟩,hwj⟩,⟨rfl,rfl,rfl⟩,Nat.le_refl _,λ_ _=>rfl⟩
    ·show apd q b c l (qhF q b0 w3 (j+1)) _;rw[V9,show qfl q b0 j=[0]from if_pos hn];exact a1
    ·have ht:t<j+1:=ht;by_cases c1:t=j
     ·subst c1;rw[hn]at ht2;exact absurd ht2 (by decide)
     ·exact g5 t (by omega) ht2
   ·have a1:=J7 g1.o (us:=[1]) rfl (by decide) rfl hp;exact K6 a1.o (by show i5.l+1<=1000000000;omega) (by omega)
   ·have a1:=J7 g1.o (us:=[1]) rfl (by decide) rfl hp;have a2:=(g1.trans a1).trans (J7 a1.o (us:=[0,0,0,0]) rfl (by decide) rfl hp2);refine⟨⟨⟨⟨i7.D,i7.S,i7.F⟩,i7.b,i7.c,i5.l+1+4,i7.k⟩,j+1,w3,upd gm (0+j) ((i5.l+1:Nat):Int)⟩,⟨hs',?_,g3,by show j+1<=4;omega,λt ht ht2=>?_⟩,by show 4-(j+1)<4-j;omega,⟨⟨rfl,rfl,rfl,rfl⟩,hwj⟩,⟨rfl,rfl,rfl⟩,Nat.le_refl _,λ_ _=>rfl⟩
    ·show apd q b c l (qhF q b0 w3 (j+1)) _;rw[V9,show qfl q b0 j=[1]++[0,0,0,0]from if_neg (by rw[hn];decide),<-List.append_assoc];exact a2
    ·have ht:t<j+1:=ht;show upd gm (0+j) ((i5.l+1:Nat):Int) t=_;rw[Nat.zero_add];by_cases c1:t=j
     ·subst c1;unfold upd;simp;omega
     ·have:=g5 t (by omega) ht2;unfold upd;simp[c1];rw[this];rfl
  have hj:j=4:=by omega
  subst hj;refine⟨⟨⟨i5,0,w3,gm⟩,⟨hs',g3,Nat.zero_le _,g5,λR' m' d' k' hA' hbd'=>b6h (p:=⟨i5,4,w3,gm⟩) hA' hs' g1 g3.2.1 rfl rfl rfl⟩,⟨⟨rfl,rfl,rfl,rfl⟩,rfl⟩,⟨rfl,rfl,rfl⟩,Nat.le_refl _,λ_ _=>rfl⟩,?_⟩;clear b1 b2 b3 g1 hlen hge hFj hF4 g5 g4;rintro⟨i8,j,w4,gm4⟩ ⟨_,h1,h2,h3,h4⟩;dsimp only at h1 h2 h3 h4 ⊢;have hK:=h4 R m e k hA hbd;obtain⟨us,_,_,_,u1,_⟩:=id hK;obtain⟨⟨b1,b2⟩,b3⟩:=hA.off u1;dsimp only at b1 b2 b3;simp only[b3,hN];refine⟨λhlt=>⟨⟨by omega,by omega⟩,⟨b1,by omega⟩,s4 j (by omega),λhn=>?_,λhn=>?_⟩,λhge=>?_⟩
  ·have hn':a3Y q b0 j=false:=by simpa using hn
   have hjl:j<4:=by omega
   have hwj:IntKind.i64.wrap ((j:Int)+1)=((j+1:Nat):Int):=by rw[j5 (by omega) (by omega)];rfl
   obtain⟨x,x1,x2,x3,x4,x5,x6,x7,x8⟩:=b3L hA hbd h1.2.1 hK hjl hn';have hgm:=h3 j hjl hn';dsimp only at x1 x2 x3 x4 x5 x6 x7 x8;rw[Nat.add_assoc]at hgm;have hgm0:gm4 (0+j)=((l+((qhF q b0 w4 j).length+1):Nat):Int):=by rw[Nat.zero_add];exact hgm
   clear hgm;generalize hM:l+((qhF q b0 w4 j).length+1)=M at *;have hl8':=hw32 i8.l (by omega)
   have hby:B9 .u8 (i8.q.F i8.b (i8.c+M+3)):=by
    have:=(x4.is (M+3) (by omega)).i
    rwa [<-Nat.add_assoc]at this
   have hbne:b0≠i8.b:=λe1=>by
    rcases u1.nw with e2|e2
    ·exact hA.bne (e1.trans e2)
    ·exact e2 (e1▸s5)
   have hpt:pB (pB (pB (pB i8.q.F i8.b (i8.c+M) (i8.l:Nat) 0) i8.b (i8.c+M) (i8.l:Nat) 1) i8.b (i8.c+M) (i8.l:Nat) 2) i8.b (i8.c+M) (i8.l:Nat) 3 b0 (2+j)=.pointer (some ⟨x.b,0,none⟩):=by
    unfold pB;rw[b9 (.inl hbne),b9 (.inl hbne),b9 (.inl hbne),b9 (.inl hbne),b3];exact x1
   have x4S:=x4.S;have x4k:=x4.le;simp only[hgm0,tN9,hl8',hpt,ptC,ptB];refine λ_=>⟨⟨⟨by omega,by omega⟩,by omega⟩,by omega,⟨by omega,by omega,by omega⟩,⟨⟨by omega,by omega⟩,⟨by omega,x4.D,by omega⟩,hby⟩,λi9=>⟨⟨by omega,by omega⟩,⟨b1,by show 2+j<i8.q.S b0;omega⟩,⟨hQB.midOk (by omega),by omega,by omega⟩,⟨⟨trivial,?_⟩,rfl⟩,λhP=>⟨⟨i9,j+1,w4,gm4⟩,⟨hs',h1,by show j+1<=4;omega,h3,λR' m' d' k' hA' hbd'=>?_⟩,by show 4-(j+1)<4-j;omega,⟨⟨rfl,rfl,rfl,rfl⟩,hwj⟩,⟨rfl,rfl,rfl⟩,Nat.le_refl _,λ_ _=>rfl⟩⟩⟩
   ·exact⟨x5,R,m,e,x,x6,x7,by omega,by omega,hQB.sub (by omega) _⟩
   ·obtain⟨y,y1,_,_,_,_,_,_,y8⟩:=b3L hA' hbd' h1.2.1 (h4 R' m' d' k' hA' hbd') hjl hn';dsimp only at y1 y8;rw[x1]at y1;have hxy:x.b=y.b:=by simpa using y1
    rw[hM,<-hxy]at y8;exact y8 i9 hP
  ·have hn':a3Y q b0 j=true:=by simpa using hn
   have hwj:IntKind.i64.wrap ((j:Int)+1)=((j+1:Nat):Int):=by rw[j5 (by omega) (by omega)];rfl
   exact⟨⟨i8,j+1,w4,gm4⟩,⟨hs',h1,by show j+1<=4;omega,h3,λR' m' d' k' hA' hbd'=>b8O (h4 R' m' d' k' hA' hbd') (by show j<4;omega) hn' rfl rfl rfl⟩,by show 4-(j+1)<4-j;omega,⟨⟨rfl,rfl,rfl,rfl⟩,hwj⟩,⟨rfl,rfl,rfl⟩,Nat.le_refl _,λ_ _=>rfl⟩
  ·refine⟨i8,λR' m' d' k' hA' hbd'=>?_,rfl,⟨trivial,rfl,rfl,rfl,rfl⟩⟩;obtain⟨e',rfl⟩:=hA'.pos hs';exact c3A hA' h1 (h4 R' m' e' k' hA' hbd') (by show 4<=j;omega)
theorem b4X:z0 prog 118 (o9 DI ⟨default⟩ (a6A 0)):=by
 refine a1o x0 func118 rfl (by kernel_rfl) λargs=>?_
 unfold a6A;split;rotate_left;trivial;rename_i n b0 c0 n1 b c l kk a0 a1 a2 a3;intro o0;try dsimp only
 split;rotate_left;trivial;intro ho;exfalso;obtain⟨_,_,_,R,m,d,k,_,_,h,_⟩:=ho;omega
theorem b3M:∀ H,z0 prog 118 (o9 DI ⟨default⟩ (a6A H))
 | 0=>b4X
 | H+1=>c7g H (b3M H)
end
def W22(x:Nat):Prop:=FI x (wh x)/\(wh x).natAbs<=2 ^ 22
def FL2(g:Nat->Nat)(m:Nat):Prop:=∀ j,j<m->W22 (g j)
theorem W1.w22{x:Nat}(h:W1 x):W22 x:=⟨h.1,h.abs⟩
noncomputable def b2G:List SV->RdM
 | [.ptr s 0]=>.read s λo0=>(match a3o o0.c with
  | some (cl,cw,cv,k,x,y,z,w,p,n)=>.read p λo1=>(match A9 .f64 o1.c with
  | some (m1,g)=>.ret ⟨[.ptr 0 0],[(0,⟨false,150,a0c cl cw cv k x y z w 1 n,0⟩),(1,⟨false,100, .flts .f64 m1 g,0⟩)], .int .i64 (nsg cl n (wz g)),[],[],some (m1=2*n/\n<=1000000/\FL2 g (2*n))⟩
  | none=>.fail)
  | none=>.fail)
 | _=>.fail
theorem b5z(cl cw cv:Bool)(k:Int)(x y z w:Nat)(_:Nm)(n:Nat)(g:Nat->Nat){w9:HC}(e9:w9=⟨[.ptr 0 0],[(0,⟨false,150,a0c cl cw cv k x y z w 1 n,0⟩),(1,⟨false,100, .flts .f64 (2*n) g,0⟩)], .int .i64 (nsg cl n (wz g)),[],[],some (2*n=2*n/\n<=1000000/\FL2 g (2*n))⟩){T1}(t1:T1=(fEq .f64 (g (0 +
 Int.toNat (IntKind.wrap .i64 ((↑n:Int)-1))*2)) (g 0)&&(fEq .f64 (g (0+Int.toNat (IntKind.wrap .i64 ((↑n:Int)-1))*2+1)) (g 1)&&true))){T2}(t2:T2=(↑n:Int)){T3}(t3:T3=(↑(nsg cl n (wz g)):Int)):J3 GPF 2 [] [] (p9 f111) (A6 f111.ntmps w9.args w9.heap 2) (A8 GPF.E.T f111.results.toList λS v=>D5 2 w9 S v)=(
 (cl=true->(decide (T2<3)=true->0=T3/\True)/\(decide (T2<3)=false->(((0:Int)<=IntKind.wrap .i64 (T2-1)/\IntKind.wrap .i64 (T2-1)<T2)/\1<=2*n)/\0+Int.toNat (IntKind.wrap .i64 (T2-1))*2+2<=2*n/\(((0:Int)<=0
 /\0<T2)/\1<=2*n)/\2<=2*n/\true=true/\(T1=true->IntKind.wrap .i64 (T2-1)=T3/\True)/\(T1=false->T2=T3/\True)))/\(cl=false->(decide (T2<2)=true->0=T3/\True)/\(decide (T2<(2:Int))=false->IntKind.wrap .i64
 (T2-1)=T3/\True))):=by subst e9 t1 t2 t3;kernel_rfl
theorem c5i:C4 prog 111 (B3 b2G):=by
 refine A5 gPF func111 rfl (by kernel_rfl) λargs=>?_
 unfold b2G;split;rotate_left;trivial;rename_i s;intro o0;try dsimp only
 split;rotate_left;trivial;rename_i cl cw cv k x y z w p n hm0;intro o1;try dsimp only
 split;rotate_left;trivial;rename_i m1 g hm1;intro(ho:m1=2*n/\n<=1000000/\FL2 g (2*n));obtain⟨hsz1,ho⟩:=ho;subst hsz1;refine⟨?_,_,_,(b5z cl cw cv k x y z w p n g rfl rfl rfl rfl).mpr ?_⟩
 ·refine j8 rfl ⟨?_,⟨trivial,R6 hm0 g9,⟨trivial,(C6 hm1).1,trivial⟩⟩⟩;simp[q9,z5,z8,z3,nth,g9]
 ·obtain⟨hn,hg⟩:=ho;have hw:IntKind.i64.wrap ((n:Int)-1)=n-1:=j5 (by omega) (by omega);rw[hw];refine⟨λhc=>⟨λh=>?_,λh=>?_⟩,λhc=>⟨λh=>?_,λh=>?_⟩⟩
  ·have h:=oT9 h;refine⟨?_,trivial⟩;unfold nsg;rw[if_pos hc,if_pos (by omega)];rfl
  ·have h:=of_decide_eq_false h;have e:0+((n:Int)-1).toNat*2=2*(n-1):=by omega
   rw[e];have e1:fEq .f64 (g (2*(n-1))) (g 0)=decide (wz g (2*(n-1))=wz g 0):=a0d (hg _ (by omega)).1 (hg _ (by omega)).1;have e2:fEq .f64 (g (2*(n-1)+1)) (g 1)=decide (wz g (2*(n-1)+1)=wz g 1):=a0d (hg _ (by omega)).1 (hg _ (by omega)).1;rw[e1,e2];refine⟨by omega,by omega,by omega,by omega,rfl,λh1=>⟨?_,trivial⟩,λh1=>⟨?_,trivial⟩⟩
   ·unfold nsg;rw[if_pos hc,if_neg (by omega),if_pos (by simpa using h1)];omega
   ·unfold nsg;rw[if_pos hc,if_neg (by omega),if_neg (by simpa using h1)]
  ·have h:=oT9 h;refine⟨?_,trivial⟩;unfold nsg;rw[if_neg (by simp[hc])];omega
  ·have h:=of_decide_eq_false h;refine⟨?_,trivial⟩;unfold nsg;rw[if_neg (by simp[hc])];omega
structure BI where
 q:RM
 b:Nat
 j:Nat
def biT:List Nat:=[180,191,177,208,210,178,188,183,185,98,5,200]
noncomputable def c2s(g:Nat->Nat)(n i:Nat):Bx:=⟨zI (.float .f64 (rcF g n i).x0),zI (.float .f64 (rcF g n i).y0),zI (.float .f64 (rcF g n i).x1),zI (.float .f64 (rcF g n i).y1)⟩
noncomputable def a4X(g:Nat->Nat)(n j:Nat):List (Int×Bx):=(List.range j).map λ(i:Nat)=>(((i:Nat):Int),c2s g n i)
def b0g(g:Nat->Nat)(n m:Nat)(p:BI):Prop:=p.j<=m/\∃ fp,isRT p.q p.b 0 fp (a4X g n p.j)
def b0t(g:Nat->Nat)(n m:Nat)(Q:Q4)(p:BI):Prop:=p.j<=m/\∃ k,qiA p.q g n p.b Q 16 k/\k.its.Perm (List.range p.j)
def c2e(m:Nat)(k:Int)(n:Nat)(g:Nat->Nat)(Q:Q4)(r:Nat×(Nat->Int)):Prop :=
 ((5<=r.1/\r.1<=2000000)/\∀ p,p<r.1->0<=r.2 p/\r.2 p<256)/\r.2 0=k/\leN r.2 1 4=(r.1:Int)/\
 (k=1->(m=0->r.1=5)/\(m≠0->∃ h its B,its.Perm (a4X g n m)/\h<=100/\r.2 5=((h:Nat):Int)/\6<=r.1/\Z1 r.2 h 6 r.1 its B))/\
 (k=2->∃ its,its.Perm (List.range m)/\a4U r.2 (rcF g n) n 16 5 r.1 Q its)
def b5V(m:Nat)(k:Int)(n:Nat)(g:Nat->Nat)(Q:Q4):Prop :=
 (k=1∨k=2)/\n<=100/\FL2 g (2*n)/\(k=2->QB 16 Q/\∀ i,i<m->a1j (rcF g n) n Q i)
theorem b3r(cl:Bool)(n:Nat)(z:Nat->Int):nsg cl n z<=n:=by
 unfold nsg
 repeat' split
 all_goals omega
theorem c3l{n i:Nat}(h:i<n):nx n i<n:=by
 unfold nx;split <;> omega
theorem b3a{x y:Nat}(hx:W22 x)(hy:W22 y):W22 (I2 x y):=by unfold I2;split <;> assumption
theorem b3U{x y:Nat}(hx:W22 x)(hy:W22 y):W22 (H8 x y):=by unfold H8;split <;> assumption
theorem W22.fz{x:Nat}(h:W22 x):fz (.float .f64 x) (wh x):=⟨rfl,h.1,h.2⟩
theorem b5I{g:Nat->Nat}{n i:Nat}(h:FL2 g (2*n))(hi:i<n):W22 (rcF g n i).x0/\W22 (rcF g n i).y0/\W22 (rcF g n i).x1/\W22 (rcF g n i).y1:=by
 have h1:=c3l hi;exact⟨b3a (h _ (by omega)) (h _ (by omega)),b3a (h _ (by omega)) (h _ (by omega)),b3U (h _ (by omega)) (h _ (by omega)),b3U (h _ (by omega)) (h _ (by omega))⟩
theorem b4D(g:Nat->Nat)(n j:Nat):a4X g n (j+1)=a4X g n j++[((j:Int),c2s g n j)]:=by
 unfold a4X;rw[List.range_succ,List.map_append];rfl
theorem a3B(g:Nat->Nat)(n j:Nat):(a4X g n j).length=j:=by simp[a4X]
def nwB(q:RM)(a s:Nat)(f:Nat->Value):RM:=⟨K5 q.D a,D8 q.S a s,C8 q.F a f⟩
theorem a5o{q:RM}{a s:Nat}{f:Nat->Value}(ha:¬q.D a):∀ c,q.D c->(nwB q a s f).D c/\(nwB q a s f).S c=q.S c/\∀ k,(nwB q a s f).F c k=q.F c k:=λc hc=>by
 have hne:c≠a:=λe=>ha (e▸hc)
 exact⟨.inr hc,by simp only[nwB,D8];rw[if_neg hne],λk=>by simp only[nwB,C8];rw[if_neg hne]⟩
theorem a5f(q:RM)(a s:Nat)(f:Nat->Value):(nwB q a s f).D a/\(nwB q a s f).S a=s/\∀ k,(nwB q a s f).F a k=f k:=⟨.inl rfl,by simp[nwB,D8],λk=>by simp[nwB,C8]⟩
theorem b8i(g:Nat->Nat)(n m:Nat){a:Nat}{q:RM}(hD:q.D a)(hS:q.S a=8)(hF:∀ k,q.F a k=rz tys 180 k):b0g g n m ⟨q,a,0⟩:=by
 refine⟨Nat.zero_le _,[], .inl ⟨rfl,rfl,hD,by show 0+8<=q.S a;omega,?_,?_,?_⟩⟩
 ·show q.F a 0=_;rw[hF];rfl
 ·show q.F a (0+1)=_;rw[hF];rfl
 ·show q.F a (0+6)=_;rw[hF];rfl
theorem b6d{g:Nat->Nat}{n m:Nat}{p:BI}(h:b0g g n m p)(hj:p.j<m)(hm:m<=n)(hn:n<=100)(hg:FL2 g (2*n)){a c:Nat}(ha:¬p.q.D a)(hc:¬(c=a∨p.q.D c)){f1 f2:Nat->Value}
  (e1:f1 0=.float .f64 (rcF g n p.j).x0) (e2:f1 1=.float .f64 (rcF g n p.j).y0) (e3:f2 0=.float .f64 (rcF g n p.j).x1) (e4:f2 1=.float .f64 (rcF g n p.j).y1) :
  inO (nwB (nwB p.q a 2 f1) c 2 f2) p.b 0 a 0 2 c 0 2/\∀ q',inP (nwB (nwB p.q a 2 f1) c 2 f2) p.b 0 a 0 c 0 (p.j:Int) q'->b0g g n m ⟨q',p.b,p.j+1⟩:=by
 obtain⟨_,fp,ht⟩:=h;obtain⟨w1,w2,w3,w4⟩:=b5I hg (by omega:p.j<n);have hc':¬(nwB p.q a 2 f1).D c:=λhh=>hc (hh.elim (λe=>.inl e) .inr)
 have o1:=a5o (s:=2) (f:=f1) ha;have n1:=a5f p.q a 2 f1;have o2:=a5o (s:=2) (f:=f2) hc';have n2:=a5f (nwB p.q a 2 f1) c 2 f2;have n1':=o2 a n1.1;have f10:(nwB (nwB p.q a 2 f1) c 2 f2).F a 0=.float .f64 (rcF g n p.j).x0:=by rw[n1'.2.2,n1.2.2,e1]
 have f11:(nwB (nwB p.q a 2 f1) c 2 f2).F a (0+1)=.float .f64 (rcF g n p.j).y0:=by rw[n1'.2.2,n1.2.2];exact e2
 have f20:(nwB (nwB p.q a 2 f1) c 2 f2).F c 0=.float .f64 (rcF g n p.j).x1:=by rw[n2.2.2,e3]
 have f21:(nwB (nwB p.q a 2 f1) c 2 f2).F c (0+1)=.float .f64 (rcF g n p.j).y1:=by rw[n2.2.2];exact e4
 have ht2:isRT (nwB (nwB p.q a 2 f1) c 2 f2) p.b 0 fp (a4X g n p.j):=(ht.same o1).same o2;refine⟨⟨⟨rfl,rfl⟩,a3f.mk' n1'.1 (by rw[n1'.2.1,n1.2.1];omega) (by rw[f10];exact w1.fz) (by rw[f11];exact w2.fz),a3f.mk' n2.1 (by rw[n2.2.1];omega) (by rw[f20];exact w3.fz) (by rw[f21];exact w4.fz),fp,_,ht2,by rw[a3B];omega⟩,λq' hP=>?_⟩;obtain⟨fp',h'⟩:=hP fp _ ht2 (by rw[a3B];omega);refine⟨by show p.j+1<=m;omega,fp',?_⟩;rw[f10,f11,f20,f21]at h';show isRT q' p.b 0 fp' (a4X g n (p.j+1));rw[b4D];exact h'
def b5(k:Int):Nat->Value:=λj=>[Value.int .u8 k, .int .u8 0, .int .u8 0, .int .u8 0, .int .u8 0].getD j (.bool false)
theorem b7E{q:RM}{a:Nat}{k:Int}(hk:0<=k/\k<256):byO (nwB q a 5 (b5 k)) a 0 5 5:=by
 have n1:=a5f q a 5 (b5 k);refine⟨n1.1,Nat.le_refl _,by rw[n1.2.1];omega,λj hj=>?_⟩;rw[n1.2.2]
 match j,hj with
 | 0,_=>exact H2.mk' hk
 | 1,_=>exact H2.mk' (by decide)
 | 2,_=>exact H2.mk' (by decide)
 | 3,_=>exact H2.mk' (by decide)
 | 4,_=>exact H2.mk' (by decide)
theorem b7b{q:RM}{a:Nat}{k:Int}{us:List Int}{i:DI}(hp:apd (nwB q a 5 (b5 k)) a 0 5 us i)(hl:i.l<=2000000):byG (p4R i.q i.b (i.c+1) (i.l:Nat)) i.b i.c 0=k/\leN (byG (p4R i.q i.b (i.c+1) (i.l:Nat)) i.b i.c) 1 4=(i.l:Int)/\
  (∀ p,5<=p->byG (p4R i.q i.b (i.c+1) (i.l:Nat)) i.b i.c p=bG i p)/\∀ p,p<i.l->0<=byG (p4R i.q i.b (i.c+1) (i.l:Nat)) i.b i.c p/\byG (p4R i.q i.b (i.c+1) (i.l:Nat)) i.b i.c p<256:=by
 have off:∀ y,(y<i.c+1∨i.c+1+4<=y)->(p4R i.q i.b (i.c+1) (i.l:Nat)).F i.b y=i.q.F i.b y:=λy hxy=>by
  show pB _ _ _ _ _ i.b y=_;unfold pB;rw[b9 (by omega),b9 (by omega),b9 (by omega),b9 (by omega)]
 have at4:∀ j,j<4->(p4R i.q i.b (i.c+1) (i.l:Nat)).F i.b (i.c+1+j)=.int .u8 (byI (i.l:Nat) j):=λj hj=>by
  show pB _ _ _ _ _ i.b _=_;unfold pB
  match j,hj with
  | 0,_=>rw[b9 (by omega),b9 (by omega),b9 (by omega)];exact A2
  | 1,_=>rw[b9 (by omega),b9 (by omega)];exact A2
  | 2,_=>rw[b9 (by omega)];exact A2
  | 3,_=>exact A2
 refine⟨?_,b1x (λj hj=>?_) (by omega) (by omega),λp hp5=>?_,λp hpl=>?_⟩
 ·unfold byG;rw[off _ (by omega),hp.old 0 (by omega),(a5f q a 5 (b5 k)).2.2];rfl
 ·unfold byG;rw[<-Nat.add_assoc,at4 j hj];rfl
 ·unfold byG bG;rw[off _ (by omega)]
 ·unfold byG;by_cases h1:1<=p/\p<5
  ·have e:=at4 (p-1) (by omega);rw[show i.c+1+(p-1)=i.c+p by omega]at e;rw[e];show 0<=byI (i.l:Nat) (p-1)/\byI (i.l:Nat) (p-1)<256;unfold byI;exact⟨Int.emod_nonneg _ (by decide),Int.emod_lt_of_pos _ (by decide)⟩
  ·rw[off _ (by omega)];exact(hp.o.is p hpl).2
theorem b8I{g:Nat->Nat}{n m:Nat}{Q:Q4}{p:BI}(h:b0g g n m p)(hj:p.j=m)(hm:m<=n)(hn:n<=100){a:Nat}(ha:¬p.q.D a) :
  (∃ fp its,a3k (nwB p.q a 5 (b5 1)) p.b 0 a 5 fp its)/\∀ i,a3S (nwB p.q a 5 (b5 1)) p.b 0 a 0 5 i->(byO i.q i.b i.c i.l i.k/\5<=i.l/\i.l<=2000000)/\c2e m 1 n g Q (i.l,byG (p4R i.q i.b (i.c+1) (i.l:Nat)) i.b i.c):=by
 obtain⟨_,fp,ht⟩:=h;have o1:=a5o (s:=5) (f:=b5 1) ha
 have hpre:a3k (nwB p.q a 5 (b5 1)) p.b 0 a 5 fp (a4X g n p.j):=⟨ht.same o1,λe=>ha (ht.D.2 _ e),λe=>ha (e▸ht.D.1),by rw[a3B];omega,by omega,λx hx=>by
  obtain⟨t,ht1,rfl⟩:=List.mem_map.1 hx;have:=List.mem_range.1 ht1;dsimp only
  omega⟩
 refine⟨⟨fp,_,hpre⟩,λi hi=>?_⟩;obtain⟨us,u1,u2,u3,u4⟩:=hi _ _ hpre;have hn1:=u1.n;obtain⟨e1,e2,e3,e4⟩:=b7b u1 u2;refine⟨⟨u1.o,by omega,u2⟩,⟨⟨by show 5<=i.l;omega,u2⟩,e4⟩,e1,e2,λ_=>⟨λh0=>?_,λh0=>?_⟩,λh2=>absurd h2 (by decide)⟩
 ·have:a4X g n p.j=[]:=by rw[hj,h0];rfl
  have hus:=u3 this;rw[hus]at hn1;exact hn1
 ·obtain⟨hh,its,B,c1,c2,c3,c4,c5⟩:=u4 (λe=>by
   have:=congrArg List.length e;rw[a3B]at this
   simp at this;omega)
  rw[hj]at c1;exact⟨hh,its,B,c1,c2,(e3 5 (by omega)).trans c3,c4,a1N c5 λp' p1 p2=>e3 p' (by omega)⟩
theorem b5J(g:Nat->Nat)(n m:Nat)(Q:Q4){a:Nat}{q:RM}(hD:q.D a)(hS:q.S a=6)(hF:∀ k,q.F a k=rz tys 191 k):b0t g n m Q ⟨q,a,0⟩ :=
 ⟨Nat.zero_le _,⟨a,[a],[]⟩,⟨b0O hD hS hF,rfl,by simp,by simp⟩,by simp⟩
theorem b5L{g:Nat->Nat}{n m:Nat}{Q:Q4}{p:BI}(h:b0t g n m Q p)(hj:p.j<m)(hm:m<=n)(hn:n<=100)(hQ:QB 16 Q)(hi:∀ i,i<m->a1j (rcF g n) n Q i) :
  qiO p.q g n p.b Q (rcF g n p.j) p.j 16/\∀ q',qiP p.q g n p.b Q 16 p.j q'->b0t g n m Q ⟨q',p.b,p.j+1⟩:=by
 obtain⟨_,k,hk,hp⟩:=h;have hl:=hp.length_eq;rw[List.length_range]at hl;refine⟨⟨⟨by omega,hQ,by omega⟩,rfl,hi _ hj,k,hk,by omega⟩,λq' hP=>?_⟩;obtain⟨k',t1,t2,t3,t4,_⟩:=hP k hk;have hl':=t4.length_eq;refine⟨by show p.j+1<=m;omega,k',⟨t1,t2.trans hk.b,t3,by rw[hl'];simp;omega⟩,?_⟩;show k'.its.Perm (List.range (p.j+1));rw[List.range_succ];exact t4.trans ((hp.cons p.j).trans (List.perm_append_singleton p.j _).symm)
theorem b8r{g:Nat->Nat}{n m:Nat}{Q:Q4}{p:BI}(h:b0t g n m Q p)(hj:p.j=m)(hm:m<=n)(hn:n<=100)(hQ:QB 16 Q){a:Nat}(ha:¬p.q.D a) :
  qmO (nwB p.q a 5 (b5 2)) p.b Q a 0 5 5 40/\∀ i,qmP (nwB p.q a 5 (b5 2)) p.b Q a 0 5 i->(byO i.q i.b i.c i.l i.k/\5<=i.l/\i.l<=2000000)/\c2e m 2 n g Q (i.l,byG (p4R i.q i.b (i.c+1) (i.l:Nat)) i.b i.c):=by
 obtain⟨_,k,hk,hp⟩:=h;have hl:=hp.length_eq;rw[List.length_range]at hl;have o1:=a5o (s:=5) (f:=b5 2) ha
 have hA:qmA (nwB p.q a 5 (b5 2)) (rcF g n) n 16 p.b Q k a:=⟨hk.t.same λy hy=>o1 y (hk.t.D y hy),hk.b,hk.nd,hk.le,λe=>ha (hk.t.D _ e),λx hx=>by
  have:=List.mem_range.1 (hp.mem_iff.1 hx)
  omega⟩
 have hB:qBy 16 k.its.length<=50000:=by unfold qBy;omega
 refine⟨⟨b7E (by decide),_,_,_,_,hA,by omega,by omega,by omega,hQ⟩,λi hi=>?_⟩;obtain⟨us,u1,u2,u3⟩:=hi _ _ _ _ hA (by omega);have hn1:=u1.n;obtain⟨e1,e2,e3,e4⟩:=b7b u1 (by omega);refine⟨⟨u1.o,by omega,by omega⟩,⟨⟨by show 5<=i.l;omega,by show i.l<=2000000;omega⟩,e4⟩,e1,e2,λh1=>absurd h1 (by decide),λ_=>⟨k.its,by rw[<-hj];exact hp,a2F u3 λp' p1 p2=>e3 p' (by omega)⟩⟩
def flS{α σ:Type}(f:α->σ->σ×Bool):List α->σ->σ×Bool
 | [],s=>(s,true)
 | x :: r,s=>match (f x s).2 with
  | true=>flS f r (f x s).1
  | false=>((f x s).1,false)
section
variable {α β σ:Type}
theorem N1(f:α->σ->σ×Bool)(x:α)(r:List α)(s:σ):flS f (x :: r) s=if (f x s).2=true then flS f r (f x s).1 else f x s:=by
 show (match (f x s).2 with|true=>flS f r (f x s).1|false=>((f x s).1,false))=_;cases h:(f x s).2
 ·rw[if_neg (by decide)];exact Prod.ext rfl h.symm
 ·rw[if_pos rfl]
theorem a0B(f:α->σ->σ×Bool):∀(a b:List α)(s:σ),flS f (a++b) s=if (flS f a s).2=true then flS f b (flS f a s).1 else flS f a s
 | [],b,s=>by simp[flS]
 | x :: r,b,s=>by
  rw[List.cons_append,N1,N1];split
  ·exact a0B f r b _
  ·rfl
theorem a5u(f:β->σ->σ×Bool)(g:α->β):∀(a:List α)(s:σ),flS f (a.map g) s=flS (λx s=>f (g x) s) a s
 | [],_=>rfl
 | x :: r,s=>by
  rw[List.map_cons,N1,N1,a5u f g r]
theorem a7H{f g:α->σ->σ×Bool}:∀ {a:List α} {s:σ},(∀ x∈a,∀ s,f x s=g x s)->flS f a s=flS g a s
 | [],_,_=>rfl
 | x :: r,s,h=>by
  rw[N1,N1,h x (by simp),a7H (a:=r) λy hy=>h y (by simp[hy])]
theorem a1I(f:β->σ->σ×Bool)(g:α->List β):∀(a:List α)(s:σ),flS f (a.flatMap g) s=flS (λx s=>flS f (g x) s) a s
 | [],_=>rfl
 | x :: r,s=>by
  rw[List.flatMap_cons,a0B,N1,a1I f g r]
theorem a3D{f:α->σ->σ×Bool}:∀ {a:List α} {s:σ},(∀ x∈a,∀ s,f x s=(s,true))->flS f a s=(s,true)
 | [],_,_=>rfl
 | x :: r,s,h=>by
  rw[N1,h x (by simp),if_pos rfl];exact a3D λy hy=>h y (by simp[hy])
def flN(f:Nat->σ->σ×Bool)(n:Nat)(s:σ):σ×Bool:=flS f (List.range n) s
theorem a5P(f:Nat->σ->σ×Bool)(n:Nat)(s:σ):flN f (n+1) s=if (flN f n s).2=true then f n (flN f n s).1 else flN f n s:=by
 unfold flN;rw[List.range_succ,a0B];split
 ·rw[N1];split
  ·rename_i h;exact Prod.ext rfl h.symm
  ·rfl
 ·rfl
theorem a0p{f:Nat->σ->σ×Bool}{n:Nat}{s:σ}(h:(flN f n s).2=false):∀ {m:Nat},n<=m->flN f m s=flN f n s
 | 0,hm=>by rw[Nat.le_zero.1 hm]
 | m+1,hm=>by
  by_cases e:n=m+1
  ·rw[e]
  ·have:=a0p h (m:=m) (by omega);rw[a5P,this,if_neg (by rw[h];decide)]
theorem a6r{f:Nat->σ->σ×Bool}{n:Nat}{s:σ}(h:(flN f n s).2=true):flN f (n+1) s=f n (flN f n s).1:=by rw[a5P,if_pos h]
end
def sS{σ:Type}(mt:Nat->Bool)(st:Nat->σ->σ×Bool)(i:Nat)(s:σ):σ×Bool :=
 match mt i with
 | true=>st i s
 | false=>(s,true)
def f8(g:Nat->Int)(p:Nat):Nat:=(leN g p 8).toNat
def rbx(g:Nat->Int)(a qa qb qc qd:Nat):Bool := !(fGt .f64 qb (f8 g (a+8+8+8))) && !(fLt .f64 qd (f8 g (a+8))) && !(fGt .f64 qa (f8 g (a+8+8))) && !(fLt .f64 qc (f8 g a))
def G3(g:Nat->Int)(a:Nat):Nat:=(g (a+32)).toNat
def rBw(g:Nat->Int)(a:Nat):Int:=g (a+33)
def rIt(g:Nat->Int)(a j:Nat):Nat:=(leN g (a+34+(rBw g a).toNat*j) (rBw g a).toNat).toNat
def rKd(g:Nat->Int)(a j:Nat):Nat:=(leN g (a+33+4*j) 4).toNat
def rS{σ:Type}(g:Nat->Int)(qa qb qc qd:Nat)(f:Nat->σ->σ×Bool):Nat->Nat->σ->σ×Bool
 | 0,a,s=>match rbx g a qa qb qc qd with
  | true=>flN (λj s=>f (rIt g a j) s) (G3 g a) s
  | false=>(s,true)
 | h+1,a,s=>match rbx g a qa qb qc qd with
  | true=>flN (λj s=>rS g qa qb qc qd f h (rKd g a j) s) (G3 g a) s
  | false=>(s,true)
def rOk(g:Nat->Int)(m n:Nat):Nat->Nat->Prop
 | 0,a=>(rBw g a=1∨rBw g a=2∨rBw g a=4)/\a+34+(rBw g a).toNat*G3 g a<=m/\∀ j,j<G3 g a->rIt g a j<n
 | h+1,a=>a+33+4*G3 g a<=m/\∀ j,j<G3 g a->rOk g m n h (rKd g a j)
def a2K(g:Nat->Int)(m:Nat):Prop:=m<=2000000/\∀ p,p<m->0<=g p/\g p<256
def qmt(Q:Q4)(qa qb qc qd:Nat):Bool := !(fGt .f64 Q.y0 qd) && !(fLt .f64 Q.y1 qb) && !(fGt .f64 Q.x0 qc) && !(fLt .f64 Q.x1 qa)
def qW(g:Nat->Int)(a:Nat):Int:=g a
def qCn(g:Nat->Int)(a:Nat):Nat:=(leN g (a+1) (qW g a).toNat).toNat
def qIt(g:Nat->Int)(a j:Nat):Nat:=(leN g (a+1+(qW g a).toNat+(qW g a).toNat*j) (qW g a).toNat).toNat
def qSp(g:Nat->Int)(a:Nat):Nat:=a+1+(qW g a).toNat+(qW g a).toNat*qCn g a
def qPo(g:Nat->Int)(a:Nat):Nat->Nat
 | 0=>qSp g a+1
 | t+1=>qPo g a t+(if g (qPo g a t)=1 then 5 else 1)
theorem b6F(g:Nat->Int)(a:Nat){t:Nat}:∀ {u:Nat},t<=u->qPo g a t<=qPo g a u
 | 0,h=>by rw[Nat.le_zero.1 h];exact Nat.le_refl _
 | u+1,h=>by
  by_cases e:t=u+1
  ·rw[e];exact Nat.le_refl _
  ·have:=b6F g a (t:=t) (u:=u) (by omega);show _<=qPo g a u+_;omega
def qKd(g:Nat->Int)(a t:Nat):Nat:=(leN g (qPo g a t+1) 4).toNat
section
variable {σ:Type} (g:Nat->Int) (qa qb qc qd:Nat) (f:Nat->σ->σ×Bool)
def qRo(sub:Nat->Q4->σ->σ×Bool)(a:Nat)(Q:Q4)(t:Nat)(s:σ):σ×Bool :=
 if g (qPo g a t)=1/\qmt (qbV Q (t:Int)) qa qb qc qd=true then sub (qKd g a t) (qbV Q (t:Int)) s else(s,true)
def N9(a:Nat)(s:σ):σ×Bool:=flN (λj s=>f (qIt g a j) s) (qCn g a) s
def qSt(sub:Nat->Q4->σ->σ×Bool)(a:Nat)(Q:Q4)(s:σ):σ×Bool :=
 if (N9 g f a s).2=true/\g (qSp g a)=1 then flN (qRo g qa qb qc qd sub a Q) 4 (N9 g f a s).1 else N9 g f a s
def qS:Nat->Nat->Q4->σ->σ×Bool
 | 0=>qSt g qa qb qc qd f λ_ _ s=>(s,true)
 | d+1=>qSt g qa qb qc qd f (qS d)
end
structure b9h (g:Nat->Int) (m n a:Nat):Prop where
 w:qW g a=1∨qW g a=2∨qW g a=4
 le:qSp g a+1<=m
 it:∀ j,j<qCn g a->qIt g a j<n
def qOk(g:Nat->Int)(m n:Nat):Nat->Nat->Q4->Prop
 | 0,a,_=>b9h g m n a/\g (qSp g a)≠1
 | d+1,a,Q=>b9h g m n a/\(g (qSp g a)=1->(midOk Q.x0 Q.x1/\midOk Q.y0 Q.y1)/\qPo g a 4<=m/\∀ t,t<4->g (qPo g a t)=1->qOk g m n d (qKd g a t) (qbV Q (t:Int)))
def mtF(g:Nat->Nat)(n qa qb qc qd:Nat)(i:Nat):Bool :=
 !(fGt .f64 (I2 (g (2*i+1)) (g (2*nx n i+1))) qd) && !(fLt .f64 (H8 (g (2*i+1)) (g (2*nx n i+1))) qb) && !(fGt .f64 (I2 (g (2*i)) (g (2*nx n i))) qc) && !(fLt .f64 (H8 (g (2*i)) (g (2*nx n i))) qa)
def E9(p:Nat->Bool):Nat->Bool
 | 0=>false
 | i+1=>E9 p i||p i
theorem b2X{p:Nat->Bool}:∀ {i m:Nat},i<m->p i=true->E9 p m=true
 | i,0,h,_=>by omega
 | i,m+1,h,hp=>by
  show (E9 p m||p m)=true;by_cases e:i=m
  ·subst e;rw[hp];simp
  ·rw[b2X (by omega) hp];rfl
def qC(qa qb qc qd:Nat):List SV:=[.flt .f64 qa, .flt .f64 qb, .flt .f64 qc, .flt .f64 qd]
section
variable {α σ:Type}
theorem a3C{f:α->σ->σ×Bool}{h:Nat->σ->σ×Bool}:∀ {L:List α} {m:Nat},L.length=m->(∀ j x,L[j]? = some x->∀ s,h j s=f x s)->∀ s,flN h m s=flS f L s:=by
 intro L m hm hh s;subst hm
 have:flS f L s=flS (λj s=>match L[j]? with|some x=>f x s|none=>(s,true)) (List.range L.length) s:=by
  have e:L.map (λx=>(some x))=(List.range L.length).map λj=>L[j]? := by
   apply List.ext_getElem
   ·simp
   ·intro i h1 h2;simp at h1;simp[h1]
  have e2:flS f L s=flS (λ(x:Option α) s=>match x with|some x=>f x s|none=>(s,true)) (L.map some) s:=by
   rw[a5u]
  rw[e2,e,a5u]
 rw[this];unfold flN;refine a7H λj hj s=>?_
 have hj:=List.mem_range.1 hj;rw[List.getElem?_eq_getElem hj];exact hh j _ (List.getElem?_eq_getElem hj) s
end
theorem a4h{g:Nat->Int}{a:Nat}{B:Bx}(h:a1U g a B):FI (f8 g a) B.x0/\FI (f8 g (a+8)) B.y0/\FI (f8 g (a+8+8)) B.x1/\FI (f8 g (a+8+8+8)) B.y1:=by
 have key:∀ p n,fl8 g p n->FI (f8 g p) n:=λp n ⟨x,h1,h2,_⟩=>by
  unfold f8;rw[h1,tN9];exact h2
 exact⟨key _ _ h.1,key _ _ h.2.1,key _ _ h.2.2.1,key _ _ h.2.2.2⟩
theorem b4h{g:Nat->Int}{m n:Nat}:∀ {h a e:Nat} {its:List (Int×Bx)} {B:Bx},Z1 g h a e its B->e<=m->(∀ it∈its,0<=it.1/\it.1<n)->rOk g m n h a
 | 0,a,e,its,B,⟨h1,h2,h3,w,h4,h5,h6,h7⟩,he,hi=>by
  have hw:(rBw g a).toNat=w:=by unfold rBw;rw[h5,tN9]
  have hn:G3 g a=its.length:=by unfold G3;rw[h2,tN9]
  refine⟨by unfold rBw;omega,by rw[hw,hn];omega,λj hj=>?_⟩;rw[hn]at hj;have hg:=List.getElem?_eq_getElem hj;have h8:=h7 j _ hg;have h9:=hi _ (List.getElem_mem hj);unfold rIt;rw[hw,h8];omega
 | h+1,a,e,its,B,⟨h1,h2,ks,h3,h4,h5,h6⟩,he,hi=>by
  have hn:G3 g a=ks.length:=by unfold G3;rw[h4,tN9]
  refine⟨by rw[hn];omega,λj hj=>?_⟩;rw[hn]at hj;have hg:=List.getElem?_eq_getElem hj;obtain⟨k1,k2,k3,k4⟩:=h6 j _ hg;have hkd:rKd g a j=ks[j].a:=by unfold rKd;rw[k1,tN9]
  rw[hkd];exact b4h k4 (by omega) λit hit=>hi it (by rw[h3];exact List.mem_flatMap.2 ⟨_,List.getElem_mem hj,hit⟩)
theorem c1E{Q:Q4}(h:finQ Q){qa qb qc qd:Nat}(ha:Fl.Fin qa)(hb:Fl.Fin qb)(hc:Fl.Fin qc)(hd:Fl.Fin qd):qmt Q qa qb qc qd=(decide (V Q.y0<=V qd)&&decide (V qb<=V Q.y1)&&decide (V Q.x0<=V qc)&&decide (V qa<=V Q.x1)):=by
 obtain⟨h0,h1,h2,h3⟩:=h;unfold qmt;rw[b0q h1 hd,a4P h3 hb,b0q h0 hc,a4P h2 ha,Bool.eq_iff_iff];simp only[bA9,Bool.not_eq_true',decide_eq_false_iff_not,decide_eq_true_eq];omega
theorem b7g{Q r:Q4}(hQ:finQ Q)(hr:finQ r)(hi:inQ Q r){qa qb qc qd:Nat}(ha:Fl.Fin qa)(hb:Fl.Fin qb)(hc:Fl.Fin qc)(hd:Fl.Fin qd)(hm:qmt r qa qb qc qd=true):qmt Q qa qb qc qd=true:=by
 rw[c1E hr ha hb hc hd]at hm;rw[c1E hQ ha hb hc hd];obtain⟨i0,i1,i2,i3⟩:=hi;simp only[bA9,decide_eq_true_eq]at *;omega
theorem QB.finQ{d:Nat}{Q:Q4}(h:QB d Q):finQ Q:=⟨h.1.fin,h.2.1.fin,h.2.2.1.fin,h.2.2.2.fin⟩
theorem a5L.facts{g:Nat->Int}{a w:Nat}{E:List Nat}(h:a5L g a w E):qW g a=(w:Nat)/\(qW g a).toNat=w/\qCn g a=E.length/\qSp g a=a+1+w+w*E.length/\∀ j x,E[j]? = some x->qIt g a j=x:=by
 have e1:qW g a=(w:Nat):=h.hg;have e2:(qW g a).toNat=w:=by rw[e1,tN9]
 have e3:qCn g a=E.length:=by unfold qCn;rw[e2,h.hn,tN9]
 exact⟨e1,e2,e3,by unfold qSp;rw[e2,e3],λj x hj=>by unfold qIt;rw[e2,h.hi j x hj,tN9]⟩
theorem a5L.okH{g:Nat->Int}{a w m n:Nat}{E:List Nat}(h:a5L g a w E)(hl:a+2+w+w*E.length<=m)(hE:∀ x∈E,x<n):b9h g m n a:=by
 obtain⟨e1,e2,e3,e4,e5⟩:=h.facts;refine⟨by have:=h.hw;omega,by rw[e4];omega,λj hj=>?_⟩;rw[e3]at hj;rw[e5 j _ (List.getElem?_eq_getElem hj)];exact hE _ (List.getElem_mem hj)
theorem a9M{g:Nat->Int}{a:Nat}{ks:List (Option EQ)}(hl:ks.length=4)(h0:∀ t,ks[t]? = some none->g (qSp g a+1+J8 ks t)=0)(h1:∀ t k,ks[t]? = some (some k)->g (qSp g a+1+J8 ks t)=1) :
  ∀ t,t<=4->qPo g a t=qSp g a+1+J8 ks t
 | 0,_=>by show qSp g a+1=_;simp[J8]
 | t+1,ht=>by
  have ih:=a9M hl h0 h1 t (by omega);show qPo g a t+(if g (qPo g a t)=1 then 5 else 1)=_;rw[ih];have hg:=List.getElem?_eq_getElem (l:=ks) (i:=t) (by omega);rw[a3V hg]
  cases hk:ks[t]with
  | none =>
   rw[hk]at hg;rw[h0 t hg];simp[qsz];omega
  | some k =>
   rw[hk]at hg;rw[h1 t k hg];simp[qsz];omega
theorem b4d{g:Nat->Int}{R:Nat->Q4}{n m:Nat}:∀ {d a e:Nat} {Q:Q4} {its:List Nat},a4U g R n d a e Q its->e<=m->d<=16->QB d Q->qOk g m n d a Q
 | 0,a,e,Q,its,⟨w,h1,h2,h3,h4⟩,he,_,_=>by
  refine⟨h1.okH (by omega) λx hx=>(h4 x hx).1,?_⟩;rw[h1.facts.2.2.2.1,h3];decide
 | d+1,a,e,Q,its,⟨w,E,ks,h1,h2,h3,h4⟩,he,hd,hQ=>by
  have e4:=h1.facts.2.2.2.1
  have hlo:a+2+w+w*E.length<=e:=by
   rcases h4 with h4|h4
   ·exact h4.2.1
   ·have:=h4.2.2.1;omega
  refine⟨h1.okH (by omega) λx hx=>(h3 x hx).1,λhs=>?_⟩;rw[e4]at hs;rcases h4 with⟨_,_,h5⟩|⟨k1,k2,k3,k4,k5⟩
  ·rw[h5]at hs;exact absurd hs (by decide)
  ·have ep:qSp g a+1=a+2+w+w*E.length:=by rw[e4];omega
   have hpo:=a9M (g:=g) (a:=a) k1 (λt ht=>by rw[ep];exact k4 t ht) (λt k ht=>by rw[ep];exact(k5 t k ht).1);refine⟨hQ.midOk (by omega),by rw[hpo 4 (Nat.le_refl _),ep];omega,λt ht hu=>?_⟩;have hg:=List.getElem?_eq_getElem (l:=ks) (i:=t) (by omega);rw[hpo t (by omega),ep]at hu
   cases hk:ks[t]with
   | none =>
    rw[hk]at hg;rw[k4 t hg]at hu;exact absurd hu (by decide)
   | some k =>
    rw[hk]at hg;obtain⟨l1,l2,l3,l4,l5⟩:=k5 t k hg
    have hkd:qKd g a t=k.a:=by
     unfold qKd;rw[hpo t (by omega),ep,l2,tN9]
    rw[hkd];exact b4d l5 (by omega) (by omega) (hQ.sub (by omega) t)
def a1f(Q:Q4):Prop:=V Q.x0<=V Q.x1/\V Q.y0<=V Q.y1
theorem b3D{d x y:Nat}(hd:d<=15)(hx:FUB (d+1) x)(hy:FUB (d+1) y)(h:V x<=V y):V x<=V (mid x y)/\V (mid x y)<=V y:=by
 obtain⟨a,a1,a2⟩:=hx;obtain⟨b,b1,b2⟩:=hy;rw[Nat.pow_succ]at a2 b2;obtain⟨h1,h2⟩:=c1O (Nat.two_pow_pos d) a2 b2;obtain⟨h3,h4⟩:=b8d (u:=1058+d) (by omega) (by omega) a1 b1 (by omega);have e1:V x=a*2 ^ (1058+d)*2:=by rw[a1.2,show 1058+(d+1)=1058+d+1 by omega,Int.pow_succ,Int.mul_assoc]
 have e2:V y=b*2 ^ (1058+d)*2:=by rw[b1.2,show 1058+(d+1)=1058+d+1 by omega,Int.pow_succ,Int.mul_assoc]
 have e3:V (mid x y)=a*2 ^ (1058+d)+b*2 ^ (1058+d):=by rw[h4.2,Int.add_mul]
 rw[e1,e2]at h;rw[e1,e2,e3];generalize a*2 ^ (1058+d)=u at *;generalize b*2 ^ (1058+d)=v at *;omega
theorem a1f.sub{d:Nat}{Q:Q4}(hd:d<=15)(h:QB (d+1) Q)(ho:a1f Q)(k:Int):a1f (qbV Q k)/\V Q.x0<=V (qbV Q k).x0/\V Q.y0<=V (qbV Q k).y0/\V (qbV Q k).x1<=V Q.x1/\V (qbV Q k).y1<=V Q.y1:=by
 have m1:=b3D hd h.1 h.2.2.1 ho.1;have m2:=b3D hd h.2.1 h.2.2.2 ho.2;obtain⟨o1,o2⟩:=ho;unfold a1f;simp only[qbV,qb0,qb1,qb2,qb3]
 repeat' split
 all_goals omega
theorem a8n{g:Nat->Int}{R:Nat->Q4}{n:Nat}:∀ {d a e:Nat} {Q:Q4} {its:List Nat},a4U g R n d a e Q its->d<=16->QB d Q->a1f Q->∀ x∈its,x<n/\finQ (R x)/\inQ Q (R x)
 | 0,a,e,Q,its,⟨w,h1,h2,h3,h4⟩,_,hQ,_,x,hx=>h4 x hx
 | d+1,a,e,Q,its,⟨w,E,ks,h1,h2,h3,h4⟩,hd16,hQ,ho,x,hx=>by
  rw[h2]at hx;rcases List.mem_append.1 hx with hx|hx
  ·exact h3 x hx
  ·obtain⟨o,ho1,ho2⟩:=List.mem_flatMap.1 hx;obtain⟨t,ht,rfl⟩:=List.getElem_of_mem ho1;rcases h4 with⟨k1,_,_⟩|⟨k1,k2,k3,k4,k5⟩
   ·subst k1;simp at ht
   ·cases hk:ks[t]with
    | none =>
     rw[hk]at ho2
     cases ho2
    | some k =>
     rw[hk]at ho2;obtain⟨l1,l2,l3,l4,l5⟩:=k5 t k (by rw[List.getElem?_eq_getElem ht,hk]);obtain⟨s1,s2,s3,s4,s5⟩:=ho.sub (by omega) hQ (t:Int);obtain⟨i1,i2,i3⟩:=a8n l5 (by omega) (hQ.sub (by omega) t) s1 x ho2;obtain⟨j1,j2,j3,j4⟩:=i3;exact⟨i1,i2,by omega,by omega,by omega,by omega⟩
noncomputable section
def GBi:Ctx:=⟨⟨tys,FP⟩,[(111,B3 b2G),(112,B3 b0Q),(113,z4 a2P)]⟩
theorem gBi:B7 prog GBi:=⟨⟨E1,c3d⟩,j9.cons c5i (j9.cons c2V (j9.cons (.pure b0h) j9.nil)),by kernel_rfl⟩
def XBi:F3:=⟨GBi,[(114,o9 RM ⟨default⟩ a6a),(116,o9 DI ⟨default⟩ b2g),(115,o9 Unit ⟨()⟩ b5s),(117,o9 RM ⟨default⟩ (a5Z 40)),(118,o9 DI ⟨default⟩ (a6A 40))],[(180,2),(191,2)],[(183,2),(185,2)],[]⟩
theorem xBi:A7 prog XBi:=⟨gBi,q8.cons b9I (q8.cons c4R (q8.cons c7Y (q8.cons (b3t 40) (q8.cons (b3M 40) q8.nil))))⟩
def biH(cl cw cv:Bool)(k:Int)(x y z w n:Nat)(g:Nat->Nat)(q:RM):A1:=[(0,⟨true,150,a0c cl cw cv k x y z w 1 n,0⟩),(1,⟨false,100, .flts .f64 (2*n) g,0⟩),(2,rwO biT q)]
def c7Z(cl cw cv:Bool)(k:Int)(x y z w n:Nat)(g:Nat->Nat):R5:=⟨⟨BI,λp=>⟨88,[(0, .ptr 0 0),(2, .pb 2 p.b 0),(3, .int .i64 (nsg cl n (wz g))),(4, .int .i64 p.j)],biH cl cw cv k x y z w n g p.q,3⟩,b0g g n (nsg cl n (wz g)),λp=>nsg cl n (wz g)-p.j⟩,λ_=>[]⟩
def c7T(cl cw cv:Bool)(k:Int)(x y z w n:Nat)(g:Nat->Nat):R5:=⟨⟨BI,λp=>⟨88,[(0, .ptr 0 0),(6, .pb 2 p.b 0),(7, .int .i64 (nsg cl n (wz g))),(8, .int .i64 p.j)],biH cl cw cv k x y z w n g p.q,3⟩,b0t g n (nsg cl n (wz g)) ⟨x,y,z,w⟩,λp=>nsg cl n (wz g)-p.j⟩,λ_=>[]⟩
end
noncomputable def GMi:Ctx:=⟨⟨tys,[]⟩,[(102,B3 b2b),(97,B3 a5H)]⟩
theorem gMi:B7 prog GMi:=⟨⟨E1,FlatsOk.nil⟩,j9.cons c4a (j9.cons b9K j9.nil),by kernel_rfl⟩
def ppQ(len:Nat)(cl:Bool)(g:Nat->Nat):Q4:=⟨pick (l9 len cl) (rlo g 0 len),pick (l9 len cl) (rlo g 1 len),pick (l9 len cl) (rhi g 0 len),pick (l9 len cl) (rhi g 1 len)⟩
noncomputable section
def a8t(cl cw cv:Bool)(k:Int)(ib:Bool)(d:Nm)(m:Nat)(x y z w:Nat)(p:Nm)(n:Nat):a9:=.cells [.bool cl, .bool cw, .bool cv, .int .u8 k, .opt ib 185 (.slcc d m), .flt .f64 x, .flt .f64 y, .flt .f64 z, .flt .f64 w, .slcc p n]
def ixP(ib:Bool)(mm:Nat)(k:Int)(n:Nat)(g:Nat->Nat)(Q:Q4)(r:Nat×(Nat->Int)):Prop:=(ib=true->c2e mm k n g Q r)/\(ib=false->r.1=0)
def C2(len:Nat)(m k:Int):Bool:=decide (m≠0/\m<=(len:Int))&&decide (k≠0)
def ixK(len:Nat)(m k:Int):Int:=if m≠0/\m<=(len:Int)then k else 0
def b2A:List SV->RRd (Nat×(Nat->Int))
 | [.ptr s 0]=>.read s λo0=>(match a2t o0 150 0 with
  | true=>(match a3o o0.c with
  | some (cl,cw,cv,k,x,y,z,w,p,n)=>.read p λo1=>(match A9 .f64 o1.c with
  | some (m1,g)=>.ret ⟨[.ptr 0 0],[(0,⟨true,150,a0c cl cw cv k x y z w 1 n,0⟩),(1,⟨false,100, .flts .f64 m1 g,0⟩)],some (m1=2*n/\(k=0∨b5V (nsg cl n (wz g)) k n g ⟨x,y,z,w⟩)),λr=>ixP (decide (k≠0)) (nsg cl n (wz g)) k n g ⟨x,y,z,w⟩ r,λr=>⟨[],[], .tup [],[(0,⟨true,150,a8t cl cw cv k (decide (k≠0)) 2 r.1 x y z w 1 n,0⟩)],[(2,⟨true,5, .ints .u8 r.1 r.2,1⟩)],none⟩⟩
  | none=>.fail)
  | none=>.fail)
  | false=>.fail)
 | _=>.fail
theorem b6I(cl cw cv:Bool)(k:Int)(x y z w:Nat)(_:Nm)(n:Nat)(g:Nat->Nat){T1}(t1:T1=λ(i:BI) (i_1:Nat) (i_2:Nat)=>(RM.mk (K5 (K5 (RM.D (BI.q i)) i_1) i_2) (D8 (D8 (BI.q i).2 i_1 2) i_2 2) (C8 (C8 (BI.q i).3 i_1 λ(j:Nat)=>List.getD [Value.float .f64 (I2 (g (2*toNat (↑(BI.j i):Int))) (g (2 *
 nx n (toNat (↑(BI.j i):Int))))),Value.float .f64 (I2 (g (2*toNat (↑(BI.j i):Int)+1)) (g (2*nx n (toNat (↑(BI.j i):Int))+1)))] j (Value.bool false)) i_2 λ(j:Nat)=>List.getD [Value.float .f64 (H8 (g (2*toNat
 (↑(BI.j i):Int))) (g (2*nx n (toNat (↑(BI.j i):Int))))),Value.float .f64 (H8 (g (2*toNat (↑(BI.j i):Int)+1)) (g (2*nx n (toNat (↑(BI.j i):Int))+1)))] j (Value.bool false)))){T2}(t2:T2=λ(i:BI) (i_2:DI)=>(True->∃
 (pq:Nat×(Nat->Int)),ixP (decide (k≠(0:Int))) (nsg cl n (wz g)) k n g (Q4.mk x y z w) pq/\True/\True/\(150=150/\0=0/\cl=cl/\cw=cw/\cv=cv/\k=k/\(decide (k≠(0:Int))=true/\True/\DI.l i_2=pq.1)/\x=x/\y=y/\z
 = z/\w=w/\(True/\n=n)/\True)/\True/\(5=5/\1=1/\pq.1<=DI.l i_2/\∀ (i:Nat),i<pq.1->byG (p4R (RM.mk (RM.D (DI.q i_2)) (DI.q i_2).2 (DI.q i_2).3) (DI.b i_2) (DI.c i_2+1) (↑(DI.l i_2):Int)) (DI.b i_2) (DI.c i_2) i=pq.2 i)/\
 True)){T3}(t3:T3=λ(i:BI) (i_1:Nat)=>(RM.mk (K5 (RM.D (BI.q i)) i_1) (D8 (BI.q i).2 i_1 5) (C8 (BI.q i).3 i_1 λ(j:Nat)=>List.getD [Value.int .u8 (1:Int),Value.int .u8 (0:Int),Value.int .u8 (0:Int),Value.int .u8 (0:Int),
 Value.int .u8 (0:Int)] j (Value.bool false)))){T4}(t4:T4=(150=150/\0=0/\cl=cl/\cw=cw/\cv=cv/\k=k/\True/\x=x/\y=y/\z=z/\w=w/\(True/\n=n)/\True)){T5}(t5:T5=(↑(nsg cl n (wz g)):Int)){T6}(t6:T6=λ(i:BI)=>(↑(BI.j
 i):Int)){T7}(t7:T7=λ(i:BI) (i_1:Nat)=>(RM.mk (K5 (RM.D (BI.q i)) i_1) (D8 (BI.q i).2 i_1 5) (C8 (BI.q i).3 i_1 λ(j:Nat)=>List.getD [Value.int .u8 (2:Int),Value.int .u8 (0:Int),Value.int .u8 (0:Int),Value.int .u8 (0:Int),
 Value.int .u8 (0:Int)] j (Value.bool false)))){T8}(t8:T8=λ(i_2:DI)=>(2*n=2*n/\byO (RM.mk (RM.D (DI.q i_2)) (DI.q i_2).2 (DI.q i_2).3) (DI.b i_2) (DI.c i_2) (DI.l i_2) (DI.k i_2)/\5<=DI.l i_2/\DI.l i_2<=2000000)){T9}(t9:T9=(Q4.mk x y
 z w)){T10}(t10:T10=(nsg cl n (wz g))){T11}(t11:T11=λ(i:Nat) (pq:BI)=>((True/\0=0)/\(True/\i=BI.b pq/\0=0)/\T5=T5/\0=(↑(BI.j pq):Int)/\True)){T12}(t12:T12=λ(i:BI)=>(RM.mk (RM.D (BI.q i)) (BI.q i).2 (BI.q
 i).3)){T13}(t13:T13=λ(i:BI)=>(2*n=2*n/\0<=(T6 i)/\(T6 i)<(↑n:Int)/\n<=1000000)){T14}(t14:T14=(2*n=2*n/\n<=1000000/\FL2 g (2*n))):K8 XBi 2 [(6,c7Z cl cw cv k x y z w n g),(15,c7T cl cw cv k x y z w n g)] [] (p9 f103) (St.addRaw (A6 f103.ntmps [.ptr 0 0] [(0,⟨true,150,a0c cl cw cv k x y z w 1 n,0⟩),(1,⟨false,100, .flts .f64 (2*n) g,0⟩)] 2) biT) (A8 XBi.G.E.T f103.results.toList λS v=>∃ r:Nat×(Nat->Int),ixP (decide (k≠0)) (nsg cl n (wz g)) k n g ⟨x,y,z,w⟩ r/\D5 2 ⟨[],[], .tup [],[(0,⟨true,150,a8t cl cw cv k (decide (k≠0)) 2 r.1 x y z w 1 n,0⟩)],[(2,⟨true,5, .ints .u8 r.1 r.2,1⟩)],none⟩ S v)=(
 ((k==(1:Int))=true->∀(i:Nat),¬False->T14/\(∃(pq:BI),b0g g n T10 pq/\(T11 i pq)/\True/\T4/\True/\(2*n<=2*n/\∀(i:Nat),i<2*n->g i=g i)/\True/\(0=0/\0=0/\biT=biT/\I4 (λ(_:Nat)=>False) (λ(_ _
 : Nat)=>Value.bool false) i (Go.Sx.rz tys 180)=(BI.q pq).3/\K2 (λ(_:Nat)=>False) (λ(_:Nat)=>0) i 8=(BI.q pq).2/\K5 (λ(_:Nat)=>False) i=RM.D (BI.q pq))/\True)/\∀(i:BI),b0g g n T10 i->(decide ((T6 i)<T5) =
 true->(T13 i)/\∀(i_1:Nat),¬(BI.q i).1 i_1->∀(i_2:Nat),¬(i_2=i_1∨(BI.q i).1 i_2)->∀(i_3:RM),(2=2/\2=2/\3=3/\inO (T1 i i_1 i_2) (BI.b i) 0 i_1 0 2 i_2 0 2)/\(inP (T1 i i_1 i_2) (BI.b i) 0 i_1 0 i_2 0 (T6 i) i_3->∃(pq :
 BI),b0g g n T10 pq/\nsg cl n (wz g)-BI.j pq<nsg cl n (wz g)-BI.j i/\((True/\0=0)/\(True/\BI.b i=BI.b pq/\0=0)/\T5=T5/\IntKind.wrap .i64 ((T6 i)+1)=(↑(BI.j pq):Int)/\True)/\True/\T4/\True/\(2*n<=2*n/\∀(i :
 Nat),i<2*n->g i=g i)/\True/\(0=0/\0=0/\biT=biT/\i_3.3=(BI.q pq).3/\i_3.2=(BI.q pq).2/\RM.D i_3=RM.D (BI.q pq))/\True))/\(decide ((T6 i)<T5)=false->∀(i_1:Nat),¬(BI.q i).1 i_1->∀(i_2:DI),(2=2/\byO (T3 i
 i_1) i_1 0 5 5/\∃(pq:List Nat),∃(pq_1:List (Int×Bx)),a3k (T3 i i_1) (BI.b i) 0 i_1 5 pq pq_1)/\(a3S (T3 i i_1) (BI.b i) 0 i_1 0 5 i_2->∀(_:Unit),(T8 i_2)/\(T2 i i_2))))/\((k==(1:Int))=false->((k==(2:Int))=true->∀
 (i:Nat),¬False->T14/\(∃(pq:BI),b0t g n T10 T9 pq/\(T11 i pq)/\True/\T4/\True/\(2*n<=2*n/\∀(i:Nat),i<2*n->g i=g i)/\True/\(0=0/\0=0/\biT=biT/\I4 (λ(_:Nat)=>False) (λ(_ _:Nat)=>Value.bool
 false) i (Go.Sx.rz tys 191)=(BI.q pq).3/\K2 (λ(_:Nat)=>False) (λ(_:Nat)=>0) i 6=(BI.q pq).2/\K5 (λ(_:Nat)=>False) i=RM.D (BI.q pq))/\True)/\∀(i:BI),b0t g n T10 T9 i->(decide ((T6 i)<T5)=true->(T13 i)/\∀
 (i_1:RM),(0=0/\2*n=2*n/\((0:Int)<=0/\(0:Int)<=16/\32+a1x (T12 i) (BI.b i)<40)/\(0<=(T6 i)/\(T6 i)<(↑n:Int))/\qiO (T12 i) g n (BI.b i) T9 (Q4.mk (I2 (g (2*toNat (T6 i))) (g (2*nx n (toNat (T6 i)))))
 (I2 (g (2*toNat (T6 i)+1)) (g (2*nx n (toNat (T6 i))+1))) (H8 (g (2*toNat (T6 i))) (g (2*nx n (toNat (T6 i))))) (H8 (g (2*toNat (T6 i)+1)) (g (2*nx n (toNat (T6 i))+1)))) (toNat (T6 i)) 16)/\true
 = true/\(qiP (T12 i) g n (BI.b i) T9 16 (toNat (T6 i)) i_1->∃(pq:BI),b0t g n T10 T9 pq/\nsg cl n (wz g)-BI.j pq<nsg cl n (wz g)-BI.j i/\((True/\0=0)/\(True/\BI.b i=BI.b pq/\0=0)/\T5=T5/\IntKind.wrap .i64 ((T6 i)+(1
 : Int))=(↑(BI.j pq):Int)/\True)/\True/\T4/\True/\(2*n<=2*n/\∀(i:Nat),i<2*n->g i=g i)/\True/\(0=0/\0=0/\biT=biT/\i_1.3=(BI.q pq).3/\i_1.2=(BI.q pq).2/\RM.D i_1=RM.D (BI.q pq))/\True))/\(decide ((T6 i) <
 T5)=false->∀(i_1:Nat),¬(BI.q i).1 i_1->∀(i_2:DI),(2=2/\0=0/\qmO (T7 i i_1) (BI.b i) T9 i_1 0 5 5 40)/\(qmP (T7 i i_1) (BI.b i) T9 i_1 0 5 i_2->∀(_:Unit),(T8 i_2)/\(T2 i i_2))))/\((k==(2:Int))=false->∃(pq:Nat×(Nat
 ->Int)),ixP (decide (k≠(0:Int))) T10 k n g T9 pq/\True/\True/\(150=150/\0=0/\cl=cl/\cw=cw/\cv=cv/\k=k/\decide (k≠(0:Int))=false/\x=x/\y=y/\z=z/\w=w/\(True/\n=n)/\True)/\True/\pq.1=0/\True))):=by subst t1 t2 t3 t4 t5 t6 t7 t8 t9 t10 t11 t12 t13 t14;kernel_rfl
theorem c5m:z0 prog 103 (o9 (Nat×(Nat->Int)) ⟨(0,λ_=>0)⟩ b2A):=by
 refine b0J xBi func103 rfl (by kernel_rfl) biT λargs=>?_
 unfold b2A;split;rotate_left;trivial;rename_i s;intro o0;try dsimp only
 split;rotate_left;trivial;rename_i hrw0;try dsimp only
 split;rotate_left;trivial;rename_i cl cw cv k x y z w p n hm0;intro o1;try dsimp only
 split;rotate_left;trivial;rename_i m1 g hm1;intro(ho:m1=2*n/\(k=0∨b5V (nsg cl n (wz g)) k n g ⟨x,y,z,w⟩));obtain⟨hsz1,ho⟩:=ho;subst hsz1;refine⟨?_,_,_,(b6I cl cw cv k x y z w p n g rfl rfl rfl rfl rfl rfl rfl rfl rfl rfl rfl rfl rfl rfl).mpr ?_⟩
 ·refine j8 rfl ⟨λ_=>rfl,?_,⟨trivial,Q6 hrw0 (R6 hm0 g9),⟨trivial,(C6 hm1).1,trivial⟩⟩⟩;simp[q9,z5,z8,z3,nth,g9]
 ·rcases ho with rfl|⟨hk,hn,hg,hq2⟩
  ·simp only[true_and,and_true,eq_self,tN9,decide_eq_true_eq,decide_eq_false_iff_not,true_implies,implies_true,Int.reduceLE,Int.le_refl];refine⟨λh=>absurd h (by decide),λ_=>⟨λh=>absurd h (by decide),λ_=>?_⟩⟩;refine⟨(0,λ_=>0),⟨λh=>absurd h (by decide),λ_=>rfl⟩,?_⟩;exact⟨by simp,rfl⟩
  have hm:=b3r cl n (wz g);simp only[true_and,and_true,eq_self,tN9,decide_eq_true_eq,decide_eq_false_iff_not,true_implies,implies_true,Int.reduceLE,Int.le_refl];generalize nsg cl n (wz g)=m at *;have nf:∀ a:Nat,¬(λ_:Nat=>False) a:=λ_ h=>h
  have hwj:∀ j:Nat,j<m->IntKind.i64.wrap ((j:Int)+1)=((j+1:Nat):Int):=λj hj=>by rw[j5 (by omega) (by omega)];rfl
  refine⟨λh1 a _=>⟨⟨by omega,hg⟩,?_,?_⟩,λh1=>⟨λh2 a _=>⟨⟨by omega,hg⟩,?_,?_⟩,λh2=>?_⟩⟩
  ·rw[Q7 (nf a),Q2 (nf a)];exact⟨⟨⟨K5 (λ_=>False) a,D8 (λ_=>0) a 8,C8 (λ_ _=>.bool false) a (rz tys 180)⟩,a,0⟩,b8i g n m (.inl rfl) (by simp[D8]) (λk=>by simp[C8]),⟨rfl,rfl⟩,Nat.le_refl _,rfl,rfl,rfl⟩
  ·have hk1:k=1:=by simpa using h1
   subst hk1;rintro⟨q,b,j⟩ hb;dsimp only;refine⟨λhlt=>⟨⟨by omega,by have:=hb.1;dsimp only at this;omega,by omega⟩,λa1 ha1 a2 ha2 q'=>?_⟩,λhge a1 ha1 i=>?_⟩
   ·obtain⟨s1,s2⟩:=b6d hb (by show j<m;omega) hm hn hg ha1 ha2 (f1:=λt=>[Value.float .f64 (I2 (g (2*j)) (g (2*nx n j))),Value.float .f64 (I2 (g (2*j+1)) (g (2*nx n j+1)))].getD t (.bool false)) (f2:=λt=>[Value.float .f64 (H8 (g (2*j)) (g (2*nx n j))),Value.float .f64 (H8 (g (2*j+1)) (g (2*nx n j+1)))].getD t (.bool false)) rfl rfl rfl rfl;exact⟨s1,λhP=>⟨_,s2 q' hP,by show m-(j+1)<m-j;omega,⟨rfl,hwj j (by omega)⟩,Nat.le_refl _,rfl,rfl,rfl⟩⟩
   ·obtain⟨s1,s2⟩:=b8I (Q:=⟨x,y,z,w⟩) hb (by have:=hb.1;dsimp only at this;show j=m;omega) hm hn ha1;refine⟨⟨b7E (by decide),s1⟩,λhP _=>?_⟩;obtain⟨s3,s4⟩:=s2 i hP;exact⟨s3,_,⟨λ_=>s4,λh=>absurd h (by decide)⟩,⟨by decide,rfl⟩,Nat.le_refl _,λ_ _=>rfl⟩
  ·rw[Q7 (nf a),Q2 (nf a)];exact⟨⟨⟨K5 (λ_=>False) a,D8 (λ_=>0) a 6,C8 (λ_ _=>.bool false) a (rz tys 191)⟩,a,0⟩,b5J g n m _ (.inl rfl) (by simp[D8]) (λk=>by simp[C8]),⟨rfl,rfl⟩,Nat.le_refl _,rfl,rfl,rfl⟩
  ·have hk1:k=2:=by simpa using h2
   subst hk1;obtain⟨hQ,hit⟩:=hq2 rfl;rintro⟨q,b,j⟩ hb;dsimp only;refine⟨λhlt=>⟨⟨by omega,by have:=hb.1;dsimp only at this;omega,by omega⟩,λq'=>?_⟩,λhge a1 ha1 i=>?_⟩
   ·obtain⟨s1,s2⟩:=b5L hb (by show j<m;omega) hm hn hQ hit;have hsp:=a9g q b;exact⟨⟨by show 32+a1x q b<40;omega,⟨by omega,by omega⟩,s1⟩,λhP=>⟨_,s2 q' hP,by show m-(j+1)<m-j;omega,⟨rfl,hwj j (by omega)⟩,Nat.le_refl _,rfl,rfl,rfl⟩⟩
   ·obtain⟨s1,s2⟩:=b8r (Q:=⟨x,y,z,w⟩) hb (by have:=hb.1;dsimp only at this;show j=m;omega) hm hn hQ ha1;refine⟨s1,λhP _=>?_⟩;obtain⟨s3,s4⟩:=s2 i hP;exact⟨s3,_,⟨λ_=>s4,λh=>absurd h (by decide)⟩,⟨by decide,rfl⟩,Nat.le_refl _,λ_ _=>rfl⟩
  ·exfalso;rcases hk with rfl|rfl
   ·exact absurd h1 (by decide)
   ·exact absurd h2 (by decide)
def XMu:F3:=⟨GMi,[(103,o9 (Nat×(Nat->Int)) ⟨(0,λ_=>0)⟩ b2A)],[],[],[]⟩
theorem xMu:A7 prog XMu:=⟨gMi,q8.cons c5m q8.nil⟩
def a0Z(len:Nat)(cl:Bool)(g:Nat->Nat)(p:Nm)(k:Int)(ib:Bool)(d:Nm)(m:Nat):List SV :=
 [.bool cl, .bool (l9 len cl&&fGt .f64 (cwF g len len) 0), .bool (l9 len cl && !(dcF g len len).2), .int .u8 k, .opt ib 185 (.slcc d m), .flt .f64 (pick (l9 len cl) (rlo g 0 len)), .flt .f64 (pick (l9 len cl) (rlo g 1 len)), .flt .f64 (pick (l9 len cl) (rhi g 0 len)), .flt .f64 (pick (l9 len cl) (rhi g 1 len)), .slcc p len]
def Y2(len:Nat)(cl:Bool)(m k:Int)(g:Nat->Nat):Prop:=len<=1000000/\(l9 len cl=true->ppOk g len)/\(C2 len m k=true->b5V (nsg cl len (wz g)) k len g (ppQ len cl g))
def c3s:List SV->RRd (Nat×(Nat->Int))
 | [.slcc n len, .tt,v, .ptr o 0]=>.read n λo0=>(match A9 .f64 o0.c with
  | some (m0,g)=>.read o λo1=>(match a8m o1.c with
  | some (k,m)=>(match v.toB with
  | some cl=>.ret ⟨[.slcc 0 len, .tt, .bool cl, .ptr 1 0],[(0,⟨false,100, .flts .f64 m0 g,0⟩),(1,⟨false,148,a9E k m,0⟩)],some (m0=2*len/\(Y2 len cl m k g)),λr=>ixP (C2 len m k) (nsg cl len (wz g)) k len g (ppQ len cl g) r,λr=>⟨[],[], .agg (a0Z len cl g 2 (ixK len m k) (C2 len m k) 3 r.1),[],[(2,⟨true,100, .flts .f64 (2*len) g,2⟩),(3,⟨true,5, .ints .u8 r.1 r.2,1⟩)],none⟩⟩
  | none=>.fail)
  | none=>.fail)
  | none=>.fail)
 | _=>.fail
theorem c2l(len:Nat)(cl:Bool)(m:Int)(k:Int)(g:Nat->Nat){T1}(t1:T1=(cl=cl/\(l9 len cl&&fGt .f64 (cwF g len len) 0)=(l9 len cl&&fGt .f64 (cwF g len len) 0)/\(l9 len cl && !(dcF g len len).2)=(l9 len cl && !(dcF g len len).2)/\(0:Int)=ixK len m k/\C2 len m k=false/\pick
 (l9 len cl) (rlo g 0 len)=pick (l9 len cl) (rlo g 0 len)/\pick (l9 len cl) (rlo g 1 len)=pick (l9 len cl) (rlo g 1 len)/\pick (l9 len cl) (rhi g 0 len)=pick (l9 len cl) (rhi g 0 len)/\pick (l9 len cl) (rhi g 1 len) =
 pick (l9 len cl) (rhi g 1 len)/\(True/\toNat (↑len:Int)=len)/\True)){T2}(t2:T2=(↑len:Int)){T3}(t3:T3=(l9 len cl)){T4}(t4:T4=(Q4.mk (pick T3 (rlo g 0 len)) (pick T3 (rlo g 1 len)) (pick T3 (rhi g 0 len)) (pick T3 (rhi g 1
 len)))){T5}(t5:T5=(100=100/\2=2/\2*len<=toNat T2*2/\∀ (i:Nat),i<2*len->g i=g i)){T6}(t6:T6=(l9 len cl&&fGt .f64 (cwF g len len) 0)):K8 XMu 2 [] [] (p9 f92) (A6 f92.ntmps [.slcc 0 len, .tt, .bool cl, .ptr 1 0] [(0,⟨false,100, .flts .f64 (2*len) g,0⟩),(1,⟨false,148,a9E k m,0⟩)] 2) (A8 XMu.G.E.T f92.results.toList λS v=>∃ r:Nat×(Nat->Int),ixP (C2 len m k) (nsg cl len (wz g)) k len g (ppQ len cl g) r/\D5 2 ⟨[],[], .agg (a0Z len cl g 2 (ixK len m k) (C2 len m k) 3 r.1),[],[(2,⟨true,100, .flts .f64 (2*len) g,2⟩),(3,⟨true,5, .ints .u8 r.1 r.2,1⟩)],none⟩ S v)=(
 (T2=T2/\0<=T2/\T2<=9223372036854775807/\T2*16<=(140737488355328:Int))/\(len=toNat T2/\toNat T2*2=toNat T2*2/\2*len=toNat T2*2)/\(2*len=2*len/\len<=1000000/\(l9 len cl=true->ppOk g len))/\
 ((m != (0:Int))=true->(decide (m<=T2)=true->∀(i:Nat×(Nat->Int)),(toNat T2*2=2*toNat T2/\(k=(0:Int)∨b5V (nsg cl (toNat T2) (wz g)) k (toNat T2) g T4))/\(ixP (decide (k≠(0:Int))) (nsg cl (toNat T2)
 (wz g)) k (toNat T2) g T4 i->∃(pq:Nat×(Nat->Int)),ixP (C2 len m k) (nsg cl len (wz g)) k len g (ppQ len cl g) pq/\(cl=cl/\T6=T6/\(l9 len cl && !Prod.snd (dcF g len len))=(l9 len cl && !(dcF g len len).2)/\k=ixK len m k
 /\(decide (k≠(0:Int))=C2 len m k/\True/\i.1=pq.1)/\pick T3 (rlo g 0 len)=pick T3 (rlo g 0 len)/\pick T3 (rlo g 1 len)=pick T3 (rlo g 1 len)/\pick T3 (rhi g 0 len)=pick T3 (rhi g 0 len)/\pick T3 (rhi g 1 len)=pick T3 (rhi g 1
 len)/\(True/\toNat T2=len)/\True)/\True/\(100=100/\2=2/\2*len<=toNat T2*2/\∀(i:Nat),i<2*len->g i=g i)/\True/\(5=5/\1=1/\pq.1<=i.1/\∀(i_1:Nat),i_1<pq.1->i.2 i_1=pq.2 i_1)/\True))/\(decide (m<=
 T2)=false->∃(pq:Nat×(Nat->Int)),ixP (C2 len m k) (nsg cl len (wz g)) k len g (ppQ len cl g) pq/\T1/\True/\T5/\True/\pq.1=0/\True))/\((m != (0:Int))=false->∃(pq:Nat×(Nat->Int)),ixP (C2 len m k) (nsg cl len (wz g)) k
 len g (ppQ len cl g) pq/\T1/\True/\T5/\True/\pq.1=0/\True)):=by subst t1 t2 t3 t4 t5 t6;kernel_rfl
theorem mkU:z0 prog 92 (o9 (Nat×(Nat->Int)) ⟨(0,λ_=>0)⟩ c3s):=by
 refine G7 xMu func92 rfl (by kernel_rfl) λargs=>?_
 unfold c3s;split;rotate_left;trivial;rename_i n len v o;intro o0;try dsimp only
 split;rotate_left;trivial;rename_i m0 g hm0;intro o1;try dsimp only
 split;rotate_left;trivial;rename_i k m hm1;try dsimp only
 split;rotate_left;trivial;rename_i cl hcl;intro(ho:m0=2*len/\(Y2 len cl m k g));obtain⟨hsz0,ho⟩:=ho;subst hsz0;refine⟨?_,_,_,(c2l len cl m k g rfl rfl rfl rfl rfl rfl).mpr ?_⟩
 ·refine j8 rfl ⟨λ_=>rfl,?_,⟨trivial,(C6 hm0).1,⟨trivial,a0F hm1,trivial⟩⟩⟩;simp[q9,z5,z8,z3,nth,g9,J9 hcl]
 ·obtain⟨hl,hpp,hb⟩:=ho;simp only[true_and,and_true,eq_self,tN9,decide_eq_true_eq,decide_eq_false_iff_not,implies_true];have e2:2*len=len*2:=by omega
  have hyes:(m != 0)=true->m<=(len:Int)->C2 len m k=decide (k≠0):=λh0 h1=>by
   have hm:m≠0/\m<=(len:Int):=⟨by simpa using h0,h1⟩;unfold C2;rw[decide_eq_true hm,Bool.true_and]
  refine⟨⟨by omega,by omega,by omega⟩,e2,⟨hl,hpp⟩,λh0=>⟨λh1 r=>⟨⟨e2.symm,?_⟩,λhP=>⟨r,?_,⟨?_,?_,rfl⟩,by omega,Nat.le_refl _,λ_ _=>rfl⟩⟩,λh1=>?_⟩,λh0=>?_⟩
  ·by_cases hk:k=0
   ·exact .inl hk
   ·exact .inr (hb (by rw[hyes h0 h1];exact decide_eq_true hk))
  ·rw[hyes h0 h1];exact hP
  ·have hm:m≠0/\m<=(len:Int):=⟨by simpa using h0,h1⟩;unfold ixK;rw[if_pos hm]
  ·exact(hyes h0 h1).symm
  ·have hno:¬(m≠0/\m<=(len:Int)):=λh=>h1 h.2
   have hf:C2 len m k=false:=by unfold C2;rw[decide_eq_false hno,Bool.false_and]
   exact⟨(0,λ_=>0),⟨λh=>by rw[hf]at h;exact absurd h (by decide),λ_=>rfl⟩,⟨by unfold ixK;rw[if_neg hno],hf⟩,by omega,rfl⟩
  ·have hno:¬(m≠0/\m<=(len:Int)):=λh=>by simp[h.1]at h0
   have hf:C2 len m k=false:=by unfold C2;rw[decide_eq_false hno,Bool.false_and]
   exact⟨(0,λ_=>0),⟨λh=>by rw[hf]at h;exact absurd h (by decide),λ_=>rfl⟩,⟨by unfold ixK;rw[if_neg hno],hf⟩,by omega,rfl⟩
def XLu:F3:=⟨G0,[(92,o9 (Nat×(Nat->Int)) ⟨(0,λ_=>0)⟩ c3s)],[],[],[]⟩
theorem xLu:A7 prog XLu:=⟨g0,q8.cons mkU q8.nil⟩
def a4w:List SV->RRd (Nat×(Nat->Int))
 | [.slcc n len, .ptr o 0]=>.read n λo0=>(match A9 .f64 o0.c with
  | some (m0,g)=>.read o λo1=>(match a8m o1.c with
  | some (k,m)=>.ret ⟨[.slcc 0 len, .ptr 1 0],[(0,⟨false,100, .flts .f64 m0 g,0⟩),(1,⟨false,148,a9E k m,0⟩)],some (m0=2*len/\(Y2 len false m k g)),λr=>ixP (C2 len m k) (nsg false len (wz g)) k len g (ppQ len false g) r,λr=>⟨[],[], .ptr 2 0,[],[(2,⟨true,152, .cells (a0Z len false g 3 (ixK len m k) (C2 len m k) 4 r.1),0⟩),(3,⟨true,100, .flts .f64 (2*len) g,2⟩),(4,⟨true,5, .ints .u8 r.1 r.2,1⟩)],none⟩⟩
  | none=>.fail)
  | none=>.fail)
 | _=>.fail
theorem b1n(len:Nat)(m:Int)(k:Int)(g:Nat->Nat){T1}(t1:T1=(l9 len false)){T2}(t2:T2=(l9 len false&&fGt .f64 (cwF g len len) 0)):K8 XLu 2 [] [] (p9 f73) (A6 f73.ntmps [.slcc 0 len, .ptr 1 0] [(0,⟨false,100, .flts .f64 (2*len) g,0⟩),(1,⟨false,148,a9E k m,0⟩)] 2) (A8 XLu.G.E.T f73.results.toList λS v=>∃ r:Nat×(Nat->Int),ixP (C2 len m k) (nsg false len (wz g)) k len g (ppQ len false g) r/\D5 2 ⟨[],[], .ptr 2 0,[],[(2,⟨true,152, .cells (a0Z len false g 3 (ixK len m k) (C2 len m k) 4 r.1),0⟩),(3,⟨true,100, .flts .f64 (2*len) g,2⟩),(4,⟨true,5, .ints .u8 r.1 r.2,1⟩)],none⟩ S v)=(
 ∀(i:Nat×(Nat->Int)),(2*len=2*len/\Y2 len false m k g)/\(ixP (C2 len m k) (nsg false len (wz g)) k len g (ppQ len false g) i->∃(pq:Nat×(Nat->Int)),ixP (C2 len m k) (nsg false len (wz g)) k len g (ppQ len false g) pq/\
 (True/\0=0)/\True/\(152=152/\0=0/\false=false/\T2=T2/\(l9 len false && !(dcF g len len).2)=(l9 len false && !(dcF g len len).2)/\ixK len m k=ixK len m k/\(C2 len m k=C2 len m k/\True/\i.1=pq.1)/\pick T1 (rlo g
 0 len)=pick T1 (rlo g 0 len)/\pick T1 (rlo g 1 len)=pick T1 (rlo g 1 len)/\pick T1 (rhi g 0 len)=pick T1 (rhi g 0 len)/\pick T1 (rhi g 1 len)=pick T1 (rhi g 1 len)/\(True/\len=len)/\True)/\True/\(100=100/\2=2/\2*len<=2 *
 len/\∀(i:Nat),i<2*len->g i=g i)/\True/\(5=5/\1=1/\pq.1<=i.1/\∀(i_1:Nat),i_1<pq.1->i.2 i_1=pq.2 i_1)/\True)):=by subst t1 t2;kernel_rfl
theorem b5w:z0 prog 73 (o9 (Nat×(Nat->Int)) ⟨(0,λ_=>0)⟩ a4w):=by
 refine G7 xLu func73 rfl (by kernel_rfl) λargs=>?_
 unfold a4w;split;rotate_left;trivial;rename_i n len o;intro o0;try dsimp only
 split;rotate_left;trivial;rename_i m0 g hm0;intro o1;try dsimp only
 split;rotate_left;trivial;rename_i k m hm1;intro(ho:m0=2*len/\(Y2 len false m k g));obtain⟨hsz0,ho⟩:=ho;subst hsz0;refine⟨?_,_,_,(b1n len m k g rfl rfl).mpr ?_⟩
 ·refine j8 rfl ⟨λ_=>rfl,?_,⟨trivial,(C6 hm0).1,⟨trivial,a0F hm1,trivial⟩⟩⟩;simp[q9,z5,z8,z3,nth,g9]
 ·simp only[true_and,and_true,eq_self,implies_true];exact λr=>⟨ho,λhP=>⟨r,hP,rfl,Nat.le_refl _,Nat.le_refl _,λ_ _=>rfl⟩⟩
def a3U:List SV->RRd (Nat×(Nat->Int))
 | [.slcc n len, .ptr o 0]=>.read n λo0=>(match A9 .f64 o0.c with
  | some (m0,g)=>.read o λo1=>(match a8m o1.c with
  | some (k,m)=>.ret ⟨[.slcc 0 len, .ptr 1 0],[(0,⟨false,100, .flts .f64 m0 g,0⟩),(1,⟨false,148,a9E k m,0⟩)],some (m0=2*len/\(Y2 len true m k g)),λr=>ixP (C2 len m k) (nsg true len (wz g)) k len g (ppQ len true g) r,λr=>⟨[],[], .ifc 157 (.ptr 2 0),[],[(2,⟨true,150, .cells (a0Z len true g 3 (ixK len m k) (C2 len m k) 4 r.1),0⟩),(3,⟨true,100, .flts .f64 (2*len) g,2⟩),(4,⟨true,5, .ints .u8 r.1 r.2,1⟩)],none⟩⟩
  | none=>.fail)
  | none=>.fail)
 | _=>.fail
theorem b1i(len:Nat)(m:Int)(k:Int)(g:Nat->Nat){T1}(t1:T1=(l9 len true)){T2}(t2:T2=(l9 len true&&fGt .f64 (cwF g len len) 0)):K8 XLu 2 [] [] (p9 f101) (A6 f101.ntmps [.slcc 0 len, .ptr 1 0] [(0,⟨false,100, .flts .f64 (2*len) g,0⟩),(1,⟨false,148,a9E k m,0⟩)] 2) (A8 XLu.G.E.T f101.results.toList λS v=>∃ r:Nat×(Nat->Int),ixP (C2 len m k) (nsg true len (wz g)) k len g (ppQ len true g) r/\D5 2 ⟨[],[], .ifc 157 (.ptr 2 0),[],[(2,⟨true,150, .cells (a0Z len true g 3 (ixK len m k) (C2 len m k) 4 r.1),0⟩),(3,⟨true,100, .flts .f64 (2*len) g,2⟩),(4,⟨true,5, .ints .u8 r.1 r.2,1⟩)],none⟩ S v)=(
 ∀(i:Nat×(Nat->Int)),(2*len=2*len/\Y2 len true m k g)/\(ixP (C2 len m k) (nsg true len (wz g)) k len g (ppQ len true g) i->∃(pq:Nat×(Nat->Int)),ixP (C2 len m k) (nsg true len (wz g)) k len g (ppQ len true g) pq/\(True/\0
 = 0)/\True/\(150=150/\0=0/\true=true/\T2=T2/\(l9 len true && !(dcF g len len).2)=(l9 len true && !(dcF g len len).2)/\ixK len m k=ixK len m k/\(C2 len m k=C2 len m k/\True/\i.1=pq.1)/\pick T1 (rlo g 0 len)=pick
 T1 (rlo g 0 len)/\pick T1 (rlo g 1 len)=pick T1 (rlo g 1 len)/\pick T1 (rhi g 0 len)=pick T1 (rhi g 0 len)/\pick T1 (rhi g 1 len)=pick T1 (rhi g 1 len)/\(True/\len=len)/\True)/\True/\(100=100/\2=2/\2*len<=2*len/\∀(i :
 Nat),i<2*len->g i=g i)/\True/\(5=5/\1=1/\pq.1<=i.1/\∀(i_1:Nat),i_1<pq.1->i.2 i_1=pq.2 i_1)/\True)):=by subst t1 t2;kernel_rfl
theorem b6N:z0 prog 101 (o9 (Nat×(Nat->Int)) ⟨(0,λ_=>0)⟩ a3U):=by
 refine G7 xLu func101 rfl (by kernel_rfl) λargs=>?_
 unfold a3U;split;rotate_left;trivial;rename_i n len o;intro o0;try dsimp only
 split;rotate_left;trivial;rename_i m0 g hm0;intro o1;try dsimp only
 split;rotate_left;trivial;rename_i k m hm1;intro(ho:m0=2*len/\(Y2 len true m k g));obtain⟨hsz0,ho⟩:=ho;subst hsz0;refine⟨?_,_,_,(b1i len m k g rfl rfl).mpr ?_⟩
 ·refine j8 rfl ⟨λ_=>rfl,?_,⟨trivial,(C6 hm0).1,⟨trivial,a0F hm1,trivial⟩⟩⟩;simp[q9,z5,z8,z3,nth,g9]
 ·simp only[true_and,and_true,eq_self,implies_true];exact λr=>⟨ho,λhP=>⟨r,hP,rfl,Nat.le_refl _,Nat.le_refl _,λ_ _=>rfl⟩⟩
def XPu:F3:=⟨G0,[(101,o9 (Nat×(Nat->Int)) ⟨(0,λ_=>0)⟩ a3U)],[],[],[]⟩
theorem xPu:A7 prog XPu:=⟨g0,q8.cons b6N q8.nil⟩
def a2V:List SV->RRd (Nat×(Nat->Int))
 | [.slcc n len, .nils, .ptr o 0]=>.read n λo0=>(match A9 .f64 o0.c with
  | some (m0,g)=>.read o λo1=>(match a8m o1.c with
  | some (k,m)=>.ret ⟨[.slcc 0 len, .nils, .ptr 1 0],[(0,⟨false,100, .flts .f64 m0 g,0⟩),(1,⟨false,148,a9E k m,0⟩)],some (m0=2*len/\(Y2 len true m k g)),λr=>ixP (C2 len m k) (nsg true len (wz g)) k len g (ppQ len true g) r,λr=>⟨[],[], .ptr 2 0,[],[(2,⟨true,137, .cells [.ifc 157 (.ptr 3 0), .nils],0⟩),(3,⟨true,150, .cells (a0Z len true g 4 (ixK len m k) (C2 len m k) 5 r.1),0⟩),(4,⟨true,100, .flts .f64 (2*len) g,2⟩),(5,⟨true,5, .ints .u8 r.1 r.2,1⟩)],none⟩⟩
  | none=>.fail)
  | none=>.fail)
 | _=>.fail
theorem a9v(len:Nat)(m:Int)(k:Int)(g:Nat->Nat){T1}(t1:T1=(l9 len true)){T2}(t2:T2=(l9 len true&&fGt .f64 (cwF g len len) 0)):K8 XPu 2 [] [] (p9 f91) (A6 f91.ntmps [.slcc 0 len, .nils, .ptr 1 0] [(0,⟨false,100, .flts .f64 (2*len) g,0⟩),(1,⟨false,148,a9E k m,0⟩)] 2) (A8 XPu.G.E.T f91.results.toList λS v=>∃ r:Nat×(Nat->Int),ixP (C2 len m k) (nsg true len (wz g)) k len g (ppQ len true g) r/\D5 2 ⟨[],[], .ptr 2 0,[],[(2,⟨true,137, .cells [.ifc 157 (.ptr 3 0), .nils],0⟩),(3,⟨true,150, .cells (a0Z len true g 4 (ixK len m k) (C2 len m k) 5 r.1),0⟩),(4,⟨true,100, .flts .f64 (2*len) g,2⟩),(5,⟨true,5, .ints .u8 r.1 r.2,1⟩)],none⟩ S v)=(
 ∀(i:Nat×(Nat->Int)),(2*len=2*len/\Y2 len true m k g)/\(ixP (C2 len m k) (nsg true len (wz g)) k len g (ppQ len true g) i->(false=true->((0:Int)=0/\(0:Int)<=0/\(0:Int)<=9223372036854775807/\(0:Int)<=
 140737488355328)/\False)/\(false=false->∃(pq:Nat×(Nat->Int)),ixP (C2 len m k) (nsg true len (wz g)) k len g (ppQ len true g) pq/\(True/\0=0)/\True/\(137=137/\0=0/\(True/\0=0)/\True/\True)/\True/\(150=150/\0=0/\
 true=true/\T2=T2/\(l9 len true && !(dcF g len len).2)=(l9 len true && !(dcF g len len).2)/\ixK len m k=ixK len m k/\(C2 len m k=C2 len m k/\True/\i.1=pq.1)/\pick T1 (rlo g 0 len)=pick T1 (rlo g 0 len)/\pick T1 (rlo g 1
 len)=pick T1 (rlo g 1 len)/\pick T1 (rhi g 0 len)=pick T1 (rhi g 0 len)/\pick T1 (rhi g 1 len)=pick T1 (rhi g 1 len)/\(True/\len=len)/\True)/\True/\(100=100/\2=2/\2*len<=2*len/\∀(i:Nat),i<2*len->g i=g i)/\True/\
 (5=5/\1=1/\pq.1<=i.1/\∀(i_1:Nat),i_1<pq.1->i.2 i_1=pq.2 i_1)/\True))):=by subst t1 t2;kernel_rfl
theorem b4x:z0 prog 91 (o9 (Nat×(Nat->Int)) ⟨(0,λ_=>0)⟩ a2V):=by
 refine G7 xPu func91 rfl (by kernel_rfl) λargs=>?_
 unfold a2V;split;rotate_left;trivial;rename_i n len o;intro o0;try dsimp only
 split;rotate_left;trivial;rename_i m0 g hm0;intro o1;try dsimp only
 split;rotate_left;trivial;rename_i k m hm1;intro(ho:m0=2*len/\(Y2 len true m k g));obtain⟨hsz0,ho⟩:=ho;subst hsz0;refine⟨?_,_,_,(a9v len m k g rfl rfl).mpr ?_⟩
 ·refine j8 rfl ⟨λ_=>rfl,?_,⟨trivial,(C6 hm0).1,⟨trivial,a0F hm1,trivial⟩⟩⟩;simp[q9,z5,z8,z3,nth,g9]
 ·simp only[true_and,and_true,eq_self,true_implies,false_implies,implies_true,Bool.false_eq_true,Int.reduceLE,Int.le_refl];exact λr=>⟨ho,λhP=>⟨r,hP,rfl,Nat.le_refl _,Nat.le_refl _,λ_ _=>rfl⟩⟩
end
def b7A:a9->Option (Bool×Bool×Bool×Int×Bool×Nm×Nat×Nat×Nat×Nat×Nat×Nm×Nat)
 | .cells [a,b,c, .int .u8 k, .opt ib 185 (.slcc d m), .flt .f64 x, .flt .f64 y, .flt .f64 z, .flt .f64 w, .slcc p n]=>match a.toB with
  | some a=>match b.toB with
   | some b=>match c.toB with
    | some c=>some (a,b,c,k,ib,d,m,x,y,z,w,p,n)
    | none=>none
   | none=>none
  | none=>none
 | _=>none
theorem b2P{σ:Sig}{c:a9}{cl cw cv:Bool}{k:Int}{ib:Bool}{d e:Nm}{m:Nat}{x y z w:Nat}{p q:Nm}{n:Nat}(h:b7A c=some (cl,cw,cv,k,ib,d,m,x,y,z,w,p,n))(hd:L1 (σ e) d)(hs:L1 (σ q) p):L6 σ c (a8t cl cw cv k ib e m x y z w q n):=by
 unfold b7A at h;split at h
 ·split at h
  ·rename_i ha;split at h
   ·rename_i hb;split at h
    ·rename_i hc;simp only[oI9,pI9]at h;obtain⟨rfl,rfl,rfl,rfl,rfl,rfl,rfl,rfl,rfl,rfl,rfl,rfl,rfl⟩:=h;show q9 σ _ _;simp[q9,z5,A0,C0,J9 ha,J9 hb,J9 hc,hs,hd]
    ·cases h
   ·cases h
  ·cases h
 ·cases h
noncomputable section
def GSe:Ctx:=⟨⟨tys,[]⟩,[(74,B3 c2M),(64,B3 b5A)]⟩
theorem gSe:B7 prog GSe:=⟨⟨E1,FlatsOk.nil⟩,j9.cons pts (j9.cons c7W j9.nil),by kernel_rfl⟩
def XSe:F3:=⟨GSe,[(91,o9 (Nat×(Nat->Int)) ⟨(0,λ_=>0)⟩ a2V),(73,o9 (Nat×(Nat->Int)) ⟨(0,λ_=>0)⟩ a4w)],[],[],[]⟩
theorem xSe:A7 prog XSe:=⟨gSe,q8.cons b4x (q8.cons b5w q8.nil)⟩
def a6m:List SV->RRd (Nat×(Nat->Int))
 | [.slcc n len, .tt, .int .i64 k, .int .i64 m]=>.read n λo0=>(match y7 .i64 o0.c with
  | some (m0,g)=>.ret ⟨[.slcc 0 len, .tt, .int .i64 k, .int .i64 m],[(0,⟨false,23, .ints .i64 m0 g,0⟩)],some (m0=2*len/\(Y2 len true m (IntKind.u8.wrap k) (fI g))),λr=>ixP (C2 len m (IntKind.u8.wrap k)) (nsg true len (wz (fI g))) (IntKind.u8.wrap k) len (fI g) (ppQ len true (fI g)) r,λr=>⟨[],[], .ifc 157 (.ptr 1 0),[],[(1,⟨true,150, .cells (a0Z len true (fI g) 2 (ixK len m (IntKind.u8.wrap k)) (C2 len m (IntKind.u8.wrap k)) 3 r.1),0⟩),(2,⟨true,100, .flts .f64 (2*len) (fI g),2⟩),(3,⟨true,5, .ints .u8 r.1 r.2,1⟩)],none⟩⟩
  | none=>.fail)
 | _=>.fail
theorem b1K(len:Nat)(k m:Int)(g:Nat->Int){T1}(t1:T1=(IntKind.wrap .u8 k)){T2}(t2:T2=(l9 len true)){T3}(t3:T3=(l9 len true&&fGt .f64 (cwF (fI g) len len) 0)){T4}(t4:T4=(l9 len true && !(dcF (fI g) len len).2)):K8 XSe 1 [] [] (p9 f67) (A6 f67.ntmps [.slcc 0 len, .tt, .int .i64 k, .int .i64 m] [(0,⟨false,23, .ints .i64 (2*len) g,0⟩)] 1) (A8 XSe.G.E.T f67.results.toList λS v=>∃ r:Nat×(Nat->Int),ixP (C2 len m (IntKind.u8.wrap k)) (nsg true len (wz (fI g))) (IntKind.u8.wrap k) len (fI g) (ppQ len true (fI g)) r/\D5 1 ⟨[],[], .ifc 157 (.ptr 1 0),[],[(1,⟨true,150, .cells (a0Z len true (fI g) 2 (ixK len m (IntKind.u8.wrap k)) (C2 len m (IntKind.u8.wrap k)) 3 r.1),0⟩),(2,⟨true,100, .flts .f64 (2*len) (fI g),2⟩),(3,⟨true,5, .ints .u8 r.1 r.2,1⟩)],none⟩ S v)=(
 (2*len=2*len/\len<=1000000)/\True/\∀(i:Nat×(Nat->Int)),(2*len=2*len/\Y2 len true m T1 (fI g))/\(ixP (C2 len m T1) (nsg true len (wz (fI g))) T1 len (fI g) (ppQ len true (fI g)) i->∃(pq:Nat×(Nat->Int)),ixP (C2
 len m T1) (nsg true len (wz (fI g))) T1 len (fI g) (ppQ len true (fI g)) pq/\(True/\0=0)/\True/\(150=150/\0=0/\true=true/\T3=T3/\T4=T4/\ixK len m T1=ixK len m T1/\(C2 len m T1=C2 len m T1/\True/\i.1=pq.1)/\pick T2
 (rlo (fI g) 0 len)=pick T2 (rlo (fI g) 0 len)/\pick T2 (rlo (fI g) 1 len)=pick T2 (rlo (fI g) 1 len)/\pick T2 (rhi (fI g) 0 len)=pick T2 (rhi (fI g) 0 len)/\pick T2 (rhi (fI g) 1 len)=pick T2 (rhi (fI g) 1 len)/\(True/\len=len)/\True)
 /\True/\(100=100/\2=2/\2*len<=2*len/\∀(i:Nat),i<2*len->fI g i=fI g i)/\True/\(5=5/\1=1/\pq.1<=i.1/\∀(i_1:Nat),i_1<pq.1->i.2 i_1=pq.2 i_1)/\True)):=by subst t1 t2 t3 t4;kernel_rfl
theorem b8u:z0 prog 67 (o9 (Nat×(Nat->Int)) ⟨(0,λ_=>0)⟩ a6m):=by
 refine G7 xSe func67 rfl (by kernel_rfl) λargs=>?_
 unfold a6m;split;rotate_left;trivial;rename_i n len k m;intro o0;try dsimp only
 split;rotate_left;trivial;rename_i m0 g hm0;intro(ho:m0=2*len/\(Y2 len true m (IntKind.u8.wrap k) (fI g)));obtain⟨hsz0,ho⟩:=ho;subst hsz0;refine⟨?_,_,_,(b1K len k m g rfl rfl rfl rfl).mpr ?_⟩
 ·refine j8 rfl ⟨λ_=>rfl,?_,⟨trivial,(y6 hm0).1,trivial⟩⟩;simp[q9,z5,A0,z8,z3,nth,g9]
 ·have hl:=ho.1;simp only[true_and,and_true,eq_self,implies_true];exact⟨hl,λr=>⟨ho,λhP=>⟨r,hP,rfl,Nat.le_refl _,Nat.le_refl _,λ_ _=>rfl⟩⟩⟩
def a6o:List SV->RRd (Nat×(Nat->Int))
 | [.slcc n len, .ff, .int .i64 k, .int .i64 m]=>.read n λo0=>(match y7 .i64 o0.c with
  | some (m0,g)=>.ret ⟨[.slcc 0 len, .ff, .int .i64 k, .int .i64 m],[(0,⟨false,23, .ints .i64 m0 g,0⟩)],some (m0=2*len/\(Y2 len false m (IntKind.u8.wrap k) (fI g))),λr=>ixP (C2 len m (IntKind.u8.wrap k)) (nsg false len (wz (fI g))) (IntKind.u8.wrap k) len (fI g) (ppQ len false (fI g)) r,λr=>⟨[],[], .ifc 116 (.ptr 1 0),[],[(1,⟨true,152, .cells (a0Z len false (fI g) 2 (ixK len m (IntKind.u8.wrap k)) (C2 len m (IntKind.u8.wrap k)) 3 r.1),0⟩),(2,⟨true,100, .flts .f64 (2*len) (fI g),2⟩),(3,⟨true,5, .ints .u8 r.1 r.2,1⟩)],none⟩⟩
  | none=>.fail)
 | _=>.fail
theorem b1A(len:Nat)(k m:Int)(g:Nat->Int){T1}(t1:T1=(IntKind.wrap .u8 k)){T2}(t2:T2=(l9 len false)){T3}(t3:T3=(l9 len false&&fGt .f64 (cwF (fI g) len len) 0)){T4}(t4:T4=(l9 len false && !(dcF (fI g) len len).2)):K8 XSe 1 [] [] (p9 f67) (A6 f67.ntmps [.slcc 0 len, .ff, .int .i64 k, .int .i64 m] [(0,⟨false,23, .ints .i64 (2*len) g,0⟩)] 1) (A8 XSe.G.E.T f67.results.toList λS v=>∃ r:Nat×(Nat->Int),ixP (C2 len m (IntKind.u8.wrap k)) (nsg false len (wz (fI g))) (IntKind.u8.wrap k) len (fI g) (ppQ len false (fI g)) r/\D5 1 ⟨[],[], .ifc 116 (.ptr 1 0),[],[(1,⟨true,152, .cells (a0Z len false (fI g) 2 (ixK len m (IntKind.u8.wrap k)) (C2 len m (IntKind.u8.wrap k)) 3 r.1),0⟩),(2,⟨true,100, .flts .f64 (2*len) (fI g),2⟩),(3,⟨true,5, .ints .u8 r.1 r.2,1⟩)],none⟩ S v)=(
 (2*len=2*len/\len<=1000000)/\True/\∀(i:Nat×(Nat->Int)),(2*len=2*len/\Y2 len false m T1 (fI g))/\(ixP (C2 len m T1) (nsg false len (wz (fI g))) T1 len (fI g) (ppQ len false (fI g)) i->∃(pq:Nat×(Nat->Int)),ixP (C2
 len m T1) (nsg false len (wz (fI g))) T1 len (fI g) (ppQ len false (fI g)) pq/\(True/\0=0)/\True/\(152=152/\0=0/\false=false/\T3=T3/\T4=T4/\ixK len m T1=ixK len m T1/\(C2 len m T1=C2 len m T1/\True/\i.1=pq.1)/\pick
 T2 (rlo (fI g) 0 len)=pick T2 (rlo (fI g) 0 len)/\pick T2 (rlo (fI g) 1 len)=pick T2 (rlo (fI g) 1 len)/\pick T2 (rhi (fI g) 0 len)=pick T2 (rhi (fI g) 0 len)/\pick T2 (rhi (fI g) 1 len)=pick T2 (rhi (fI g) 1 len)/\(True/\len=len)/\
 True)/\True/\(100=100/\2=2/\2*len<=2*len/\∀(i:Nat),i<2*len->fI g i=fI g i)/\True/\(5=5/\1=1/\pq.1<=i.1/\∀(i_1:Nat),i_1<pq.1->i.2 i_1=pq.2 i_1)/\True)):=by subst t1 t2 t3 t4;kernel_rfl
theorem b8V:z0 prog 67 (o9 (Nat×(Nat->Int)) ⟨(0,λ_=>0)⟩ a6o):=by
 refine G7 xSe func67 rfl (by kernel_rfl) λargs=>?_
 unfold a6o;split;rotate_left;trivial;rename_i n len k m;intro o0;try dsimp only
 split;rotate_left;trivial;rename_i m0 g hm0;intro(ho:m0=2*len/\(Y2 len false m (IntKind.u8.wrap k) (fI g)));obtain⟨hsz0,ho⟩:=ho;subst hsz0;refine⟨?_,_,_,(b1A len k m g rfl rfl rfl rfl).mpr ?_⟩
 ·refine j8 rfl ⟨λ_=>rfl,?_,⟨trivial,(y6 hm0).1,trivial⟩⟩;simp[q9,z5,A0,z8,z3,nth,g9]
 ·have hl:=ho.1;simp only[true_and,and_true,eq_self,implies_true];exact⟨hl,λr=>⟨ho,λhP=>⟨r,hP,rfl,Nat.le_refl _,Nat.le_refl _,λ_ _=>rfl⟩⟩⟩
end
theorem FI.V_le{x y:Nat}{a b:Int}(hx:FI x a)(hy:FI y b)(hab:a<=b):V x<=V y:=by
 rw[hx.2,hy.2];exact Int.mul_le_mul_of_nonneg_right hab (Int.le_of_lt (Int.pow_pos (by decide)))
theorem b8L(x y:Nat):I2 x y=x∨I2 x y=y:=by unfold I2;split <;> simp
theorem b8B(x y:Nat):H8 x y=x∨H8 x y=y:=by unfold H8;split <;> simp
def PS(g:Nat->Int)(len:Nat):Prop:=len<=40/\∀ j,j<2*len->y9 (g j)
section
variable {g:Nat->Int} {len:Nat} (h:PS g len)
include h
theorem PS.wz{j:Nat}(hj:j<2*len):wz (fI g) j=g j:=(b5F (h.2 j hj)).2
theorem PS.w1{j:Nat}(hj:j<2*len):W1 (fI g j):=(b5F (h.2 j hj)).1
theorem PS.fl2:FL2 (fI g) (2*len):=λ_ hj=>(h.w1 hj).w22
theorem PS.whl:Whl (fI g) g (2*len):=c3a h.2
theorem PS.nsg(cl:Bool):nsg cl len (Go.Proofs.Tryz.Sx.wz (fI g))=j7 len cl g:=by
 unfold Go.Proofs.Tryz.Sx.nsg j7;cases cl
 ·simp only[Bool.false_eq_true,if_false,false_and,or_false];split <;> omega
 ·simp only[if_true,true_and];by_cases h3:len<3
  ·rw[if_pos h3,if_pos (by omega)]
  ·rw[if_neg h3,if_neg (show ¬(len<2∨len<3) by omega),h.wz (by omega),h.wz (by omega),h.wz (by omega),h.wz (by omega),show 2*(len-1)=2*len-2 by omega,show 2*len-2+1=2*len-1 by omega];by_cases e:g (2*len-2)=g 0/\g (2*len-1)=g 1
   ·rw[if_pos e,if_neg (λhh=>hh e)]
   ·rw[if_neg e,if_pos e]
theorem PS.ppOk{cl:Bool}(hb:l9 len cl=true):ppOk (fI g) len:=c2A (by have:=h.1;omega) h.whl (a9H hb)
theorem PS.lo{cl:Bool}(hb:l9 len cl=true){k:Nat}(hk:k<2):FI (rlo (fI g) k len) (mn g k len)/\(mn g k len).natAbs<=4194304:=by
 have:=a9H hb;rw[<-c1q (by omega)];exact b5k h.whl hk len (Nat.le_refl _)
theorem PS.hi{cl:Bool}(hb:l9 len cl=true){k:Nat}(hk:k<2):FI (rhi (fI g) k len) (mx g k len)/\(mx g k len).natAbs<=4194304:=by
 have:=a9H hb;rw[<-c1z (by omega)];exact b7e h.whl hk len (Nat.le_refl _)
theorem PS.seg{cl:Bool}{i:Nat}(hi:i<j7 len cl g):i<len/\I0 g len (4*i)=g (2*i)/\I0 g len (4*i+1)=g (2*i+1)/\I0 g len (4*i+2)=g (2*nx len i)/\I0 g len (4*i+3)=g (2*nx len i+1):=by
 have _:=h
 have hl:i<len:=by
  unfold j7 at hi;split at hi
  ·omega
  ·split at hi <;> omega
 refine⟨hl,?_⟩;unfold nx;by_cases e:i+1=len
 ·rw[if_pos e];exact b3Q (by omega)
 ·rw[if_neg e];exact b3f (by omega)
theorem PS.nsegs_pp{cl:Bool}(hn:0<j7 len cl g):l9 len cl=true:=by
 have _:=h;unfold j7 at hn;split at hn
 ·omega
 ·rename_i hh;unfold l9;exact decide_eq_true ⟨by omega,λhc=>by rcases Nat.lt_or_ge len 3 with h3|h3;exact absurd (.inr ⟨hc,h3⟩) hh;exact h3⟩
theorem PS.item{cl:Bool}{i:Nat}(hi:i<j7 len cl g):a1j (rcF (fI g) len) len (ppQ len cl (fI g)) i:=by
 have hb:l9 len cl=true:=h.nsegs_pp (by omega);have hl:=(h.seg hi).1;have hn:=a5W hl
 have key:∀ j,j<2->(V (rlo (fI g) j len)<=V (I2 (fI g (2*i+j)) (fI g (2*nx len i+j)))/\V (H8 (fI g (2*i+j)) (fI g (2*nx len i+j)))<=V (rhi (fI g) j len)):=λj hj=>by
  have l1:=a1Y (z:=g) (k:=j) hl;have l2:=a1Y (z:=g) (k:=j) hn;have h1:=a2Y (z:=g) (k:=j) hl;have h2:=a2Y (z:=g) (k:=j) hn;have lf:=(b5k h.whl hj len (Nat.le_refl _)).1;have hf:=(b7e h.whl hj len (Nat.le_refl _)).1;have f1:=(h.whl (2*i+j) (by omega)).1;have f2:=(h.whl (2*nx len i+j) (by omega)).1;constructor
  ·rcases b8L (fI g (2*i+j)) (fI g (2*nx len i+j))with e|e <;> rw[e]
   ·exact FI.V_le lf f1 l1
   ·exact FI.V_le lf f2 l2
  ·rcases b8B (fI g (2*i+j)) (fI g (2*nx len i+j))with e|e <;> rw[e]
   ·exact FI.V_le f1 hf h1
   ·exact FI.V_le f2 hf h2
 have w:=b5I h.fl2 hl;refine⟨hl,⟨w.1.1.1,w.2.1.1.1,w.2.2.1.1.1,w.2.2.2.1.1⟩,?_⟩;unfold ppQ pick inQ rcF;simp only[hb,if_true];exact⟨(key 0 (by decide)).1,(key 1 (by decide)).1,(key 0 (by decide)).2,(key 1 (by decide)).2⟩
theorem PS.bix{cl:Bool}{k:Int}(hk:k=1∨k=2):b5V (Go.Proofs.Tryz.Sx.nsg cl len (Go.Proofs.Tryz.Sx.wz (fI g))) k len (fI g) (ppQ len cl (fI g)):=by
 refine⟨hk,by have:=h.1;omega,h.fl2,λ_=>⟨?_,λi hi=>h.item (cl:=cl) (by rw[<-h.nsg];exact hi)⟩⟩;unfold ppQ pick;by_cases hb:l9 len cl=true
 ·simp only[hb,if_true];have l0:=h.lo hb (k:=0) (by decide);have l1:=h.lo hb (k:=1) (by decide);have h0:=h.hi hb (k:=0) (by decide);have h1:=h.hi hb (k:=1) (by decide);exact⟨FI.fub l0.1 l0.2,FI.fub l1.1 l1.2,FI.fub h0.1 h0.2,FI.fub h1.1 h1.2⟩
 ·simp only[if_neg hb];have z:=FI.fub a5m (by decide);exact⟨z,z,z,z⟩
theorem PS.mk{cl:Bool}{m k:Int}(hk:0<=k/\k<=2):Y2 len cl m k (fI g):=by
 refine⟨by have:=h.1;omega,h.ppOk,λhi=>h.bix ?_⟩;unfold C2 at hi
 have:k≠0:=by
  intro e;rw[e]at hi;simp at hi
 omega
end
noncomputable section
theorem W9{k:IntKind}(hu:∀ n:Nat,n<2 ^ k.bits->k.wrap (n:Int)=n){x y i:Nat}(hx:x<2 ^ i)(h:x+y*2 ^ i<2 ^ k.bits):O3 .or k (x:Int) ((y*2 ^ i:Nat):Int)=((x+y*2 ^ i:Nat):Int):=by
 unfold O3;simp only
 have e:(BitVec.ofInt k.bits (x:Int) ||| BitVec.ofInt k.bits ((y*2 ^ i:Nat):Int)).toNat=x+y*2 ^ i:=by
  rw[BitVec.ofInt_natCast,BitVec.ofInt_natCast,BitVec.toNat_or,BitVec.toNat_ofNat,BitVec.toNat_ofNat,Nat.mod_eq_of_lt (by omega),Nat.mod_eq_of_lt (by omega)];have:=Nat.two_pow_add_eq_or_of_lt hx y;rw[Nat.or_comm,Nat.mul_comm y,<-this,Nat.add_comm]
 rw[e,hu _ h]
theorem b9w(n:Nat)(h:n<2 ^ IntKind.u16.bits):IntKind.u16.wrap (n:Int)=n:=by
 show (n:Int) % 65536=n;have h:n<65536:=h;omega
theorem a7g(n:Nat)(h:n<2 ^ IntKind.u32.bits):IntKind.u32.wrap (n:Int)=n:=by
 show (n:Int) % 4294967296=n;have h:n<4294967296:=h;omega
theorem Y4(n:Nat)(h:n<2 ^ IntKind.u64.bits):IntKind.u64.wrap (n:Int)=n:=by
 show (n:Int) % 18446744073709551616=n;have h:n<18446744073709551616:=h;omega
theorem a1T{k:IntKind}(hu:∀ n:Nat,n<2 ^ k.bits->k.wrap (n:Int)=n){y i:Nat}(hi:i<=k.bits)(h:y*2 ^ i<2 ^ k.bits):shl k (y:Int) (i:Int)=((y*2 ^ i:Nat):Int):=by
 unfold shl;rw[tN9,Nat.min_eq_left hi,show ((y:Int)*2 ^ i)=((y*2 ^ i:Nat):Int) by push_cast;rfl,hu _ h]
theorem H5{x:Int}(h:0<=x/\x<256):∃ n:Nat,x=n/\n<256:=⟨x.toNat,by omega,by omega⟩
def b5Q:List SV->RdM
 | [.agg [], .slc n off l c]=>.read n λo0=>(match y7 .u8 o0.c with
  | some (m0,gB)=>.ret ⟨[.agg [], .slc 0 off l c],[(0,⟨false,5, .ints .u8 m0 gB,0⟩)], .int .u16 (leN gB off 2),[],[],some (2<=l/\off+2<=m0/\∀ j,j<2->0<=gB (off+j)/\gB (off+j)<256)⟩
  | none=>.fail)
 | _=>.fail
theorem b9v(off l c:Nat)(m0:Nat)(gB:Nat->Int){w9:HC}(e9:w9=⟨[.agg [], .slc 0 off l c],[(0,⟨false,5, .ints .u8 (m0) gB,0⟩)], .int .u16 (leN gB off 2),[],[],some (2<=l/\off+2<=m0/\∀ j,j<2->0<=gB (off+j)/\gB (off+j)<256)⟩):J3 G0 1 [] [] (p9 f187) (A6 f187.ntmps w9.args w9.heap 1) (A8 G0.E.T f187.results.toList λS v=>D5 1 w9 S v)=(
 (((0:Int)<=1/\1<(↑l:Int))/\1<=m0)/\off+1+1<=m0/\(((0:Int)<=0/\0<(↑l:Int))/\1<=m0)/\off+0+1<=m0/\(((0:Int)<=1/\(1:Int)<(↑l:Int))/\1<=m0)/\off+1+1<=m0/\(0:Int)<=8/\true=true/\O3 BinOp.or
 IntKind.u16 (wrap IntKind.u16 (gB (off+0))) (shl IntKind.u16 (wrap IntKind.u16 (gB (off+1))) (8:Int))=leN gB off 2/\True):=by subst e9;kernel_rfl
theorem c7a:C4 prog 187 (B3 b5Q):=by
 refine A5 g0 func187 rfl (by kernel_rfl) λargs=>?_
 unfold b5Q;split;rotate_left;trivial;rename_i n off l c;intro o0;try dsimp only
 split;rotate_left;trivial;rename_i m0 gB hm0;intro(ho:2<=l/\off+2<=m0/\∀ j,j<2->0<=gB (off+j)/\gB (off+j)<256);refine⟨?_,_,_,(b9v off l c m0 gB rfl).mpr ?_⟩
 ·refine j8 rfl ⟨?_,⟨trivial,(y6 hm0).1,trivial⟩⟩;simp[q9,z5,z8,z3,nth,g9]
 ·obtain⟨hl,hm,hb⟩:=ho;obtain⟨b0,e0,l0⟩:=H5 (hb 0 (by decide));obtain⟨b1,e1,l1⟩:=H5 (hb 1 (by decide))
  have hv:leN gB off 2=((b0+b1*2 ^ 8:Nat):Int):=by
   show gB off+256*(gB (off+1)+256*0)=_;rw[show gB off=gB (off+0)from rfl,e0,e1];omega
  have s1:=a1T b9w (y:=b1) (i:=8) (by decide) (show b1*2 ^ 8<65536 by omega);have o1:=W9 b9w (x:=b0) (y:=b1) (i:=8) (by omega) (show b0+b1*2 ^ 8<65536 by omega);have w0:=b9w b0 (show b0<65536 by omega);have w1:=b9w b1 (show b1<65536 by omega);change shl .u16 (b1:Int) 8=_ at s1;rw[hv,e0,e1,w0,w1,s1,o1]
  and_intros
  all_goals first|omega|trivial
def a7V:List SV->RdM
 | [.agg [], .slc n off l c]=>.read n λo0=>(match y7 .u8 o0.c with
  | some (m0,gB)=>.ret ⟨[.agg [], .slc 0 off l c],[(0,⟨false,5, .ints .u8 m0 gB,0⟩)], .int .u32 (leN gB off 4),[],[],some (4<=l/\off+4<=m0/\∀ j,j<4->0<=gB (off+j)/\gB (off+j)<256)⟩
  | none=>.fail)
 | _=>.fail
theorem b8E(off l c:Nat)(m0:Nat)(gB:Nat->Int){w9:HC}(e9:w9=⟨[.agg [], .slc 0 off l c],[(0,⟨false,5, .ints .u8 (m0) gB,0⟩)], .int .u32 (leN gB off 4),[],[],some (4<=l/\off+4<=m0/\∀ j,j<4->0<=gB (off+j)/\gB (off+j)<256)⟩):J3 G0 1 [] [] (p9 f176) (A6 f176.ntmps w9.args w9.heap 1) (A8 G0.E.T f176.results.toList λS v=>D5 1 w9 S v)=(
 (((0:Int)<=3/\3<(↑l:Int))/\1<=m0)/\off+3+1<=m0/\(((0:Int)<=0/\0<(↑l:Int))/\1<=m0)/\off+0+1<=m0/\(((0:Int)<=1/\(1:Int)<(↑l:Int))/\1<=m0)/\off+1+1<=m0/\(0:Int)<=8/\(((0:Int)<=2/\2<(↑l :
 Int))/\1<=m0)/\off+2+1<=m0/\(0:Int)<=16/\(((0:Int)<=3/\(3:Int)<(↑l:Int))/\1<=m0)/\off+3+1<=m0/\(0:Int)<=24/\true=true/\O3 BinOp.or IntKind.u32 (O3 BinOp.or IntKind.u32 (O3 BinOp.or IntKind.u32
 (wrap IntKind.u32 (gB (off+0))) (shl IntKind.u32 (wrap IntKind.u32 (gB (off+1))) (8:Int))) (shl IntKind.u32 (wrap IntKind.u32 (gB (off+2))) (16:Int))) (shl IntKind.u32 (wrap IntKind.u32 (gB (off+3))) (24 :
 Int))=leN gB off 4/\True):=by subst e9;kernel_rfl
theorem b8F:C4 prog 176 (B3 a7V):=by
 refine A5 g0 func176 rfl (by kernel_rfl) λargs=>?_
 unfold a7V;split;rotate_left;trivial;rename_i n off l c;intro o0;try dsimp only
 split;rotate_left;trivial;rename_i m0 gB hm0;intro(ho:4<=l/\off+4<=m0/\∀ j,j<4->0<=gB (off+j)/\gB (off+j)<256);refine⟨?_,_,_,(b8E off l c m0 gB rfl).mpr ?_⟩
 ·refine j8 rfl ⟨?_,⟨trivial,(y6 hm0).1,trivial⟩⟩;simp[q9,z5,z8,z3,nth,g9]
 ·obtain⟨hl,hm,hb⟩:=ho;obtain⟨b0,e0,l0⟩:=H5 (hb 0 (by decide));obtain⟨b1,e1,l1⟩:=H5 (hb 1 (by decide));obtain⟨b2,e2,l2⟩:=H5 (hb 2 (by decide));obtain⟨b3,e3,l3⟩:=H5 (hb 3 (by decide))
  have hv:leN gB off 4=((b0+b1*2 ^ 8+b2*2 ^ 16+b3*2 ^ 24:Nat):Int):=by
   show gB off+256*(gB (off+1)+256*(gB (off+1+1)+256*(gB (off+1+1+1)+256*0)))=_;rw[show gB off=gB (off+0)from rfl,show off+1+1=off+2 from rfl,show off+2+1=off+3 from rfl,e0,e1,e2,e3];omega
  have s1:=a1T a7g (y:=b1) (i:=8) (by decide) (show b1*2 ^ 8<4294967296 by omega);have s2:=a1T a7g (y:=b2) (i:=16) (by decide) (show b2*2 ^ 16<4294967296 by omega);have s3:=a1T a7g (y:=b3) (i:=24) (by decide) (show b3*2 ^ 24<4294967296 by omega);have o1:=W9 a7g (x:=b0) (y:=b1) (i:=8) (by omega) (show b0+b1*2 ^ 8<4294967296 by omega);have o2:=W9 a7g (x:=b0+b1*2 ^ 8) (y:=b2) (i:=16) (by omega) (show b0+b1*2 ^ 8+b2*2 ^ 16<4294967296 by omega);have o3:=W9 a7g (x:=b0+b1*2 ^ 8+b2*2 ^ 16) (y:=b3) (i:=24) (by omega) (show b0+b1*2 ^ 8+b2*2 ^ 16+b3*2 ^ 24<4294967296 by omega)
  have w0:=a7g b0 (show b0<4294967296 by omega);have w1:=a7g b1 (show b1<4294967296 by omega);have w2:=a7g b2 (show b2<4294967296 by omega);have w3:=a7g b3 (show b3<4294967296 by omega);change shl .u32 (b1:Int) 8=_ at s1;change shl .u32 (b2:Int) 16=_ at s2;change shl .u32 (b3:Int) 24=_ at s3;rw[hv,e0,e1,e2,e3,w0,w1,w2,w3,s1,s2,s3,o1,o2,o3]
  and_intros
  all_goals first|omega|trivial
def b7I:List SV->RdM
 | [.agg [], .slc n off l c]=>.read n λo0=>(match y7 .u8 o0.c with
  | some (m0,gB)=>.ret ⟨[.agg [], .slc 0 off l c],[(0,⟨false,5, .ints .u8 m0 gB,0⟩)], .int .u64 (leN gB off 8),[],[],some (8<=l/\off+8<=m0/\∀ j,j<8->0<=gB (off+j)/\gB (off+j)<256)⟩
  | none=>.fail)
 | _=>.fail
theorem b9t(off l c:Nat)(m0:Nat)(gB:Nat->Int){w9:HC}(e9:w9=⟨[.agg [], .slc 0 off l c],[(0,⟨false,5, .ints .u8 (m0) gB,0⟩)], .int .u64 (leN gB off 8),[],[],some (8<=l/\off+8<=m0/\∀ j,j<8->0<=gB (off+j)/\gB (off+j)<256)⟩){T1}(t1:T1=(↑l:Int)):J3 G0 1 [] [] (p9 f186) (A6 f186.ntmps w9.args w9.heap 1) (A8 G0.E.T f186.results.toList λS v=>D5 1 w9 S v)=(
 (((0:Int)<=7/\7<T1)/\1<=m0)/\off+7+1<=m0/\(((0:Int)<=0/\0<T1)/\1<=m0)/\off+0+1<=m0/\(((0:Int)<=1/\(1:Int)<T1)/\1<=m0)/\off+1+1<=m0/\(0:Int)<=8/\(((0:Int)<=2/\2<T1)/\1<=m0)/\off+2+1<=m0
 /\(0:Int)<=16/\(((0:Int)<=3/\(3:Int)<T1)/\1<=m0)/\off+3+1<=m0/\(0:Int)<=24/\(((0:Int)<=4/\4<T1)/\1<=m0)/\off+4+1<=m0/\(0:Int)<=32/\(((0:Int)<=(5:Int)/\5<T1)/\1<=m0)/\off+5+1<=m0/\(0:Int)
 <=40/\(((0:Int)<=6/\6<T1)/\1<=m0)/\off+6+1<=m0/\(0:Int)<=48/\(((0:Int)<=(7:Int)/\7<T1)/\1<=m0)/\off+7+1<=m0/\(0:Int)<=56/\true=true/\O3 BinOp.or IntKind.u64 (O3 BinOp.or IntKind.u64 (O3 BinOp.or
 IntKind.u64 (O3 BinOp.or IntKind.u64 (O3 BinOp.or IntKind.u64 (O3 BinOp.or IntKind.u64 (O3 BinOp.or IntKind.u64 (wrap IntKind.u64 (gB (off+0))) (shl IntKind.u64 (wrap IntKind.u64 (gB (off+1))) (8:Int))) (shl
 IntKind.u64 (wrap IntKind.u64 (gB (off+2))) (16:Int))) (shl IntKind.u64 (wrap IntKind.u64 (gB (off+3))) (24:Int))) (shl IntKind.u64 (wrap IntKind.u64 (gB (off+4))) (32:Int))) (shl IntKind.u64 (wrap
 IntKind.u64 (gB (off+5))) (40:Int))) (shl IntKind.u64 (wrap IntKind.u64 (gB (off+6))) (48:Int))) (shl IntKind.u64 (wrap IntKind.u64 (gB (off+7))) (56:Int))=leN gB off 8/\True):=by subst e9 t1;kernel_rfl
theorem c8n:C4 prog 186 (B3 b7I):=by
 refine A5 g0 func186 rfl (by kernel_rfl) λargs=>?_
 unfold b7I;split;rotate_left;trivial;rename_i n off l c;intro o0;try dsimp only
 split;rotate_left;trivial;rename_i m0 gB hm0;intro(ho:8<=l/\off+8<=m0/\∀ j,j<8->0<=gB (off+j)/\gB (off+j)<256);refine⟨?_,_,_,(b9t off l c m0 gB rfl rfl).mpr ?_⟩
 ·refine j8 rfl ⟨?_,⟨trivial,(y6 hm0).1,trivial⟩⟩;simp[q9,z5,z8,z3,nth,g9]
 ·obtain⟨hl,hm,hb⟩:=ho;obtain⟨b0,e0,l0⟩:=H5 (hb 0 (by decide));obtain⟨b1,e1,l1⟩:=H5 (hb 1 (by decide));obtain⟨b2,e2,l2⟩:=H5 (hb 2 (by decide));obtain⟨b3,e3,l3⟩:=H5 (hb 3 (by decide));obtain⟨b4,e4,l4⟩:=H5 (hb 4 (by decide));obtain⟨b5,e5,l5⟩:=H5 (hb 5 (by decide));obtain⟨b6,e6,l6⟩:=H5 (hb 6 (by decide));obtain⟨b7,e7,l7⟩:=H5 (hb 7 (by decide))
  have hv:leN gB off 8=((b0+b1*2 ^ 8+b2*2 ^ 16+b3*2 ^ 24+b4*2 ^ 32+b5*2 ^ 40+b6*2 ^ 48+b7*2 ^ 56:Nat):Int):=by
   show gB off+256*(gB (off+1)+256*(gB (off+2)+256*(gB (off+3)+256*(gB (off+4)+256*(gB (off+5)+256*(gB (off+6)+256*(gB (off+7)+256*0)))))))=_;rw[show gB off=gB (off+0)from rfl,e0,e1,e2,e3,e4,e5,e6,e7];omega
  have s1:=a1T Y4 (y:=b1) (i:=8) (by decide) (show b1*2 ^ 8<18446744073709551616 by omega);have o1:=W9 Y4 (x:=b0) (y:=b1) (i:=8) (by omega) (show b0+b1*2 ^ 8<18446744073709551616 by omega);change shl .u64 (b1:Int) 8=_ at s1;have s2:=a1T Y4 (y:=b2) (i:=16) (by decide) (show b2*2 ^ 16<18446744073709551616 by omega);have o2:=W9 Y4 (x:=b0+b1*2 ^ 8) (y:=b2) (i:=16) (by omega) (show b0+b1*2 ^ 8+b2*2 ^ 16<18446744073709551616 by omega);change shl .u64 (b2:Int) 16=_ at s2;have s3:=a1T Y4 (y:=b3) (i:=24) (by decide) (show b3*2 ^ 24<18446744073709551616 by omega)
  have o3:=W9 Y4 (x:=b0+b1*2 ^ 8+b2*2 ^ 16) (y:=b3) (i:=24) (by omega) (show b0+b1*2 ^ 8+b2*2 ^ 16+b3*2 ^ 24<18446744073709551616 by omega);change shl .u64 (b3:Int) 24=_ at s3;have s4:=a1T Y4 (y:=b4) (i:=32) (by decide) (show b4*2 ^ 32<18446744073709551616 by omega);have o4:=W9 Y4 (x:=b0+b1*2 ^ 8+b2*2 ^ 16+b3*2 ^ 24) (y:=b4) (i:=32) (by omega) (show b0+b1*2 ^ 8+b2*2 ^ 16+b3*2 ^ 24+b4*2 ^ 32<18446744073709551616 by omega);change shl .u64 (b4:Int) 32=_ at s4;have s5:=a1T Y4 (y:=b5) (i:=40) (by decide) (show b5*2 ^ 40<18446744073709551616 by omega)
  have o5:=W9 Y4 (x:=b0+b1*2 ^ 8+b2*2 ^ 16+b3*2 ^ 24+b4*2 ^ 32) (y:=b5) (i:=40) (by omega) (show b0+b1*2 ^ 8+b2*2 ^ 16+b3*2 ^ 24+b4*2 ^ 32+b5*2 ^ 40<18446744073709551616 by omega);change shl .u64 (b5:Int) 40=_ at s5;have s6:=a1T Y4 (y:=b6) (i:=48) (by decide) (show b6*2 ^ 48<18446744073709551616 by omega);have o6:=W9 Y4 (x:=b0+b1*2 ^ 8+b2*2 ^ 16+b3*2 ^ 24+b4*2 ^ 32+b5*2 ^ 40) (y:=b6) (i:=48) (by omega) (show b0+b1*2 ^ 8+b2*2 ^ 16+b3*2 ^ 24+b4*2 ^ 32+b5*2 ^ 40+b6*2 ^ 48<18446744073709551616 by omega);change shl .u64 (b6:Int) 48=_ at s6
  have s7:=a1T Y4 (y:=b7) (i:=56) (by decide) (show b7*2 ^ 56<18446744073709551616 by omega);have o7:=W9 Y4 (x:=b0+b1*2 ^ 8+b2*2 ^ 16+b3*2 ^ 24+b4*2 ^ 32+b5*2 ^ 40+b6*2 ^ 48) (y:=b7) (i:=56) (by omega) (show b0+b1*2 ^ 8+b2*2 ^ 16+b3*2 ^ 24+b4*2 ^ 32+b5*2 ^ 40+b6*2 ^ 48+b7*2 ^ 56<18446744073709551616 by omega);change shl .u64 (b7:Int) 56=_ at s7;have w0:=Y4 b0 (show b0<18446744073709551616 by omega);have w1:=Y4 b1 (show b1<18446744073709551616 by omega);have w2:=Y4 b2 (show b2<18446744073709551616 by omega);have w3:=Y4 b3 (show b3<18446744073709551616 by omega)
  have w4:=Y4 b4 (show b4<18446744073709551616 by omega);have w5:=Y4 b5 (show b5<18446744073709551616 by omega);have w6:=Y4 b6 (show b6<18446744073709551616 by omega);have w7:=Y4 b7 (show b7<18446744073709551616 by omega);rw[hv,e0,e1,e2,e3,e4,e5,e6,e7,w0,w1,w2,w3,w4,w5,w6,w7,s1,s2,s3,s4,s5,s6,s7,o1,o2,o3,o4,o5,o6,o7]
  and_intros
  all_goals first|omega|trivial
end
end Go.Proofs.Tryz.Sx

namespace Go.Sx
open Go.RowKit
theorem b6O{P:Program}{f:Nat}{R:a8L}(h:z0 P f R)(i:R.ι)
  (hi:∀ j args rd nm e p,R.c i args rd nm=some (e,p)->∃ p',R.c j args rd nm=some (e,p')) (hj:∀ j args rd nm e p,R.c j args rd nm=some (e,p)->∃ p',R.c i args rd nm=some (e,p')):C4 P f (a4s R i) where
 calls:=by
  intro W0 Fr U H ρ w nm args e hH hbd hn hc ho;unfold a4s at hc;split at hc
  ·rename_i e' p he;simp only[oI9]at hc;subst hc;refine(h.calls hH hbd hn λj=>?_).mono ?_
   ·obtain⟨p',h1⟩:=hi j _ _ _ _ _ he;exact⟨e',p',h1,ho⟩
   rintro en w' ⟨j,e2,p2,h1,h2,h3⟩;obtain⟨p',h4⟩:=hj j _ _ _ _ _ h1;rw[he]at h4;simp only[oI9,pI9]at h4;obtain⟨rfl,rfl⟩:=h4;exact h3
  ·cases hc
 loc:=by
  intro args rd rd' nm e hc hr;unfold a4s at hc ⊢;split at hc
  ·rename_i e' p he;simp only[oI9]at hc;subst hc;rw[h.loc he hr]
  ·cases hc
def RRd.same{ι:Type}:RRd ι->Prop
 | .fail=>True
 | .ret hc=>∀ i j,hc.out j=hc.out i
 | .read _ k=>∀ o,(k o).same
theorem RRd.same_run{ι:Type}{rd:Nm->Option Ob}:∀ {m:RRd ι} {sg sg':List Nm} {hc:RHC ι},m.same->m.run rd sg=some (sg',hc)->∀ i j,hc.out j=hc.out i
 | .fail,sg,sg',hc,_,h=>by simp[RRd.run]at h
 | .ret hc',sg,sg',hc,hs,h=>by
  simp only[RRd.run,oI9,pI9]at h;obtain⟨_,rfl⟩:=h;exact hs
 | .read n k,sg,sg',hc,hs,h=>by
  simp only[RRd.run]at h;split at h
  ·exact RRd.same_run (hs _) h
  ·cases h
theorem a8c{P:Program}{f:Nat}{ι:Type}{ne:Nonempty ι}{C:List SV->RRd ι}(h:z0 P f (o9 ι ne C))(i:ι)(hs:∀ args,(C args).same):C4 P f (a4s (o9 ι ne C) i):=by
 have key:∀(i j:ι) args rd nm e p,(o9 ι ne C).c i args rd nm=some (e,p)->∃ p',(o9 ι ne C).c j args rd nm=some (e,p'):=by
  intro i j args rd nm e p hc;simp only[o9]at hc ⊢;split at hc
  ·rename_i sg hc0 hrun;split at hc
   ·rename_i hd;simp only[oI9,pI9]at hc;obtain⟨rfl,_⟩:=hc;simp only[RRd.same_run (hs args) hrun i j];exact⟨_,rfl⟩
   ·cases hc
  ·cases hc
 exact b6O h i (λj=>key i j) λj=>key j i
end Go.Sx

namespace Go.Proofs.Tryz.Sx
open Go Go.Sx Go.Proofs Go.Fl Go.Geo
set_option maxRecDepth 100000
noncomputable def GrN:Ctx:=⟨⟨tys,[]⟩,[(187,B3 b5Q),(176,B3 a7V)]⟩
theorem grN:B7 prog GrN:=⟨⟨E1,FlatsOk.nil⟩,j9.cons c7a (j9.cons b8F j9.nil),by kernel_rfl⟩
def b4H(gB:Nat->Int)(off:Nat)(w:Int):Prop:=(w=1∨w=2∨w=4)/\∀ j,j<w.toNat->0<=gB (off+j)/\gB (off+j)<256
theorem a2J{g:Nat->Int}:∀ {w off:Nat},(∀ j,j<w->0<=g (off+j)/\g (off+j)<256)->0<=leN g off w/\leN g off w<256 ^ w
 | 0,_,_=>by simp[leN]
 | w+1,off,h=>by
  have h0:=h 0 (by omega)
  have h1:=a2J (g:=g) (w:=w) (off:=off+1) λj hj=>by
   rw[show off+1+j=off+(j+1) by omega];exact h _ (by omega)
  have e:leN g off (w+1)=g off+256*leN g (off+1) w:=rfl;rw[e,Int.pow_succ];simp only[Nat.add_zero]at h0;omega
noncomputable def b9l:List SV->RdM
 | [.slc n off l c, .int .u8 w]=>.read n λo0=>(match y7 .u8 o0.c with
  | some (m0,gB)=>.ret ⟨[.slc 0 off l c, .int .u8 w],[(0,⟨false,5, .ints .u8 m0 gB,0⟩)], .int .u32 (leN gB off w.toNat),[],[],some (b4H gB off w/\w.toNat<=l/\off+w.toNat<=m0)⟩
  | none=>.fail)
 | _=>.fail
theorem c2Q(off l c:Nat)(w:Int)(m0:Nat)(gB:Nat->Int){w9:HC}(e9:w9=⟨[.slc 0 off l c, .int .u8 w],[(0,⟨false,5, .ints .u8 (m0) gB,0⟩)], .int .u32 (leN gB off w.toNat),[],[],some (b4H gB off w/\w.toNat<=l/\off+w.toNat<=m0)⟩):J3 GrN 1 [] [] (p9 f182) (A6 f182.ntmps w9.args w9.heap 1) (A8 GrN.E.T f182.results.toList λS v=>D5 1 w9 S v)=(
 ((w==(1:Int))=true->(((0:Int)<=0/\0<(↑l:Int))/\1<=m0)/\off+0+1<=m0/\IntKind.wrap IntKind.u32 (gB (off+0))=leN gB off (Int.toNat w)/\True)/\((w==(1:Int))=false->((w==(2:Int))=true->(2<=l/\off+2<=m0/\∀
 (j:Nat),j<2->(0:Int)<=gB (off+j)/\gB (off+j)<(256:Int))/\IntKind.wrap IntKind.u32 (leN gB off 2)=leN gB off (Int.toNat w)/\True)/\((w==(2:Int))=false->(4<=l/\off+4<=m0/\∀(j:Nat),j<4->(0:Int)<=gB (off+j)
 /\gB (off+j)<(256:Int))/\leN gB off 4=leN gB off (Int.toNat w)/\True))):=by subst e9;kernel_rfl
theorem rdN:C4 prog 182 (B3 b9l):=by
 refine A5 grN func182 rfl (by kernel_rfl) λargs=>?_
 unfold b9l;split;rotate_left;trivial;rename_i n off l c w;intro o0;try dsimp only
 split;rotate_left;trivial;rename_i m0 gB hm0;intro(ho:b4H gB off w/\w.toNat<=l/\off+w.toNat<=m0);refine⟨?_,_,_,(c2Q off l c w m0 gB rfl).mpr ?_⟩
 ·refine j8 rfl ⟨?_,⟨trivial,(y6 hm0).1,trivial⟩⟩;simp[q9,z5,A0,z8,z3,nth,g9]
 ·obtain⟨⟨hw,hb⟩,hl,hm⟩:=ho;rcases hw with rfl|rfl|rfl
  ·have h0:=hb 0 (by decide);have h0':0<=gB off/\gB off<256:=h0
   have e:IntKind.u32.wrap (gB off)=leN gB off 1:=by
    show gB off % 4294967296=gB off+256*0;omega
   have hl:1<=l:=hl;have hm:off+1<=m0:=hm;refine⟨λ_=>⟨⟨⟨by decide,by omega⟩,by omega⟩,by omega,e,trivial⟩,λh=>absurd h (by decide)⟩
  ·have hr:=a2J (g:=gB) (w:=2) (off:=off) hb
   have e:IntKind.u32.wrap (leN gB off 2)=leN gB off 2:=by
    show leN gB off 2 % 4294967296=_;have:(256:Int) ^ 2=65536:=by decide
    omega
   refine⟨λh=>absurd h (by decide),λ_=>⟨λ_=>⟨⟨hl,hm,hb⟩,e,trivial⟩,λh=>absurd h (by decide)⟩⟩
  ·refine⟨λh=>absurd h (by decide),λ_=>⟨λh=>absurd h (by decide),λ_=>⟨⟨hl,hm,hb⟩,rfl,trivial⟩⟩⟩
open Int (toNat)
def U4(cl cw cv:Bool)(k:Int)(d:Nm)(m cp:Nat)(x y z w:Nat)(p:Nm)(n:Nat):a9:=.cells [.bool cl, .bool cw, .bool cv, .int .u8 k, .ifc 185 (.slc d 0 m cp), .flt .f64 x, .flt .f64 y, .flt .f64 z, .flt .f64 w, .slcc p n]
def a7L:a9->Option (Bool×Bool×Bool×Int×Nm×Nat×Nat×Nat×Nat×Nat×Nat×Nm×Nat)
 | .cells [a,b,c, .int .u8 k, .ifc 185 (.slc d 0 m cp), .flt .f64 x, .flt .f64 y, .flt .f64 z, .flt .f64 w, .slcc p n]=>match a.toB with
  | some a=>match b.toB with
   | some b=>match c.toB with
    | some c=>some (a,b,c,k,d,m,cp,x,y,z,w,p,n)
    | none=>none
   | none=>none
  | none=>none
 | _=>none
theorem a0x{σ:Sig}{c:a9}{cl cw cv:Bool}{k:Int}{d e:Nm}{m cp:Nat}{x y z w:Nat}{p q:Nm}{n:Nat}(h:a7L c=some (cl,cw,cv,k,d,m,cp,x,y,z,w,p,n))(hd:L1 (σ e) d)(hs:L1 (σ q) p):L6 σ c (U4 cl cw cv k e m cp x y z w q n):=by
 unfold a7L at h;split at h
 ·split at h
  ·rename_i ha;split at h
   ·rename_i hb;split at h
    ·rename_i hc;simp only[oI9,pI9]at h;obtain⟨rfl,rfl,rfl,rfl,rfl,rfl,rfl,rfl,rfl,rfl,rfl,rfl,rfl⟩:=h;show q9 σ _ _;simp[q9,z5,A0,C0,J9 ha,J9 hb,J9 hc,hs,hd]
    ·cases h
   ·cases h
  ·cases h
 ·cases h
noncomputable def a9z:List SV->RdM
 | [.ptr s 0, .int .i64 i]=>.read s λo0=>(match a7L o0.c with
  | some (cl,cw,cv,k,dd,im,cp,x,y,z,w,p,n)=>.read p λo1=>(match A9 .f64 o1.c with
  | some (m1,g)=>.read dd λo2=>(match y7 .u8 o2.c with
  | some (m2,gB)=>.ret ⟨[.ptr 0 0, .int .i64 i],[(0,⟨false,150,U4 cl cw cv k 2 im cp x y z w 1 n,0⟩),(1,⟨false,100, .flts .f64 m1 g,0⟩),(2,⟨false,5, .ints .u8 m2 gB,0⟩)], .agg [.flt .f64 (g (2*i.toNat)), .flt .f64 (g (2*i.toNat+1)), .flt .f64 (g (2*nx n i.toNat)), .flt .f64 (g (2*nx n i.toNat+1))],[],[],some (m1=2*n/\m2=1*im/\0<=i/\i<n/\n<=1000000)⟩
  | none=>.fail)
  | none=>.fail)
  | none=>.fail)
 | _=>.fail
theorem b7V(cl cw cv:Bool)(k:Int)(_:Nm)(im cp:Nat)(x y z w:Nat)(_:Nm)(n:Nat)(i:Int)(g:Nat->Nat)(gB:Nat->Int){w9:HC}(e9:w9=⟨[.ptr 0 0, .int .i64 i],[(0,⟨false,150,U4 cl cw cv k 2 im cp x y z w 1 n,0⟩),(1,⟨false,100, .flts .f64 (2*n) g,0⟩),(2,⟨false,5, .ints .u8 (1*im) gB,0⟩)], .agg [.flt .f64 (g (2*i.toNat)), .flt .f64 (g (2*i.toNat
 + 1)), .flt .f64 (g (2*nx n i.toNat)), .flt .f64 (g (2*nx n i.toNat+1))],[],[],some (2*n=2*n/\1*im=1*im/\0<=i/\i<n/\n<=1000000)⟩){T1}(t1:T1=(IntKind.wrap .i64 (i+(1:Int)))){T2}(t2:T2=(i==IntKind.wrap .i64 ((↑n :
 Int)-1))):J3 GPF 3 [] [] (p9 f112) (A6 f112.ntmps w9.args w9.heap 3) (A8 GPF.E.T f112.results.toList λS v=>D5 3 w9 S v)=(
 (((0:Int)<=i/\i<(↑n:Int))/\1<=2*n)/\0+toNat i*2+2<=2*n/\(T2=true->(((0:Int)<=0/\0<(↑n:Int))/\1<=2*n)/\2<=2*n/\(g (0+toNat i*2)=g (2*toNat i)/\g (0+toNat i*2+1)=g (2 *
 toNat i+1)/\g 0=g (2*nx n (toNat i))/\g 1=g (2*nx n (toNat i)+1)/\True)/\True)/\(T2=false->(((0:Int)<=IntKind.wrap .i64 (i+(1:Int))/\IntKind.wrap .i64 (i+(1:Int))<(↑n:Int))/\1<=2*n)/\0+toNat
 T1*2+2<=2*n/\(g (0+toNat i*2)=g (2*toNat i)/\g (0+toNat i*2+1)=g (2*toNat i+1)/\g (0+toNat T1*2)=g (2*nx n (toNat i))/\g (0+toNat T1*2+1)=g (2*nx n (toNat i)+1)/\
 True)/\True)):=by subst e9 t1 t2;kernel_rfl
theorem c1d:C4 prog 112 (B3 a9z):=by
 refine A5 gPF func112 rfl (by kernel_rfl) λargs=>?_
 unfold a9z;split;rotate_left;trivial;rename_i s i;intro o0;try dsimp only
 split;rotate_left;trivial;rename_i cl cw cv k dd im cp x y z w p n hm0;intro o1;try dsimp only
 split;rotate_left;trivial;rename_i m1 g hm1;intro o2;try dsimp only
 split;rotate_left;trivial;rename_i m2 gB hm2;intro(ho:m1=2*n/\m2=1*im/\0<=i/\i<n/\n<=1000000);obtain⟨hsz1,hsz2,ho⟩:=ho;subst hsz1 hsz2;refine⟨?_,_,_,(b7V cl cw cv k dd im cp x y z w p n i g gB rfl rfl rfl).mpr ?_⟩
 ·refine j8 rfl ⟨?_,⟨trivial,a0x hm0 g9 g9,⟨trivial,(C6 hm1).1,⟨trivial,(y6 hm2).1,trivial⟩⟩⟩⟩;simp[q9,z5,A0,z8,z3,nth,g9]
 ·obtain⟨h0,h1,hn⟩:=ho;have hw:IntKind.i64.wrap ((n:Int)-1)=n-1:=j5 (by omega) (by omega);have hw1:IntKind.i64.wrap (i+1)=i+1:=j5 (by omega) (by omega);have e:0+i.toNat*2=2*i.toNat:=by omega
  rw[hw,hw1,e];refine⟨by omega,by omega,λh=>?_,λh=>?_⟩
  ·have h:i=n-1:=by simpa using h
   have e2:nx n i.toNat=0:=by unfold nx;rw[if_pos (by omega)]
   rw[e2];refine⟨by omega,by omega,?_⟩;simp
  ·have h:¬i=n-1:=by simpa using h
   have e2:nx n i.toNat=i.toNat+1:=by unfold nx;rw[if_neg (by omega)]
   have e3:0+(i+1).toNat*2=2*(i.toNat+1):=by omega
   rw[e2,e3];refine⟨by omega,by omega,?_⟩;simp
theorem b2Z(g:Nat->Nat)(n qa qb qc qd i:Nat):mtF g n qa qb qc qd i=qmt (rcF g n i) qa qb qc qd:=rfl
theorem SmF.fl2{g:Nat->Nat}{m:Nat}(h:SmF g m):FL2 g m:=λj hj=>(h j hj).w22
theorem b0Z{p:Nat->Bool}:∀ {m:Nat},(∀ i,i<m->p i=false)->E9 p m=false
 | 0,_=>rfl
 | m+1,h=>by
  show (E9 p m||p m)=false;rw[b0Z (λi hi=>h i (by omega)),h m (by omega)];rfl
theorem a0r(len:Nat)(b:Bool)(g:Nat->Int):j7 len b g<=len:=by
 unfold j7;split
 ·omega
 ·split <;> omega
end Go.Proofs.Tryz.Sx

namespace Go.Proofs.Tryz.Sx
open Go Go.Sx Go.Proofs Go.Fl Go.Geo
theorem b6W{x y:Nat}{a b:Int}(hx:FI x a)(hy:FI y b):FI (I2 x y) (min a b):=by
 unfold I2;rw[a1b hx hy];by_cases e:b<a
 ·rw[if_pos (decide_eq_true e),Int.min_eq_right (by omega)];exact hy
 ·rw[if_neg (by simpa using e),Int.min_eq_left (by omega)];exact hx
theorem b5W{x y:Nat}{a b:Int}(hx:FI x a)(hy:FI y b):FI (H8 x y) (max a b):=by
 unfold H8;rw[a1b hx hy];by_cases e:b<a
 ·rw[if_pos (decide_eq_true e),Int.max_eq_left (by omega)];exact hx
 ·rw[if_neg (by simpa using e),Int.max_eq_right (by omega)];exact hy
end Go.Proofs.Tryz.Sx
