/- Parts of a proof, in order: what each says stands at its head. No conditions. -/
import Derived.Test.YtfhkmkhcofodmaaGreatM5
import Derived.Test.YtfhkmkhcofodmaaGreatM3
namespace Go.Proofs.Tryz.Sx
open Go Go.Sx Go.Proofs Go.Fl Go.Geo
set_option maxRecDepth 100000
noncomputable def X2:D7:=⟨G0,[(135,l9 (Nat×Nat) ⟨default⟩ a8v),(130,l9 RM ⟨default⟩ a8R)],[(210,0)],[],[(178,0)]⟩
theorem x2:y9 Tryz.prog X2:=⟨g0,q8.cons c1F (q8.cons c3m q8.nil)⟩
noncomputable def a5b:List SV->RRd (RM)
 | [.pb n rb rc, .pb n1 qb qc]=>.read n λo0=>(match G2 o0 with
  | some (ts,q)=>.ret ⟨[.pb 0 rb rc, .pb 0 qb qc],[(0,rwO ts q)],some (n=n1/\(spO q rb rc qb qc)),λi=>spP q rb rc qb qc i,λi=>⟨[],[], .tup [],[(0,rwO ts (i))],[],none⟩⟩
  | none=>.fail)
 | _=>.fail
theorem b5J(R:Option Ob->SV->Prop)(ts:List Nat)(q:RM)(rb rc qb qc:Nat){T1}(t1:T1=λ(j:SpI)=>(j0 (j0 (j0 (j0 (SpI.q j).3 (kb (q.3 rb rc)) (1+Int.toNat (↑(SpI.i j):Int)*5) ((SpI.q j).3 (kb (q.3 rb rc)) (1+Int.toNat (IntKind.wrap .i64 (m8 ((SpI.q j).3 (kb (q.3 rb rc)) 0)-(1:Int)))*5))) (kb (q.3
 rb rc)) (1+Int.toNat (↑(SpI.i j):Int)*5+1) ((SpI.q j).3 (kb (q.3 rb rc)) (1+Int.toNat (IntKind.wrap .i64 (m8 ((SpI.q j).3 (kb (q.3 rb rc)) 0)-(1:Int)))*5+1))) (kb (q.3 rb rc)) (1+Int.toNat (↑(SpI.i j):Int)*5+1+1)
 ((SpI.q j).3 (kb (q.3 rb rc)) (1+Int.toNat (IntKind.wrap .i64 (m8 ((SpI.q j).3 (kb (q.3 rb rc)) 0)-(1:Int)))*5+1+1))) (kb (q.3 rb rc)) (1+Int.toNat (↑(SpI.i j):Int)*5+1+1+1) ((SpI.q j).3 (kb (q.3 rb rc)) (1+Int.toNat
 (IntKind.wrap .i64 (m8 ((SpI.q j).3 (kb (q.3 rb rc)) 0)-(1:Int)))*5+1+1+1)))){T2}(t2:T2=(kb (q.3 rb rc))){T3}(t3:T3=λ(i:SpI)=>(↑(SpI.i i):Int)){T4}(t4:T4=λ(i:SpI)=>(j0 (j0 (j0 (j0 (SpI.q i).3 (SpI.b i) (1+Int.toNat
 (m8 ((SpI.q i).3 (SpI.b i) 0))*5) ((SpI.q i).3 (slB (SpI.v i)) (slC (SpI.v i)+Int.toNat (T3 i)*5))) (SpI.b i) (1+Int.toNat (m8 ((SpI.q i).3 (SpI.b i) 0))*5+1) ((SpI.q i).3 (slB (SpI.v i)) (slC (SpI.v i)+Int.toNat (T3 i)*5+1)))
 (SpI.b i) (1+Int.toNat (m8 ((SpI.q i).3 (SpI.b i) 0))*5+1+1) ((SpI.q i).3 (slB (SpI.v i)) (slC (SpI.v i)+Int.toNat (T3 i)*5+1+1))) (SpI.b i) (1+Int.toNat (m8 ((SpI.q i).3 (SpI.b i) 0))*5+1+1+1) ((SpI.q i).3 (slB (SpI.v
 i)) (slC (SpI.v i)+Int.toNat (T3 i)*5+1+1+1)))){T5}(t5:T5=λ(i:SpI)=>(j0 (j0 (j0 (j0 (SpI.q i).3 T2 (1+Int.toNat (m8 ((SpI.q i).3 T2 0))*5) ((SpI.q i).3 (slB (SpI.v i)) (slC (SpI.v i)+Int.toNat (T3 i)*5))) T2 (1 +
 Int.toNat (m8 ((SpI.q i).3 T2 0))*5+1) ((SpI.q i).3 (slB (SpI.v i)) (slC (SpI.v i)+Int.toNat (T3 i)*5+1))) T2 (1+Int.toNat (m8 ((SpI.q i).3 T2 0))*5+1+1) ((SpI.q i).3 (slB (SpI.v i)) (slC (SpI.v i)+Int.toNat (T3 i)*5+1 +
 1))) T2 (1+Int.toNat (m8 ((SpI.q i).3 T2 0))*5+1+1+1) ((SpI.q i).3 (slB (SpI.v i)) (slC (SpI.v i)+Int.toNat (T3 i)*5+1+1+1)))){T6}(t6:T6=λ(j:SpI)=>(j0 (T1 j) T2 (1+Int.toNat (↑(SpI.i j):Int)*5+1+1+1+1)
 ((SpI.q j).3 T2 (1+Int.toNat (IntKind.wrap .i64 (m8 ((SpI.q j).3 T2 0)-(1:Int)))*5+1+1+1+1)) T2 0)){T7}(t7:T7=λ(i:SpI)=>(j0 (j0 (j0 (j0 (SpI.q i).3 (SpI.b i) (1+Int.toNat (m8 ((SpI.q i).3 (SpI.b i) 0))*5) ((SpI.q
 i).3 T2 (1+Int.toNat (T3 i)*5))) (SpI.b i) (1+Int.toNat (m8 ((SpI.q i).3 (SpI.b i) 0))*5+1) ((SpI.q i).3 T2 (1+Int.toNat (T3 i)*5+1))) (SpI.b i) (1+Int.toNat (m8 ((SpI.q i).3 (SpI.b i) 0))*5+1+1) ((SpI.q i).3 T2 (1 +
 Int.toNat (T3 i)*5+1+1))) (SpI.b i) (1+Int.toNat (m8 ((SpI.q i).3 (SpI.b i) 0))*5+1+1+1) ((SpI.q i).3 T2 (1+Int.toNat (T3 i)*5+1+1+1)))){T8}(t8:T8=λ(i:SpI)=>((SpI.q i).3 (slB (SpI.v i)) (slC (SpI.v i)+Int.toNat (T3
 i)*5+1+1+1+1))){T9}(t9:T9=λ(i:SpI)=>(↑(SpI.a i):Int)){T10}(t10:T10=λ(i:SpI)=>(fop BinOp.sub .f64 (j1 ((SpI.q i).3 T2 (1+Int.toNat (T3 i)*5+1+Int.toNat (T9 i)*1))) (j1 ((SpI.q i).3 rb (rc+1+Int.toNat (T9 i) *
 1))))){T11}(t11:T11=λ(i:SpI)=>(fop BinOp.sub .f64 (j1 ((SpI.q i).3 rb (rc+3+Int.toNat (T9 i)*1))) (j1 ((SpI.q i).3 T2 (1+Int.toNat (T3 i)*5+3+Int.toNat (T9 i)*1))))){T12}(t12:T12=(True/\rb=rb/\rc=rc)){T13}(t13:T13=fun
 (j:SpI)=>(IntKind.wrap .i64 (m8 ((SpI.q j).3 T2 0)-(1:Int)))){T14}(t14:T14=(True/\kb (q.3 rb rc)=kb (q.3 rb rc)/\0=0)){T15}(t15:T15=λ(i:SpI)=>(1+Int.toNat (m8 ((SpI.q i).3 (SpI.b i) 0))*5+1+1+1+1)){T16}(t16:T16=(RM.mk
 (RM.D q) (RM.S q) (RM.F q))){T17}(t17:T17=λ(j:SpI)=>(j0 (T1 j) T2 (1+Int.toNat (↑(SpI.i j):Int)*5+1+1+1+1) ((SpI.q j).3 T2 (1+Int.toNat (T13 j)*5+1+1+1+1)))){T18}(t18:T18=λ(i:SpI) (pq:SpI)=>(T12/\(True/\qb=qb/\
 qc=qc)/\T12/\T14/\(True/\SpI.b i=SpI.b pq/\0=0)/\(True/\SpI.v i=SpI.v pq)/\(↑(slL (SpI.v i)):Int)=(↑(slL (SpI.v pq)):Int)/\IntKind.wrap .i64 ((T3 i)+1)=(↑(SpI.i pq):Int)/\True)){T19}(t19:T19=λ(i:SpI)=>((SpI.q i).3 T2
 (1+Int.toNat (T3 i)*5+1+1+1+1))){T20}(t20:T20=λ(i:SpI)=>((SpI.q i).3 (SpI.b i) 0)){T21}(t21:T21=λ(i:SpI)=>((SpI.q i).3 T2 0)){T22}(t22:T22=(True/\qb=qb/\qc=qc)){T23}(t23:T23=λ(i:SpI)=>((SpI.q i).1 (SpI.b i)/\0<(SpI.q
 i).2 (SpI.b i)/\A1 .i64 (T20 i))){T24}(t24:T24=λ(i:SpI)=>(kb ((RM.mk (RM.D (SpI.q i)) (RM.S (SpI.q i)) (RM.F (SpI.q i))).3 rb rc))){T25}(t25:T25=λ(j:SpI)=>(1+Int.toNat (IntKind.wrap .i64 (m8 (T6 j)-(1:Int)))*5 +
 0)){T26}(t26:T26=λ(i:SpI)=>(RM.mk (RM.D (SpI.q i)) (SpI.q i).2 (SpI.q i).3)){T27}(t27:T27=λ(i:SpI)=>((SpI.q i).1 T2/\0<(SpI.q i).2 T2/\A1 .i64 (T21 i))){T28}(t28:T28=λ(i:SpI) (pq:SpI)=>(0=0/\0=0/\ts=ts/\(SpI.q i).3=(SpI.q
 pq).3/\(SpI.q i).2=(SpI.q pq).2/\RM.D (SpI.q i)=RM.D (SpI.q pq))){T29}(t29:T29=λ(i_2:RM)=>(kb ((RM.mk (RM.D i_2) (RM.S i_2) (RM.F i_2)).3 qb qc))){T30}(t30:T30=λ(i:SpI)=>(slB (SpI.v i))){T31}(t31:T31=λ(i:SpI)=>(1+Int.toNat (m8
 (T21 i))*5+1+1+1+1)){T32}(t32:T32=λ(i:SpI)=>((SpI.q i).1 (SpI.b i)/\1+Int.toNat (m8 (T20 i))*5+5<=(SpI.q i).2 (SpI.b i))){T33}(t33:T33=λ(i:SpI) (pq:SpI)=>(True/\SpI.b i=SpI.b pq/\0=0)){T34}(t34:T34=fun
 (i:SpI)=>((SpI.q i).3 (T30 i) (slC (SpI.v i)+Int.toNat (T3 i)*5+1+1+1))){T35}(t35:T35=λ(i:SpI) (pq:SpI)=>(spM q rb rc qb qc pq/\SpI.i pq=SpI.i i/\(SpI.q pq).3 T2 0=(SpI.q i).3 T2 0)){T36}(t36:T36=λ(pq:SpI)=>(↑(SpI.i pq) :
 Int)){T37}(t37:T37=λ(i:SpI)=>((SpI.q i).3 T2 (1+Int.toNat (T3 i)*5+1+Int.toNat (T9 i)*1))){T38}(t38:T38=λ(i:SpI)=>((SpI.q i).3 T2 (1+Int.toNat (T3 i)*5+3+Int.toNat (T9 i)*1))){T39}(t39:T39=λ(i:SpI)=>(1+Int.toNat (T3 i)
 * 5+1+1+1)){T40}(t40:T40=λ(i:SpI)=>((SpI.q i).1 T2/\1+Int.toNat (T3 i)*5+5<=(SpI.q i).2 T2)){T41}(t41:T41=λ(i:SpI)=>((SpI.q i).3 (T30 i) (slC (SpI.v i)+Int.toNat (T3 i)*5+1+1))){T42}(t42:T42=λ(i_2:RM)=>(RM.mk (RM.D
 i_2) i_2.2 i_2.3)){T43}(t43:T43=(T16.3 rb (rc+0))){T44}(t44:T44=λ(i:SpI)=>(↑(slL (SpI.v i)):Int)){T45}(t45:T45=λ(i:SpI)=>((SpI.q i).3 (T30 i) (slC (SpI.v i)+Int.toNat (T3 i)*5+1))):J7 X2 1 [(7,d1e ts q rb rc qb qc),(21,c9K ts q rb rc qb qc)] [] (j3 Tryz.f129) (q9 Tryz.f129.ntmps [.pb 0 rb rc, .pb 0 qb qc] [(0,rwO ts q)] 1) (r6 X2.G.E.T Tryz.f129.results.toList λS v=>R (Go.Sx.look S.H 0) v)=(
 ∀(i:Nat×Nat),okR (RM.mk (RM.D q) q.2 q.3) rb rc/\(i.1<2->(q.1 rb/\rc+0<T16.2 rb)/\(a1X 207 T43/\a0J (I0 T43))/\∀(i_1:Nat),¬q.1 i_1->((qb=i_1∨q.1 qb)/\qc+0+1<=H4 (RM.D T16) q.2 i_1 86 qb)/\(∃(pq:SpI),b0L q
 rb rc qb qc pq/\(T12/\T22/\(↑(i.1):Int)=(↑(SpI.a pq):Int)/\T12/\(True/\ptB (I0 T43)=kb (q.3 rb rc)/\ptC (I0 T43)=0)/\(True/\i_1=SpI.b pq/\0=0)/\SpI.v pq=Value.slice Option.none 0 0/\0=(T36 pq)/\True)/\True/\(0=0
 /\0=0/\ts=ts/\j0 (G1 (RM.D T16) q.3 i_1 (rz tys 210)) qb (qc+0) (Value.iface 207 (Value.pointer (Option.some (Addr.mk i_1 0 Option.none))))=(SpI.q pq).3/\H4 (RM.D T16) q.2 i_1 86=(SpI.q pq).2/\I2 (RM.D T16) i_1=RM.D (SpI.q
 pq))/\True)/\∀(i:SpI),b0L q rb rc qb qc i->(T27 i)/\(decide ((T3 i)<m8 (T21 i))=true->((0:Int)<=(T3 i)/\(T3 i)<17)/\(0<=(T9 i)/\(T9 i)<2)/\((SpI.q i).1 T2/\1+Int.toNat (T3 i)*5+1+Int.toNat (T9 i)*1<(SpI.q i).2
 T2/\u5 .f64 (T37 i))/\((0:Int)<=(T9 i)/\(T9 i)<2)/\((SpI.q i).1 rb/\rc+1+Int.toNat (T9 i)*1<(SpI.q i).2 rb/\u5 .f64 ((SpI.q i).3 rb (rc+1+Int.toNat (T9 i)*1)))/\fok BinOp.sub .f64 (j1 (T37 i)) (j1 ((SpI.q i).3 rb
 (rc+1+Int.toNat (T9 i)*1)))/\true=true/\(0<=(T9 i)/\(T9 i)<2)/\((SpI.q i).1 rb/\rc+3+Int.toNat (T9 i)*1<(SpI.q i).2 rb/\u5 .f64 ((SpI.q i).3 rb (rc+3+Int.toNat (T9 i)*1)))/\(0<=(T3 i)/\(T3 i)<17)/\(0<=(T9 i)/\
 (T9 i)<2)/\((SpI.q i).1 T2/\1+Int.toNat (T3 i)*5+3+Int.toNat (T9 i)*1<(SpI.q i).2 T2/\u5 .f64 (T38 i))/\fok BinOp.sub .f64 (j1 ((SpI.q i).3 rb (rc+3+Int.toNat (T9 i)*1))) (j1 (T38 i))/\true=true/\(fLt .f64 (T10 i)
 (T11 i)=true->∃(pq:SpI),b0L q rb rc qb qc pq/\Int.toNat (m8 ((SpI.q pq).3 T2 0))-SpI.i pq<Int.toNat (m8 (T21 i))-SpI.i i/\(T12/\T22/\(T9 i)=(↑(SpI.a pq):Int)/\T12/\T14/\(T33 i pq)/\(True/\SpI.v i=SpI.v pq)/\
 IntKind.wrap .i64 ((T3 i)+1)=(T36 pq)/\True)/\True/\(T28 i pq)/\True)/\(fLt .f64 (T10 i) (T11 i)=false->((fGt .f64 (T10 i) (T11 i)=true->(T23 i)/\(0<=(T3 i)/\(T3 i)<(17:Int))/\(T40 i)/\((0:Int)<=m8 (T20 i)/\m8 (T20 i)
 < (17:Int))/\((((((T32 i)/\Value.oneCell' ((SpI.q i).3 T2 (1+Int.toNat (T3 i)*5))=true)/\Value.oneCell' ((SpI.q i).3 T2 (1+Int.toNat (T3 i)*5+1))=true)/\Value.oneCell' ((SpI.q i).3 T2 (1+Int.toNat (T3 i)*5+1+1))=true)/\
 Value.oneCell' ((SpI.q i).3 T2 (T39 i))=true)/\Value.oneCell' (T19 i)=true)/\true=true/\((SpI.q i).1 (SpI.b i)/\0<(SpI.q i).2 (SpI.b i)/\A1 .i64 (j0 (T7 i) (SpI.b i) (T15 i) (T19 i) (SpI.b i) 0))/\((SpI.q i).1 (SpI.b i)/\1<=
 (SpI.q i).2 (SpI.b i))/\∃(pq:SpI),(T35 i pq)/\(T12/\T22/\(T9 i)=(↑(SpI.a pq):Int)/\T12/\T14/\(T33 i pq)/\(True/\SpI.v i=SpI.v pq)/\(T3 i)=(T36 pq)/\True)/\True/\(0=0/\0=0/\ts=ts/\j0 (j0 (T7 i) (SpI.b i) (T15 i)
 (T19 i)) (SpI.b i) 0 (Value.int .i64 (IntKind.wrap .i64 (m8 (j0 (T7 i) (SpI.b i) (T15 i) (T19 i) (SpI.b i) 0)+(1:Int))))=(SpI.q pq).3/\(SpI.q i).2=(SpI.q pq).2/\RM.D (SpI.q i)=RM.D (SpI.q pq))/\True)/\(fGt .f64 (T10 i) (T11 i) =
 false->(0<=(T3 i)/\(T3 i)<17)/\(T40 i)/\∀(i_2:ApI),((((((Value.oneCell' ((SpI.q i).3 T2 (1+Int.toNat (T3 i)*5))=true/\Value.oneCell' ((SpI.q i).3 T2 (1+Int.toNat (T3 i)*5+1))=true)/\Value.oneCell' ((SpI.q i).3 T2 (1 +
 Int.toNat (T3 i)*5+1+1))=true)/\Value.oneCell' ((SpI.q i).3 T2 (T39 i))=true)/\Value.oneCell' (T19 i)=true)/\isSlN (SpI.v i))/\appO (RM.D (SpI.q i)) (SpI.q i).2 5 48 (T30 i) (slC (SpI.v i)) (slL (SpI.v i)) (slK (SpI.v i)) 1)/\(L9
 (RM.D (SpI.q i)) (SpI.q i).2 (SpI.q i).3 5 (T30 i) (slC (SpI.v i)) (slL (SpI.v i)) (slK (SpI.v i)) 1 [(SpI.q i).3 T2 (1+Int.toNat (T3 i)*5),(SpI.q i).3 T2 (1+Int.toNat (T3 i)*5+1),(SpI.q i).3 T2 (1+Int.toNat (T3 i)*5+1+1),(SpI.q
 i).3 T2 (T39 i),(SpI.q i).3 T2 (1+Int.toNat (T3 i)*5+1+1+1+1)] i_2->∃(pq:SpI),(T35 i pq)/\(T12/\T22/\(T9 i)=(↑(SpI.a pq):Int)/\T12/\T14/\(T33 i pq)/\(True/\SpI.v pq=Value.slice (Option.some (Addr.mk i_2.1 i_2.2
 Option.none)) (slL (SpI.v i)+1) i_2.3)/\(T3 i)=(T36 pq)/\True)/\True/\(0=0/\0=0/\ts=ts/\i_2.6=(SpI.q pq).3/\i_2.5=(SpI.q pq).2/\ApI.D i_2=RM.D (SpI.q pq))/\True)))/\∀(j:SpI),spM q rb rc qb qc j/\SpI.i j=SpI.i i/\
 (SpI.q j).3 T2 0=(SpI.q i).3 T2 0->((SpI.q j).1 T2/\0<(SpI.q j).2 T2/\A1 .i64 ((SpI.q j).3 T2 0))/\((0:Int)<=IntKind.wrap .i64 (m8 ((SpI.q j).3 T2 0)-(1:Int))/\IntKind.wrap .i64 (m8 ((SpI.q j).3 T2 0)-(1:Int))<(17:Int))
 /\((SpI.q j).1 T2/\1+Int.toNat (T13 j)*5+5<=(SpI.q j).2 T2)/\(0<=(↑(SpI.i j):Int)/\(↑(SpI.i j):Int)<17)/\(((((((SpI.q j).1 T2/\1+Int.toNat (↑(SpI.i j):Int)*5+5<=(SpI.q j).2 T2)/\Value.oneCell' ((SpI.q j).3 T2 (1 +
 Int.toNat (T13 j)*5))=true)/\Value.oneCell' ((SpI.q j).3 T2 (1+Int.toNat (T13 j)*5+1))=true)/\Value.oneCell' ((SpI.q j).3 T2 (1+Int.toNat (T13 j)*5+1+1))=true)/\Value.oneCell' ((SpI.q j).3 T2 (1+Int.toNat (T13 j)*5+1 +
 1+1))=true)/\Value.oneCell' ((SpI.q j).3 T2 (1+Int.toNat (T13 j)*5+1+1+1+1))=true)/\true=true/\((SpI.q j).1 T2/\0<(SpI.q j).2 T2/\A1 .i64 (T6 j))/\((0:Int)<=IntKind.wrap .i64 (m8 (T6 j)-(1:Int))/\IntKind.wrap
 .i64 (m8 (T6 j)-(1:Int))<(17:Int))/\((SpI.q j).1 T2/\1+Int.toNat (IntKind.wrap .i64 (m8 (T6 j)-(1:Int)))*5+0+1<=(SpI.q j).2 T2)/\true=true/\((SpI.q j).1 T2/\0<(SpI.q j).2 T2/\A1 .i64 (j0 (T17 j) T2 (T25 j)
 Value.nilIface T2 0))/\((SpI.q j).1 T2/\1<=(SpI.q j).2 T2)/\∃(pq:SpI),b0L q rb rc qb qc pq/\Int.toNat (m8 ((SpI.q pq).3 T2 0))-SpI.i pq<Int.toNat (m8 (T21 i))-SpI.i i/\(T12/\T22/\(↑(SpI.a j):Int)=(↑(SpI.a pq):Int)/\T12/\
 T14/\(True/\SpI.b j=SpI.b pq/\0=0)/\(True/\SpI.v j=SpI.v pq)/\IntKind.wrap .i64 (IntKind.wrap .i64 ((↑(SpI.i j):Int)-1)+(1:Int))=(T36 pq)/\True)/\True/\(0=0/\0=0/\ts=ts/\j0 (j0 (T17 j) T2 (T25 j) Value.nilIface)
 T2 0 (Value.int .i64 (IntKind.wrap .i64 (m8 (j0 (T17 j) T2 (T25 j) Value.nilIface T2 0)-(1:Int))))=(SpI.q pq).3/\(SpI.q j).2=(SpI.q pq).2/\RM.D (SpI.q j)=RM.D (SpI.q pq))/\True))/\(decide ((T3 i)<m8 (T21 i))=false->isSlN
 (SpI.v i)/\(∃(pq:SpI),sp2 q rb rc qb qc pq/\(T12/\T22/\T12/\T14/\(T33 i pq)/\(True/\SpI.v i=SpI.v pq)/\(T44 i)=(↑(slL (SpI.v pq)):Int)/\0=(T36 pq)/\True)/\True/\(T28 i pq)/\True)/\∀(i:SpI),sp2 q rb rc qb qc i->(decide
 ((T3 i)<(T44 i))=true->(Go.Sx.isSl (SpI.v i)/\0<=(T3 i)/\(T3 i)<(T44 i))/\((SpI.q i).1 (T30 i)/\slC (SpI.v i)+Int.toNat (T3 i)*5+5<=(SpI.q i).2 (T30 i))/\(T27 i)/\(T23 i)/\true=true/\(decide (m8 (T21 i)<m8 (T20 i)) =
 true->(T27 i)/\((0:Int)<=m8 (T21 i)/\m8 (T21 i)<(17:Int))/\(((((((SpI.q i).1 T2/\1+Int.toNat (m8 (T21 i))*5+5<=(SpI.q i).2 T2)/\Value.oneCell' ((SpI.q i).3 (T30 i) (slC (SpI.v i)+Int.toNat (T3 i)*5))=true)/\
 Value.oneCell' (T45 i)=true)/\Value.oneCell' (T41 i)=true)/\Value.oneCell' (T34 i)=true)/\Value.oneCell' (T8 i)=true)/\true=true/\((SpI.q i).1 T2/\0<(SpI.q i).2 T2/\A1 .i64 (j0 (T5 i) T2 (T31 i) (T8 i) T2 0))/\((SpI.q i).1 T2
 /\1<=(SpI.q i).2 T2)/\∃(pq:SpI),sp2 q rb rc qb qc pq/\slL (SpI.v pq)-SpI.i pq<slL (SpI.v i)-SpI.i i/\(T18 i pq)/\True/\(0=0/\0=0/\ts=ts/\j0 (j0 (T5 i) T2 (T31 i) (T8 i)) T2 0 (Value.int .i64 (IntKind.wrap .i64 (m8 (j0
 (T5 i) T2 (T31 i) (T8 i) T2 0)+(1:Int))))=(SpI.q pq).3/\(SpI.q i).2=(SpI.q pq).2/\RM.D (SpI.q i)=RM.D (SpI.q pq))/\True)/\(decide (m8 (T21 i)<m8 (T20 i))=false->(T23 i)/\((0:Int)<=m8 (T20 i)/\m8 (T20 i)<(17:Int))/\
 ((((((T32 i)/\Value.oneCell' ((SpI.q i).3 (T30 i) (slC (SpI.v i)+Int.toNat (T3 i)*5))=true)/\Value.oneCell' (T45 i)=true)/\Value.oneCell' (T41 i)=true)/\Value.oneCell' (T34 i)=true)/\Value.oneCell' (T8 i)=true)/\true=true/\
 ((SpI.q i).1 (SpI.b i)/\0<(SpI.q i).2 (SpI.b i)/\A1 .i64 (j0 (T4 i) (SpI.b i) (T15 i) (T8 i) (SpI.b i) 0))/\((SpI.q i).1 (SpI.b i)/\1<=(SpI.q i).2 (SpI.b i))/\∃(pq:SpI),sp2 q rb rc qb qc pq/\slL (SpI.v pq)-SpI.i pq<slL (SpI.v i)
 - SpI.i i/\(T18 i pq)/\True/\(0=0/\0=0/\ts=ts/\j0 (j0 (T4 i) (SpI.b i) (T15 i) (T8 i)) (SpI.b i) 0 (Value.int .i64 (IntKind.wrap .i64 (m8 (j0 (T4 i) (SpI.b i) (T15 i) (T8 i) (SpI.b i) 0)+(1:Int))))=(SpI.q pq).3/\(SpI.q i).2
 = (SpI.q pq).2/\RM.D (SpI.q i)=RM.D (SpI.q pq))/\True))/\(decide ((T3 i)<(T44 i))=false->∀(i_2:RM),(hangs (T26 i) rb rc/\w7 (T26 i) (T24 i)≠[])/\(rcP (T26 i) rb rc (T24 i) (List.length (w7 (T26 i) (T24 i))) i_2->∀(i:RM),
 (hangs (T42 i_2) qb qc/\w7 (T42 i_2) (T29 i_2)≠[])/\(rcP (T42 i_2) qb qc (T29 i_2) (List.length (w7 (T42 i_2) (T29 i_2))) i->R (Option.some (Ob.mk true 0 (a9.raw ts (RM.D i) i.2 i.3) 0)) (SV.tup []))))))):=by subst t1 t2 t3 t4 t5 t6 t7 t8 t9 t10 t11 t12 t13 t14 t15 t16 t17 t18 t19 t20 t21 t22 t23 t24 t25 t26 t27 t28 t29 t30 t31 t32 t33 t34 t35 t36 t37 t38 t39 t40 t41 t42 t43 t44 t45;kernel_rfl
theorem b9y:u6 Tryz.prog 129 (l9 (RM) ⟨default⟩ a5b):=by
 refine A7 x2 Tryz.func129 rfl (by kernel_rfl) λargs=>?_
 unfold a5b;split
 ·rename_i n rb rc n1 qb qc;intro o0;try dsimp only
  split
  ·rename_i ts q hm0;intro ho;replace ho:n=n1/\(spO q rb rc qb qc):=ho;obtain⟨heq0,ho⟩:=ho;subst heq0;refine⟨?_,Nat.succ_pos _,ts,λ(i:RM)=>i,λ(i:RM)=>.tup [],λ_=>rfl,?_,_,_,(b5J (G6 1 ts (λ(i:RM)=>spP q rb rc qb qc i) (λ(i:RM)=>i) (λ(i:RM)=>.tup [])) ts q rb rc qb qc rfl rfl rfl rfl rfl rfl rfl rfl rfl rfl rfl rfl rfl rfl rfl rfl rfl rfl rfl rfl rfl rfl rfl rfl rfl rfl rfl rfl rfl rfl rfl rfl rfl rfl rfl rfl rfl rfl rfl rfl rfl rfl rfl rfl rfl).mpr ?_⟩
   ·refine g9 rfl ⟨λ_=>rfl,?_,⟨trivial,z9 hm0,trivial⟩⟩;simp[j9,o8,o9,p7,nth,a8]
   ·intro i _;rfl
   ·obtain⟨hD,hSz,hr,hne,hnd⟩:=ho.1;obtain⟨f1,f2,f3,f4⟩:=hr.facts;have hnd17:=hnd.le;have hS0:=hnd.S;simp only[true_and,and_true,eq_self,Int.toNat_natCast,Nat.mul_one,decide_eq_true_eq,decide_eq_false_iff_not];simp only[Nat.add_zero,f3,f4];rintro⟨a,x⟩;refine⟨ho.2.1,λha=>⟨⟨hD,by omega⟩,⟨f1,f2⟩,λb hb=>?_⟩⟩;simp only[M4 hb,M5 hb];refine⟨⟨.inr ho.qD,?_⟩,⟨⟨a,x,b,0, .slice none 0 0,⟨_,_,_⟩⟩,b7h ho ha hb,(by and_intros <;> first|trivial|rfl|(rw[j5 (by omega) (by omega)];first|rfl|omega))⟩,?_⟩
    ·have:qb≠b:=λe=>hb (e▸ho.qD)
     have:=ho.2.2.2.2.1.2;simp only[A8];rw[if_neg ‹qb≠b›];omega
    ·intro p hsp;have hsp':=hsp;obtain⟨L,R,E,h,hp,hi,hs,hg⟩:=hsp;obtain⟨x1,x2,x3,x4⟩:=h.box ho;have hn:m8 (p.q.F (kb (q.F rb rc)) 0)=(L.length:Nat):=by rw[h.l.n];rfl
     have hm:m8 (p.q.F p.b 0)=(R.length:Nat):=by rw[h.r.n];rfl
     have hLS:=h.l.S;have hRS:=h.r.S;have hL17:=h.l.le;have hR17:=h.r.le;have ha2:=h.a;simp only[hn,hm,Int.toNat_natCast];refine⟨⟨h.l.D,by omega,by rw[h.l.n];rfl⟩,λhlt=>?_,λhge=>?_⟩
     ·have hi2:p.i<L.length:=by omega
      have he:=List.getElem?_eq_getElem hi2;generalize L[p.i]=e at he;have hb:=h.l.B _ _ he;have hvv:=h.l.v _ _ he;rw[Nat.mul_comm]at hb hvv;have a0:=hb.lo ha2;have a1:=hb.hi ha2;have b0:=x3.lo ha2;have b1:=x3.hi ha2;obtain⟨k1,k2,k3⟩:=a0.sub b0;obtain⟨k4,k5,k6⟩:=b1.sub a1;have hi17:(0:Int)<=p.i/\(p.i:Int)<17:=by omega
      have ha3:(0:Int)<=p.a/\(p.a:Int)<2:=by omega
      have one:∀ k,k<5->(p.q.F (kb (q.F rb rc)) (1+p.i*5+k)).oneCell'=true:=λk hk=>by
       match k,hk with
       | 0,_=>rw[Nat.add_zero,hvv];exact h.l.o _ _ he
       | 1,_=>rw[hb.1.1];rfl
       | 2,_=>rw[hb.2.1.1];rfl
       | 3,_=>rw[hb.2.2.1.1];rfl
       | 4,_=>rw[hb.2.2.2.1];rfl
      have o0:=one 0 (by omega);have o1:=one 1 (by omega);have o2:=one 2 (by omega);have o3:=one 3 (by omega);have o4:=one 4 (by omega);simp only[Nat.add_zero]at o0;have hcmp:fLt .f64 (fop .sub .f64 (j1 (p.q.F (kb (q.F rb rc)) (1+p.i*5+1+p.a))) (j1 (p.q.F rb (rc+1+p.a)))) (fop .sub .f64 (j1 (p.q.F rb (rc+3+p.a))) (j1 (p.q.F (kb (q.F rb rc)) (1+p.i*5+3+p.a))))=decide (a0D p.a (bxOf q.F rb rc) e):=G3 k2 k5
      have hcmp2:fGt .f64 (fop .sub .f64 (j1 (p.q.F (kb (q.F rb rc)) (1+p.i*5+1+p.a))) (j1 (p.q.F rb (rc+1+p.a)))) (fop .sub .f64 (j1 (p.q.F rb (rc+3+p.a))) (j1 (p.q.F (kb (q.F rb rc)) (1+p.i*5+3+p.a))))=decide (goP p.a (bxOf q.F rb rc) e):=E6 k2 k5;obtain⟨hr17,he17⟩:=b4z ho hp he;simp only[a0.flt,a1.flt,b0.flt,b1.flt,k1,k4,h.l.D,x1,hi17,ha3,hcmp,hcmp2,h.r.D,and_true,true_and];have hz:∀(F:Nat->Nat->Value)(b x:Nat)(v:Value),j0 F b (1+x) v b 0=F b 0:=λ_ _ _ _=>a8z (by omega)
      simp (disch:=omega) only[a8z,hm,j5];refine⟨by omega,by omega,by omega,by omega,λhc=>⟨⟨p.a,p.x,p.b,p.i+1,p.v,p.q⟩,b8U h hp hs hg he (of_decide_eq_true hc) rfl,?_,(by and_intros <;> first|trivial|rfl|(rw[j5 (by omega) (by omega)];first|rfl|omega))⟩,λhc=>⟨⟨λhc2=>?_,λhc2=>?_⟩,?_⟩⟩
      ·show (m8 (p.q.F (kb (q.F rb rc)) 0)).toNat-(p.i+1)<_;rw[hn];omega
      ·refine⟨⟨by omega,by rw[h.r.n];rfl⟩,by omega,by omega,⟨⟨⟨⟨⟨by omega,o0⟩,o1⟩,o2⟩,o3⟩,o4⟩,⟨by omega,by rw[h.r.n];rfl⟩,by omega,_,⟨b5I ho h hp hs hg he (of_decide_eq_true hc2),rfl,?_⟩,(by and_intros <;> first|trivial|rfl|(rw[j5 (by omega) (by omega)];first|rfl|omega))⟩;show j0 _ _ _ _ _ _=_;rw[b8 (.inl (h.bn ho)),M7 (.inl (h.bn ho))]
      ·refine⟨by omega,λj=>⟨⟨⟨⟨⟨⟨⟨o0,o1⟩,o2⟩,o3⟩,o4⟩,h.e.sl⟩,?_⟩,λhap=>⟨_,⟨b4F ho h hp hs hg he hap,rfl,?_⟩,(by and_intros <;> first|trivial|rfl|(rw[j5 (by omega) (by omega)];first|rfl|omega))⟩⟩⟩
       ·have h1:=h.e.n;have h2:=h.e.le;refine⟨λhk=>?_,λhk=>?_,by omega,by simp only[maxLen];omega⟩
        ·obtain⟨d1,d2,_⟩:=h.e.D (by omega);exact⟨d1,by omega⟩
        ·obtain⟨d1,d2,_⟩:=h.e.D (by omega);exact⟨d1,by omega⟩
       ·exact(a7n hap h.l.D λhr2=>Ne.symm (h.vn ho (by omega)).1).2.2 0
      ·rintro p2 ⟨⟨L2,R2,E2,h2,hp2,hi2',hs2,hg2⟩,hpi,hpn⟩;have hn2:m8 (p2.q.F (kb (q.F rb rc)) 0)=(L2.length:Nat):=by rw[h2.l.n];rfl
       have hLL:L2.length=L.length:=by
        have:m8 (p2.q.F (kb (q.F rb rc)) 0)=m8 (p.q.F (kb (q.F rb rc)) 0):=by rw[hpn]
        rw[hn2,hn]at this;omega
       have hsub:((L2.length:Nat):Int)-1=((L2.length-1:Nat):Int):=by omega
       have hS2:=h2.l.S;have h17:=h2.l.le;have he2:=List.getElem?_eq_getElem (by omega:L2.length-1<L2.length);generalize L2[L2.length-1]'(by omega)=e2 at he2;have hb2:=h2.l.B _ _ he2;have hv2:=h2.l.v _ _ he2;rw[Nat.mul_comm]at hb2 hv2;have q0:(p2.q.F (kb (q.F rb rc)) (1+(L2.length-1)*5)).oneCell'=true:=by rw[hv2];exact h2.l.o _ _ he2
       have q1:(p2.q.F (kb (q.F rb rc)) (1+(L2.length-1)*5+1)).oneCell'=true:=by rw[hb2.1.1];rfl
       have q2:(p2.q.F (kb (q.F rb rc)) (1+(L2.length-1)*5+1+1)).oneCell'=true:=by
        have:=hb2.2.1.1;rw[show 1+(L2.length-1)*5+1+1=1+(L2.length-1)*5+2 from rfl,this];rfl
       have q3:(p2.q.F (kb (q.F rb rc)) (1+(L2.length-1)*5+1+1+1)).oneCell'=true:=by
        have:=hb2.2.2.1.1;rw[show 1+(L2.length-1)*5+1+1+1=1+(L2.length-1)*5+3 from rfl,this];rfl
       have q4:(p2.q.F (kb (q.F rb rc)) (1+(L2.length-1)*5+1+1+1+1)).oneCell'=true:=by
        have:=hb2.2.2.2.1;rw[show 1+(L2.length-1)*5+1+1+1+1=1+(L2.length-1)*5+4 from rfl,this];rfl
       have hw2:IntKind.i64.wrap (IntKind.i64.wrap ((p2.i:Int)-1)+1)=(p2.i:Int):=by
        rw[j5 (n:=(p2.i:Int)-1) (by omega) (by omega),j5 (by omega) (by omega)];omega
       have hw3:IntKind.i64.wrap ((L2.length:Int)-1)=((L2.length-1:Nat):Int):=by
        rw[j5 (by omega) (by omega)];omega
       simp (disch:=omega) only[hn2,hw2,hw3,Int.toNat_natCast,h2.l.D,q0,q1,q2,q3,q4,true_and,and_true];refine⟨⟨by omega,by rw[h2.l.n];rfl⟩,⟨by omega,by omega⟩,by omega,⟨by omega,by omega⟩,by omega,⟨by omega,by rw[h2.l.n];rfl⟩,⟨by omega,by omega⟩,by omega,⟨by omega,by rw[h2.l.n];rfl⟩,by omega,_,b8F ho h2 hp2 hi2' hs2 hg2 .nilIface,?_,(by and_intros <;> first|trivial|rfl|(rw[j5 (by omega) (by omega)];first|rfl|omega))⟩;show (m8 (j0 _ (kb (q.F rb rc)) 0 _ (kb (q.F rb rc)) 0)).toNat-p2.i<_;rw[v9];have hpi:p2.i=p.i:=hpi;show ((L2.length-1:Nat):Int).toNat-p2.i<L.length-p.i
       rw[Int.toNat_natCast];omega
     ·have hi2:p.i=L.length:=by omega
      refine⟨h.e.sl,⟨⟨p.a,p.x,p.b,0,p.v,p.q⟩,b4H ho h hp hi2 hs hg,(by and_intros <;> first|trivial|rfl|(rw[j5 (by omega) (by omega)];first|rfl|omega))⟩,?_⟩;rintro p2 ⟨L2,R2,E2,h2,hp2,⟨hi3,hE3⟩,hL2,hR2⟩;have hn2:m8 (p2.q.F (kb (q.F rb rc)) 0)=(L2.length:Nat):=by rw[h2.l.n];rfl
      have hm2:m8 (p2.q.F p2.b 0)=(R2.length:Nat):=by rw[h2.r.n];rfl
      have hLS2:=h2.l.S;have hRS2:=h2.r.S;have hL172:=h2.l.le;have hR172:=h2.r.le;have hEn:=h2.e.n;refine⟨λhlt=>?_,λhge2=>?_⟩
      ·have hi4:p2.i<E2.length:=by omega
       have he:=List.getElem?_eq_getElem hi4;generalize E2[p2.i]=e at he;have hb:=h2.e.B _ _ he;have hvv:=h2.e.c _ _ he;rw[Nat.mul_comm]at hb hvv;have hpos:=h2.e.pos (E:=E2) (λe=>by rw[e]at hi4;simp at hi4);obtain⟨d1,d2,d3,d4⟩:=h2.e.D hpos;have hle:=h2.e.le
       have hsl:isSl p2.v:=by
        rcases h2.e.sl with e1|e1
        ·exfalso;rw[e1]at hpos;exact absurd hpos (by decide)
        ·exact e1
       have q0:(p2.q.F (slB p2.v) (slC p2.v+p2.i*5)).oneCell'=true:=by rw[hvv];exact h2.e.o _ _ he
       have q1:(p2.q.F (slB p2.v) (slC p2.v+p2.i*5+1)).oneCell'=true:=by rw[hb.1.1];rfl
       have q2:(p2.q.F (slB p2.v) (slC p2.v+p2.i*5+1+1)).oneCell'=true:=by
        have:=hb.2.1.1;rw[show slC p2.v+p2.i*5+1+1=slC p2.v+p2.i*5+2 from rfl,this];rfl
       have q3:(p2.q.F (slB p2.v) (slC p2.v+p2.i*5+1+1+1)).oneCell'=true:=by
        have:=hb.2.2.1.1;rw[show slC p2.v+p2.i*5+1+1+1=slC p2.v+p2.i*5+3 from rfl,this];rfl
       have q4:(p2.q.F (slB p2.v) (slC p2.v+p2.i*5+1+1+1+1)).oneCell'=true:=by
        have:=hb.2.2.2.1;rw[show slC p2.v+p2.i*5+1+1+1+1=slC p2.v+p2.i*5+4 from rfl,this];rfl
       have hlen:=a5S ho hp2;rw[a3T he]at hlen;simp only[List.length_append,List.length_cons]at hlen;have c1:(0:Int)<=(p2.i:Int):=by omega
       have c2:(p2.i:Int)<((slL p2.v:Nat):Int):=by omega
       simp (disch:=omega) only[a8z,hn2,hm2,j5,Int.toNat_natCast,h2.l.D,h2.r.D,d1,q0,q1,q2,q3,q4,hsl,c1,c2,true_and,and_true];refine⟨by omega,⟨by omega,by rw[h2.l.n];rfl⟩,⟨by omega,by rw[h2.r.n];rfl⟩,λhc=>?_,λhc=>?_⟩
       ·refine⟨⟨by omega,by rw[h2.l.n];rfl⟩,⟨by omega,by omega⟩,by omega,⟨by omega,by rw[h2.l.n];rfl⟩,by omega,_,b9c ho h2 hp2 he hE3 (by omega) rfl,?_,(by and_intros <;> first|trivial|rfl|(rw[j5 (by omega) (by omega)];first|rfl|omega))⟩;show slL p2.v-(p2.i+1)<slL p2.v-p2.i;omega
       ·refine⟨⟨by omega,by rw[h2.r.n];rfl⟩,⟨by omega,by omega⟩,by omega,⟨by omega,by rw[h2.r.n];rfl⟩,by omega,_,b5O ho h2 hp2 he hE3 (by omega) rfl,?_,(by and_intros <;> first|trivial|rfl|(rw[j5 (by omega) (by omega)];first|rfl|omega))⟩;show slL p2.v-(p2.i+1)<slL p2.v-p2.i;omega
      ·obtain⟨g1,g2,g3⟩:=c5F ho h2 hp2 (by omega) hL2 hR2;refine λq1=>⟨⟨g1,g2⟩,λhq1=>?_⟩
       obtain⟨g4,g5,g6⟩:=g3 q1 hq1;exact λq2=>⟨⟨g4,g5⟩,λhq2=>⟨q2,g6 q2 hq2,rfl,trivial⟩⟩
  ·trivial
 ·trivial
structure K0 (q:RM) (rb rc ib ic h:Nat) (k:Kid) (it:Int×Bx):Prop where
 D:q.D rb
 S:rc+5<=q.S rb
 ref:q.F rb rc=.iface 207 (.pointer (some ⟨k.b,0,none⟩))
 box:isBox q.F rb rc k.B
 tr:isTr q h k
 nd:k.fp.Nodup
 n:k.n<=16
 n0:k.n=0->h=0/\k.B=it.2
 rfp:rb∉k.fp
 iD:q.D ib
 iS:ic+5<=q.S ib
 iv:q.F ib ic=.iface 3 (.int .i64 it.1)
 ibx:isBox q.F ib ic it.2
 ifp:ib∉k.fp
def b1J(q q':RM)(fp:List Nat):Prop:=(∀ b,q.D b->q'.D b/\q'.S b=q.S b)/\∀ b c,q.D b->b∉fp->q'.F b c=q.F b c
def a5Y(q:RM)(rb rc ib ic h:Nat)(q':RM)(g:Bool):Prop:=∀ k it,K0 q rb rc ib ic h k it->g=decide (¬A6 k.B it.2)/\b1J q q' k.fp/\
 ∃ k':Kid,k'.b=k.b/\k'.n<=17/\1<=k'.n/\isTr q' h k'/\k'.fp.Nodup/\(∀ b∈k'.fp,b∈k.fp∨¬q.D b)/\k'.its.Perm (k.its++[it])/\k'.B=z8 k.B it.2
def b7A(q:RM)(rb rc ib ic h:Nat):Prop:=∃ k it,K0 q rb rc ib ic h k it
def a7R(q:RM)(ib ic nb:Nat)(q':RM):Prop:=J3 q q' (λb _=>b=nb)/\C5 q' nb (w7 q nb++[⟨q.F ib ic,bxOf q.F ib ic⟩])
structure InI where
 j:Nat
 q:RM
 g:Bool
def inC(q:RM)(nb ib ic h:Nat)(p:InI):Prop:=p.j<(w7 q nb).length/\a5Y q nb (1+p.j*5) ib ic h p.q p.g
def inE(q:RM)(rb rc nb ib ic h:Nat)(p:InI):Prop:=p.j<(w7 q nb).length/\∃ q1 g,a5Y q nb (1+p.j*5) ib ic h q1 g/\J3 q1 p.q (rW nb (1+p.j*5))/\
 isBox p.q.F nb (1+p.j*5) (z8 (bxOf q1.F nb (1+p.j*5)) (bxOf q1.F ib ic))/\p.g=(g&&decide (¬A6 (bxOf q.F rb rc) (bxOf q.F ib ic)))
theorem a8I{α β:Type}{f:α->β}:∀ {m m':List β},m.Perm m'->∀ l:List α,m'=l.map f->∃ l':List α,l'.Perm l/\l'.map f=m:=by
 intro m m' h
 induction h with
 | nil=>intro l hl;exact⟨[],by cases l with|nil=>exact List.Perm.refl _|cons a r=>simp at hl,rfl⟩
 | cons x h ih =>
  intro l hl
  cases l with
  | nil=>simp at hl
  | cons a r =>
   simp only[List.map_cons,List.cons.injEq]at hl;obtain⟨l',h1,h2⟩:=ih r hl.2;exact⟨a :: l',h1.cons a,by simp[h2,hl.1]⟩
 | swap x y t =>
  intro l hl
  cases l with
  | nil=>simp at hl
  | cons a r =>
   cases r with
   | nil=>simp at hl
   | cons b r =>
    simp only[List.map_cons,List.cons.injEq]at hl;exact⟨b :: a :: r,List.Perm.swap a b r,by simp[hl.1,hl.2.1,hl.2.2]⟩
 | trans h1 h2 ih1 ih2 =>
  intro l hl;obtain⟨l2,h3,h4⟩:=ih2 l hl;obtain⟨l1,h5,h6⟩:=ih1 l2 h4.symm;exact⟨l1,h5.trans h3,h6⟩
theorem a1E{α β:Type}{f:α->β}{L R:List β}{l:List α}(h:(L++R).Perm (l.map f)):∃(l1 l2:List α),L=l1.map f/\R=l2.map f/\(l1++l2).Perm l:=by
 obtain⟨l',h1,h2⟩:=a8I h l rfl;obtain⟨l1,l2,rfl,h3,h4⟩:=List.map_eq_append_iff.1 h2;exact⟨l1,l2,h3.symm,h4.symm,h1⟩
theorem a8c{P Q Q' S:List Nat}(h:(P++(Q++S)).Nodup)(hq:Q'.Nodup)(hd:∀ b∈Q',b∈Q∨(b∉P/\b∉S)):(P++(Q'++S)).Nodup:=by
 rw[List.nodup_append,List.nodup_append]at h ⊢;obtain⟨h1,⟨h2,h3,h4⟩,h5⟩:=h;refine⟨h1,⟨hq,h3,λa ha b hb e=>?_⟩,λa ha b hb e=>?_⟩
 ·subst e;rcases hd a ha with hd|hd
  ·exact h4 a hd a hb rfl
  ·exact hd.2 hb
 ·subst e;rcases List.mem_append.1 hb with hb|hb
  ·rcases hd a hb with hd|hd
   ·exact h5 a ha a (List.mem_append.2 (.inl hd)) rfl
   ·exact hd.1 ha
  ·exact h5 a ha a (List.mem_append.2 (.inr hb)) rfl
theorem b6u{α:Type}{l:List α}{i:Nat}{x:α}(h:l[i]? = some x):∃ A B,l=A++x :: B/\A.length=i:=by
 obtain⟨h1,rfl⟩:=List.getElem?_eq_some_iff.1 h;refine⟨l.take i,l.drop (i+1),?_,by rw[List.length_take];omega⟩
 conv=>lhs;rw[<-List.take_append_drop i l]
 rw[List.drop_eq_getElem_cons h1]
theorem b3v{B C:Bx}{l:List Bx}(h:F3 B l)(hn:l≠[])(hc:∀ a∈l,A6 C a):A6 C B:=by
 obtain⟨⟨a,h1,h2⟩,⟨b,h3,h4⟩,⟨c,h5,h6⟩,⟨d,h7,h8⟩⟩:=h.2 hn;have ha:=hc a h1;have hb:=hc b h3;have hcc:=hc c h5;have hd:=hc d h7;unfold A6 at *;omega
theorem a0q{A B C:Bx}(h1:A6 A B)(h2:A6 B C):A6 A C:=by unfold A6 at *;omega
theorem a7T{K b c:Bx}{P S:List Bx}(h:F3 K (P++b :: S)):F3 (z8 K c) (P++z8 b c :: S):=by
 obtain⟨h0,h1⟩:=h;have hb:=h0 b (by simp);obtain⟨⟨a1,m1,e1⟩,⟨a2,m2,e2⟩,⟨a3,m3,e3⟩,⟨a4,m4,e4⟩⟩:=h1 (by simp)
 have mem:∀ a,a∈P++b :: S->a=b∨a∈P++z8 b c :: S:=λa ha=>by
  simp only[List.mem_append,List.mem_cons]at ha ⊢;rcases ha with ha|ha|ha
  ·exact .inr (.inl ha)
  ·exact .inl ha
  ·exact .inr (.inr (.inr ha))
 have hj:z8 b c∈P++z8 b c :: S:=by simp
 refine⟨λa ha=>?_,λ_=>⟨?_,?_,?_,?_⟩⟩
 ·simp only[List.mem_append,List.mem_cons]at ha
  have hK:∀ a,A6 K a->A6 (z8 K c) a:=λa h=>by
   unfold A6 at h ⊢;simp only[z8];refine⟨?_,?_,?_,?_⟩ <;> split <;> omega
  rcases ha with ha|ha|ha
  ·exact hK a (h0 a (by simp[ha]))
  ·subst ha;unfold A6 at hb ⊢;simp only[z8];refine⟨?_,?_,?_,?_⟩ <;> split <;> split <;> omega
  ·exact hK a (h0 a (by simp[ha]))
 ·by_cases e:c.x0<K.x0
  ·exact⟨_,hj,by unfold A6 at hb;simp only[z8];rw[if_pos e,if_pos (by omega)]⟩
  ·rcases mem a1 m1 with rfl|hm
   ·exact⟨_,hj,by simp only[z8];rw[if_neg e,if_neg (by omega)];exact e1⟩
   ·exact⟨_,hm,by simp only[z8];rw[if_neg e];exact e1⟩
 ·by_cases e:c.y0<K.y0
  ·exact⟨_,hj,by unfold A6 at hb;simp only[z8];rw[if_pos e,if_pos (by omega)]⟩
  ·rcases mem a2 m2 with rfl|hm
   ·exact⟨_,hj,by simp only[z8];rw[if_neg e,if_neg (by omega)];exact e2⟩
   ·exact⟨_,hm,by simp only[z8];rw[if_neg e];exact e2⟩
 ·by_cases e:K.x1<c.x1
  ·exact⟨_,hj,by unfold A6 at hb;simp only[z8];rw[if_pos e,if_pos (by omega)]⟩
  ·rcases mem a3 m3 with rfl|hm
   ·exact⟨_,hj,by simp only[z8];rw[if_neg e,if_neg (by omega)];exact e3⟩
   ·exact⟨_,hm,by simp only[z8];rw[if_neg e];exact e3⟩
 ·by_cases e:K.y1<c.y1
  ·exact⟨_,hj,by unfold A6 at hb;simp only[z8];rw[if_pos e,if_pos (by omega)]⟩
  ·rcases mem a4 m4 with rfl|hm
   ·exact⟨_,hj,by simp only[z8];rw[if_neg e,if_neg (by omega)];exact e4⟩
   ·exact⟨_,hm,by simp only[z8];rw[if_neg e];exact e4⟩
theorem b5F{K b B1 B2:Bx}{P S L R:List Bx}(h:F3 K (P++b :: S))(hb:F3 b (L++R))(h1:F3 B1 L)(h2:F3 B2 R)(hL:L≠[])(hR:R≠[]):F3 K (P++B1 :: (S++[B2])):=by
 have i1:A6 b B1:=b3v h1 hL λa ha=>hb.1 a (by simp[ha])
 have i2:A6 b B2:=b3v h2 hR λa ha=>hb.1 a (by simp[ha])
 obtain⟨h0,h3⟩:=h;have hKb:=h0 b (by simp);obtain⟨⟨a1,m1,e1⟩,⟨a2,m2,e2⟩,⟨a3,m3,e3⟩,⟨a4,m4,e4⟩⟩:=h3 (by simp);obtain⟨⟨c1,n1,f1⟩,⟨c2,n2,f2⟩,⟨c3,n3,f3⟩,⟨c4,n4,f4⟩⟩:=hb.2 (by simp[hL])
 have mem:∀ a,a∈P++b :: S->a=b∨a∈P++B1 :: (S++[B2]):=λa ha=>by
  simp only[List.mem_append,List.mem_cons]at ha ⊢;rcases ha with ha|ha|ha
  ·exact .inr (.inl ha)
  ·exact .inl ha
  ·exact .inr (.inr (.inr (.inl ha)))
 have k1:B1∈P++B1 :: (S++[B2]):=by simp
 have k2:B2∈P++B1 :: (S++[B2]):=by simp
 have w1:∀ a∈L,A6 B1 a:=h1.1;have w2:∀ a∈R,A6 B2 a:=h2.1;refine⟨λa ha=>?_,λ_=>⟨?_,?_,?_,?_⟩⟩
 ·simp only[List.mem_append,List.mem_cons,List.not_mem_nil,or_false]at ha;rcases ha with ha|ha|ha|ha
  ·exact h0 a (by simp[ha])
  ·subst ha;exact a0q hKb i1
  ·exact h0 a (by simp[ha])
  ·subst ha;exact a0q hKb i2
 ·rcases mem a1 m1 with rfl|hm
  ·rcases List.mem_append.1 n1 with n|n
   ·exact⟨_,k1,by have:=w1 _ n;unfold A6 at this i1;omega⟩
   ·exact⟨_,k2,by have:=w2 _ n;unfold A6 at this i2;omega⟩
  ·exact⟨_,hm,e1⟩
 ·rcases mem a2 m2 with rfl|hm
  ·rcases List.mem_append.1 n2 with n|n
   ·exact⟨_,k1,by have:=w1 _ n;unfold A6 at this i1;omega⟩
   ·exact⟨_,k2,by have:=w2 _ n;unfold A6 at this i2;omega⟩
  ·exact⟨_,hm,e2⟩
 ·rcases mem a3 m3 with rfl|hm
  ·rcases List.mem_append.1 n3 with n|n
   ·exact⟨_,k1,by have:=w1 _ n;unfold A6 at this i1;omega⟩
   ·exact⟨_,k2,by have:=w2 _ n;unfold A6 at this i2;omega⟩
  ·exact⟨_,hm,e3⟩
 ·rcases mem a4 m4 with rfl|hm
  ·rcases List.mem_append.1 n4 with n|n
   ·exact⟨_,k1,by have:=w1 _ n;unfold A6 at this i1;omega⟩
   ·exact⟨_,k2,by have:=w2 _ n;unfold A6 at this i2;omega⟩
  ·exact⟨_,hm,e4⟩
theorem C5.mid{q q':RM}{b:Nat}{A B:List En}{e e':En}(h:C5 q b (A++e :: B))(hD:q'.D b)(hS:q'.S b=q.S b)(ho:e'.v.oneCell'=true)(hv:q'.F b (1+5*A.length)=e'.v)(hB:isBox q'.F b (1+5*A.length) e'.B)
  (hF:∀ c,c<1+5*A.length∨1+5*A.length+5<=c->q'.F b c=q.F b c):C5 q' b (A++e' :: B):=by
 have get:∀ j x,(A++e' :: B)[j]? = some x->(j=A.length/\x=e')∨(j≠A.length/\(A++e :: B)[j]? = some x):=λj x hj=>by
  by_cases hc:j=A.length
  ·subst hc;rw[List.getElem?_append_right (Nat.le_refl _)]at hj;simp at hj;exact .inl ⟨rfl,hj.symm⟩
  ·refine .inr ⟨hc,?_⟩;rcases Nat.lt_or_ge j A.length with c|c
   ·rw[List.getElem?_append_left c]at hj ⊢;exact hj
   ·rw[List.getElem?_append_right c]at hj ⊢;rw[show j-A.length=(j-A.length-1)+1 by omega]at hj ⊢;simpa using hj
 refine⟨hD,hS.trans h.S,?_,?_,λj x hj=>?_,λj x hj=>?_,λj x hj=>?_⟩
 ·rw[hF 0 (by omega),h.n];simp
 ·have:=h.le;simpa using this
 ·rcases get j x hj with⟨rfl,rfl⟩|⟨h1,h2⟩
  ·exact hv
  ·rw[hF _ (by omega)];exact h.v j x h2
 ·rcases get j x hj with⟨rfl,rfl⟩|⟨h1,h2⟩
  ·exact ho
  ·exact h.o j x h2
 ·rcases get j x hj with⟨rfl,rfl⟩|⟨h1,h2⟩
  ·exact hB
  ·exact A4 (λk hk=>hF _ (by omega)) (h.B j x h2)
theorem a3c{α β:Type}(f:α->List β){l l':List α}(h:l.Perm l'):(l.flatMap f).Perm (l'.flatMap f):=List.Perm.flatMap_right f h
theorem isTr.split{q q':RM}{h:Nat}{k:Kid}(ht:isTr q h k)(hnd:k.fp.Nodup){b2:Nat}{L R:List En}{B1 B2:Bx}(hp:(L++R).Perm (w7 q k.b))(hL:L≠[])(hR:R≠[])(hlen:(w7 q k.b).length<=17)(h1:C5 q' k.b L)(h2:C5 q' b2 R)(t1:F3 B1 (L.map (·.B)))(t2:F3 B2 (R.map (·.B)))
  (hfr:∀ b∈k.fp,b≠k.b->q'.D b/\q'.S b=q.S b/\∀ c,q'.F b c=q.F b c) :
  ∃ x1 x2:Kid,x1.b=k.b/\x2.b=b2/\(1<=x1.n/\x1.n<=16)/\(1<=x2.n/\x2.n<=16)/\x1.B=B1/\x2.B=B2/\isTr q' h x1/\isTr q' h x2/\(x1.its++x2.its).Perm k.its/\(x1.fp++x2.fp).Perm (b2 :: k.fp):=by
 have hlL:1<=L.length:=by cases L with|nil=>exact absurd rfl hL|cons a r=>simp
 have hlR:1<=R.length:=by cases R with|nil=>exact absurd rfl hR|cons a r=>simp
 have hlen2:=hp.length_eq;rw[List.length_append]at hlen2
 cases h with
 | zero =>
  obtain⟨a1,a2,a3,a4⟩:=ht;rw[a3.of]at hp;obtain⟨l1,l2,rfl,rfl,hl⟩:=a1E hp;rw[List.length_map]at hlL hlR hlen2;rw[List.length_map]at hlen2;rw[List.map_map]at t1 t2;refine⟨⟨k.b,[k.b],l1,B1,l1.length⟩,⟨b2,[b2],l2,B2,l2.length⟩,rfl,rfl,⟨hlL,?_⟩,⟨hlR,?_⟩,rfl,rfl,⟨rfl,rfl,h1,t1⟩,⟨rfl,rfl,h2,t2⟩,hl,?_⟩
  ·show l1.length<=16;omega
  ·show l2.length<=16;omega
  ·rw[a1];exact List.Perm.swap _ _ _
 | succ h =>
  obtain⟨ks,a1,a2,a3,a4,a5,a6,a7⟩:=ht;rw[a5.of]at hp;obtain⟨l1,l2,rfl,rfl,hl⟩:=a1E hp;rw[List.length_map]at hlL hlR hlen2;rw[List.length_map]at hlen2;rw[List.map_map]at t1 t2
  have hkb:∀ x∈ks,∀ b∈x.fp,b∈k.fp/\b≠k.b:=λx hx b hb=>by
   rw[a3]at hnd ⊢;have hm:b∈ks.flatMap (·.fp):=List.mem_flatMap.2 ⟨x,hx,hb⟩;exact⟨List.mem_cons_of_mem _ hm,λe=>(List.nodup_cons.1 hnd).1 (e▸hm)⟩
  have hkids:∀ x∈ks,isTr q' h x/\1<=x.n/\x.n<=16:=λx hx=>⟨(a7 x hx).1.same λb hb=>hfr b (hkb x hx b hb).1 (hkb x hx b hb).2,(a7 x hx).2⟩
  refine⟨⟨k.b,k.b :: l1.flatMap (·.fp),l1.flatMap (·.its),B1,l1.length⟩,⟨b2,b2 :: l2.flatMap (·.fp),l2.flatMap (·.its),B2,l2.length⟩,rfl,rfl,⟨hlL,?_⟩,⟨hlR,?_⟩,rfl,rfl,
   ⟨l1,rfl,hlL,rfl,rfl,h1,t1,λx hx=>hkids x (hl.mem_iff.1 (by simp[hx]))⟩,⟨l2,rfl,hlR,rfl,rfl,h2,t2,λx hx=>hkids x (hl.mem_iff.1 (by simp[hx]))⟩,?_,?_⟩
  ·show l1.length<=16;omega
  ·show l2.length<=16;omega
  ·rw[a4];show (l1.flatMap (·.its)++l2.flatMap (·.its)).Perm _;rw[<-List.flatMap_append];exact a3c _ hl
  ·rw[a3];show (k.b :: l1.flatMap (·.fp)++(b2 :: l2.flatMap (·.fp))).Perm (b2 :: k.b :: ks.flatMap (·.fp));refine(List.perm_middle (l₁:=k.b :: l1.flatMap (·.fp))).trans (List.Perm.cons _ ?_);show (k.b :: (l1.flatMap (·.fp)++l2.flatMap (·.fp))).Perm _;rw[<-List.flatMap_append];exact List.Perm.cons _ (a3c _ hl)
section
variable {q:RM} {rb rc ib ic h:Nat} {k:Kid} {it:Int×Bx}
theorem K0.kb(ha:K0 q rb rc ib ic h k it):kb (q.F rb rc)=k.b:=by rw[ha.ref];rfl
theorem K0.isRef(ha:K0 q rb rc ib ic h k it):isRef (q.F rb rc):=by rw[ha.ref];rfl
theorem K0.node(ha:K0 q rb rc ib ic h k it):C5 q k.b (w7 q k.b)/\(w7 q k.b).length=k.n/\F3 k.B ((w7 q k.b).map (·.B)):=by
 obtain⟨l,h1,h2,h3⟩:=ha.tr.nd;rw[h1.of];exact⟨h1,h2,h3⟩
theorem K0.rk(ha:K0 q rb rc ib ic h k it):k.b≠rb:=λe=>ha.rfp (e▸ha.tr.fp0)
theorem K0.ik(ha:K0 q rb rc ib ic h k it):k.b≠ib:=λe=>ha.ifp (e▸ha.tr.fp0)
theorem K0.hangs(ha:K0 q rb rc ib ic h k it):hangs q rb rc:=⟨ha.D,ha.S,ha.isRef,by rw[ha.kb];exact ha.rk,by rw[ha.kb];exact ha.node.1⟩
theorem K0.okI(ha:K0 q rb rc ib ic h k it):okR q ib ic:=okR.mk' ha.iD ha.iS ha.ibx
theorem b2n(A:Bx):z8 A A=A:=by
 cases A;simp[z8]
theorem b7V(ha:K0 q rb rc ib ic 0 k it){q':RM}(hp:a7R q ib ic k.b q'):b1J q q' k.fp/\
  ∃ k':Kid,k'.b=k.b/\k'.n<=17/\1<=k'.n/\isTr q' 0 k'/\k'.fp.Nodup/\(∀ b∈k'.fp,b∈k.fp∨¬q.D b)/\k'.its.Perm (k.its++[it])/\k'.B=z8 k.B it.2:=by
 obtain⟨a1,a2,a3,a4⟩:=ha.tr;obtain⟨⟨p1,p2,p3⟩,p4⟩:=hp;rw[a3.of]at p4;have hn:=ha.n;refine⟨⟨λb hb=>⟨by rw[p1];exact hb,by rw[p2]⟩,λb c _ hb=>p3 b c (λe=>hb (by rw[e,a1];simp))⟩,⟨k.b,k.fp,k.its++[it],z8 k.B it.2,k.n+1⟩,rfl,by show k.n+1<=17;omega,by show 1<=k.n+1;omega,⟨a1,by simp[a2],?_,?_⟩,ha.nd,λb hb=>.inl hb,List.Perm.refl _,rfl⟩
 ·have e:(⟨q.F ib ic,bxOf q.F ib ic⟩:En)=b0I it:=by rw[ha.iv,ha.ibx.bxOf];rfl
  rw[e]at p4;show C5 q' k.b ((k.its++[it]).map b0I);rw[List.map_append];exact p4
 ·show F3 (z8 k.B it.2) ((k.its++[it]).map (·.2));rw[List.map_append];by_cases h0:k.its=[]
  ·have:=ha.n0 (by rw[a2,h0];rfl);rw[h0,this.2,b2n];exact a7W _
  ·exact a7D (by simpa using h0) a4
structure a6k (q:RM) (h:Nat) (k:Kid) (A:List Kid) (x:Kid) (B:List Kid):Prop where
 n:k.n=(A++x :: B).length
 fp:k.fp=k.b :: (A++x :: B).flatMap (·.fp)
 its:k.its=(A++x :: B).flatMap (·.its)
 nd:C5 q k.b (A.map B4++B4 x :: B.map B4)
 t:F3 k.B (A.map (·.B)++x.B :: B.map (·.B))
 tr:∀ y∈A++x :: B,isTr q h y/\1<=y.n/\y.n<=16
theorem a6k.xfp{A B:List Kid}{x:Kid}(hk:a6k q h k A x B):∀ b∈x.fp,b∈k.fp:=λb hb=>by
 rw[hk.fp];exact List.mem_cons_of_mem _ (List.mem_flatMap.2 ⟨x,by simp,hb⟩)
theorem a6k.fp3{A B:List Kid}{x:Kid}(hk:a6k q h k A x B):k.fp=(k.b :: A.flatMap (·.fp))++(x.fp++B.flatMap (·.fp)):=by
 rw[hk.fp,List.flatMap_append,List.flatMap_cons];rfl
theorem a3B(ha:K0 q rb rc ib ic (h+1) k it){j:Nat}(hj:j<(w7 q k.b).length):∃ A x B,a6k q h k A x B/\A.length=j/\K0 q k.b (1+j*5) ib ic h x it:=by
 obtain⟨ks,a1,a2,a3,a4,a5,a6,a7⟩:=ha.tr
 have hj2:j<ks.length:=by
  have:=a5.of;rw[this,List.length_map]at hj;exact hj
 obtain⟨x,hxj⟩:∃ x,ks[j]? = some x:=⟨_,List.getElem?_eq_getElem hj2⟩;obtain⟨A,B,rfl,hA⟩:=b6u hxj;have hk:a6k q h k A x B:=⟨a1,a3,a4,by simpa using a5,by simpa using a6,a7⟩;have hx:=a7 x (by simp);have hnd:=ha.nd;rw[hk.fp3,List.nodup_append,List.nodup_append]at hnd;obtain⟨n1,⟨n2,n3,n4⟩,n5⟩:=hnd
 have hget:(A.map B4++B4 x :: B.map B4)[j]? = some (B4 x):=by
  rw[List.getElem?_append_right (by simp[hA]),List.length_map,hA];simp
 have hv:=hk.nd.v _ _ hget;have hb:=hk.nd.B _ _ hget;rw[Nat.mul_comm]at hv hb;have hle:=hk.nd.le;have hS:=hk.nd.S;simp only[List.length_append,List.length_map,List.length_cons]at hle;refine⟨A,x,B,hk,hA,⟨hk.nd.D,by omega,hv,hb,hx.1,n2,hx.2.2,λh0=>by omega,λhm=>?_,ha.iD,ha.iS,ha.iv,ha.ibx,λhm=>ha.ifp (hk.xfp _ hm)⟩⟩;exact n5 k.b (by simp) k.b (List.mem_append.2 (.inl hm)) rfl
structure b9v (q:RM) (rb rc ib ic h:Nat) (k:Kid) (it:Int×Bx) (p:InI) (A:List Kid) (x:Kid) (B:List Kid) (x':Kid):Prop where
 ks:a6k q h k A x B
 j:A.length=p.j
 xa:K0 q k.b (1+p.j*5) ib ic h x it
 eb:x'.b=x.b
 n:1<=x'.n/\x'.n<=17
 tr:isTr p.q h x'
 nd:x'.fp.Nodup
 fp:∀ b∈x'.fp,b∈x.fp∨¬q.D b
 its:x'.its.Perm (x.its++[it])
 bx:x'.B=z8 x.B it.2
 nod:C5 p.q k.b (A.map B4++B4 x' :: B.map B4)
 fr:b1J q p.q (k.b :: x.fp)
 kfp:k.b∉x'.fp
 g:p.g=decide (¬A6 k.B it.2)
theorem a9q(ha:K0 q rb rc ib ic (h+1) k it){p:InI}(hp:inE q rb rc k.b ib ic h p):∃ A x B x',b9v q rb rc ib ic h k it p A x B x':=by
 obtain⟨hj,q1,g,hP,hs,hb,hg⟩:=hp;obtain⟨A,x,B,hk,hA,hx⟩:=a3B ha hj;obtain⟨g1,f1,x',x1,x2,x3,x4,x5,x6,x7,x8⟩:=hP x it hx
 have hkx:k.b∉x'.fp:=λhm=>by
  rcases x6 _ hm with h1|h1
  ·exact hx.rfp h1
  ·exact h1 hk.nd.D
 have hoff:∀ b c,b≠k.b->p.q.F b c=q1.F b c:=λb c hne=>hs.2.2 b c (by unfold rW;omega)
 have hkb:∀ c,q1.F k.b c=q.F k.b c:=λc=>f1.2 _ _ hk.nd.D hx.rfp
 have hle:=hk.nd.le;simp only[List.length_append,List.length_map,List.length_cons]at hle;have e1:bxOf q1.F k.b (1+p.j*5)=x.B:=(isBox.bxOf (A4 (λk _=>hkb _) hx.box));have e2:bxOf q1.F ib ic=it.2:=(isBox.bxOf (A4 (λk _=>f1.2 _ _ hx.iD hx.ifp) hx.ibx));rw[e1,e2]at hb;have hKx:A6 k.B x.B:=hk.t.1 _ (by simp);refine⟨A,x,B,x',hk,hA,hx,x1,⟨x3,x2⟩,?_,x5,x6,x7,x8,?_,?_,hkx,?_⟩
 ·exact x4.same λb hm=>⟨by rw[hs.1];exact x4.D b hm,by rw[hs.2.1],λc=>hoff b c (λe=>hkx (e▸hm))⟩
 ·have hn1:C5 q1 k.b (A.map B4++B4 x :: B.map B4):=hk.nd.same (f1.1 _ hk.nd.D).1 (f1.1 _ hk.nd.D).2 hkb;refine hn1.mid (by rw[hs.1];exact hn1.D) (by rw[hs.2.1]) rfl ?_ ?_ ?_
  ·rw[List.length_map,hA,Nat.mul_comm,hs.2.2 _ _ (by unfold rW;omega),hkb,hx.ref];show _=(B4 x').v;unfold B4;rw[x1]
  ·rw[List.length_map,hA,Nat.mul_comm];show isBox _ _ _ x'.B;rw[x8];exact hb
  ·intro c hc;rw[List.length_map,hA]at hc;exact hs.2.2 _ _ (by unfold rW;omega)
 ·refine⟨λb hb=>⟨by rw[hs.1];exact(f1.1 b hb).1,by rw[hs.2.1];exact(f1.1 b hb).2⟩,λb c hb hm=>?_⟩;rw[hoff b c (λe=>hm (by simp[e]))];exact f1.2 b c hb (λe=>hm (by simp[e]))
 ·rw[hg,g1,ha.box.bxOf,ha.ibx.bxOf];by_cases c:A6 x.B it.2
  ·have:=a0q hKx c;simp[c,this]
  ·simp[c]
theorem c7Q{q':RM}{fp fp':List Nat}(h:b1J q q' fp')(hs:∀ b∈fp',b∈fp):b1J q q' fp:=⟨h.1,λb c hb hm=>h.2 b c hb λe=>hm (hs b e)⟩
theorem b9m(ha:K0 q rb rc ib ic (h+1) k it){p:InI}{A B:List Kid}{x x':Kid}(hm:b9v q rb rc ib ic h k it p A x B x')(hn:x'.n≠17):b1J q p.q k.fp/\
  ∃ k':Kid,k'.b=k.b/\k'.n<=17/\1<=k'.n/\isTr p.q (h+1) k'/\k'.fp.Nodup/\(∀ b∈k'.fp,b∈k.fp∨¬q.D b)/\k'.its.Perm (k.its++[it])/\k'.B=z8 k.B it.2:=by
 have hk:=hm.ks;have hnd:=ha.nd;rw[hk.fp3]at hnd;have hold:∀ b∈(k.b :: A.flatMap (·.fp))++(x.fp++B.flatMap (·.fp)),q.D b:=λb hb=>ha.tr.D b (by rw[hk.fp3];exact hb)
 have hkids:∀ y,y∈A∨y∈B->isTr p.q h y/\1<=y.n/\y.n<=16:=λy hy=>by
  have hmem:y∈A++x :: B:=by rcases hy with hy|hy <;> simp[hy]
  have hy2:=hk.tr y hmem;refine⟨hy2.1.same λb hb=>?_,hy2.2⟩;have hD:=hy2.1.D b hb;refine⟨(hm.fr.1 b hD).1,(hm.fr.1 b hD).2,λc=>hm.fr.2 b c hD ?_⟩;rw[List.nodup_append,List.nodup_append]at hnd;obtain⟨n1,⟨n2,n3,n4⟩,n5⟩:=hnd;simp only[List.mem_cons,not_or];rcases hy with hy|hy
  ·have hbm:b∈A.flatMap (·.fp):=List.mem_flatMap.2 ⟨y,hy,hb⟩;exact⟨λe=>(List.nodup_cons.1 n1).1 (e▸hbm),λe=>n5 b (by simp[hbm]) b (List.mem_append.2 (.inl e)) rfl⟩
  ·have hbm:b∈B.flatMap (·.fp):=List.mem_flatMap.2 ⟨y,hy,hb⟩;exact⟨λe=>n5 k.b (by simp) b (List.mem_append.2 (.inr hbm)) e.symm,λe=>n4 b e b hbm rfl⟩
 have hnew:∀ b∈x'.fp,b∈x.fp∨(b∉k.b :: A.flatMap (·.fp)/\b∉B.flatMap (·.fp)):=λb hb=>by
  rcases hm.fp b hb with h1|h1
  ·exact .inl h1
  ·exact .inr ⟨λe=>h1 (hold b (List.mem_append.2 (.inl e))),λe=>h1 (hold b (List.mem_append.2 (.inr (List.mem_append.2 (.inr e)))))⟩
 have hlen:=hk.n;have hkn:=ha.n;simp only[List.length_append,List.length_cons]at hlen;refine⟨c7Q hm.fr λb hb=>?_,⟨k.b,k.b :: (A++x' :: B).flatMap (·.fp),(A++x' :: B).flatMap (·.its),z8 k.B it.2,(A++x' :: B).length⟩,rfl,?_,?_,⟨A++x' :: B,rfl,?_,rfl,rfl,?_,?_,?_⟩,?_,?_,?_,rfl⟩
 ·rcases List.mem_cons.1 hb with rfl|hb
  ·exact ha.tr.fp0
  ·exact hk.xfp b hb
 ·simp only[List.length_append,List.length_cons];omega
 ·simp only[List.length_append,List.length_cons];omega
 ·show 1<=(A++x' :: B).length;simp only[List.length_append,List.length_cons];omega
 ·show C5 p.q k.b ((A++x' :: B).map B4);rw[List.map_append,List.map_cons];exact hm.nod
 ·show F3 (z8 k.B it.2) ((A++x' :: B).map (·.B));rw[List.map_append,List.map_cons,hm.bx];exact a7T hk.t
 ·intro y hy;simp only[List.mem_append,List.mem_cons]at hy;rcases hy with hy|rfl|hy
  ·exact hkids y (.inl hy)
  ·exact⟨hm.tr,hm.n.1,by have:=hm.n.2;omega⟩
  ·exact hkids y (.inr hy)
 ·show (k.b :: (A++x' :: B).flatMap (·.fp)).Nodup;rw[List.flatMap_append,List.flatMap_cons];exact a8c (P:=k.b :: A.flatMap (·.fp)) hnd hm.nd hnew
 ·intro b hb;have hb:b∈k.b :: (A++x' :: B).flatMap (·.fp):=hb;rw[hk.fp3];simp only[List.flatMap_append,List.flatMap_cons,List.mem_cons,List.mem_append]at hb ⊢;rcases hb with hb|hb|hb|hb
  ·exact .inl (.inl (.inl hb))
  ·exact .inl (.inl (.inr hb))
  ·rcases hm.fp b hb with h1|h1
   ·exact .inl (.inr (.inl h1))
   ·exact .inr h1
  ·exact .inl (.inr (.inr hb))
 ·show ((A++x' :: B).flatMap (·.its)).Perm (k.its++[it]);rw[hk.its];simp only[List.flatMap_append,List.flatMap_cons,List.append_assoc];refine List.Perm.append_left _ ?_;refine(List.Perm.append_right _ hm.its).trans ?_;rw[List.append_assoc];refine List.Perm.append_left _ ?_;exact List.perm_append_comm
theorem a6Q(ha:K0 q rb rc ib ic (h+1) k it){p:InI}{A B:List Kid}{x x':Kid}(hm:b9v q rb rc ib ic h k it p A x B x')(hn:x'.n=17):spO p.q k.b (1+p.j*5) k.b (1+k.n*5):=by
 have hk:=hm.ks
 have hget:(A.map B4++B4 x' :: B.map B4)[p.j]? = some (B4 x'):=by
  rw[List.getElem?_append_right (by simp[hm.j]),List.length_map,hm.j];simp
 have hv:=hm.nod.v _ _ hget;have hb:=hm.nod.B _ _ hget;rw[Nat.mul_comm]at hv hb;have hle:=hm.nod.le;have hS:=hm.nod.S;have hlen:=hk.n;have hkn:=ha.n;have hj:=hm.j;simp only[List.length_append,List.length_map,List.length_cons]at hle hlen;have hkb:kb (p.q.F k.b (1+p.j*5))=x'.b:=by rw[hv];rfl
 obtain⟨l,n1,n2,n3⟩:=hm.tr.nd;have hxb:x'.b≠k.b:=λe=>hm.kfp (e▸hm.tr.fp0)
 refine⟨⟨hm.nod.D,by omega,by rw[hv];rfl,by rw[hkb];exact hxb,by rw[hkb,n1.of];exact n1⟩,okR.mk' hm.nod.D (by omega) hb,?_,?_,⟨hm.nod.D,by omega⟩,?_,?_⟩
 ·rw[hb.bxOf,hkb,n1.of];exact n3
 ·rw[hkb,n1.of,n2];exact hn
 ·rw[hkb];exact Ne.symm hxb
 ·unfold apart;omega
theorem a7S(ha:K0 q rb rc ib ic (h+1) k it){p:InI}{A B:List Kid}{x x':Kid}(hm:b9v q rb rc ib ic h k it p A x B x')(hn:x'.n=17){q3:RM}(hs:spP p.q k.b (1+p.j*5) k.b (1+k.n*5) q3) :
  q3.D k.b/\q3.S k.b=86/\q3.F k.b 0=.int .i64 (k.n:Nat)/\b1J q ⟨q3.D,q3.S,j0 q3.F k.b 0 (.int .i64 (k.n+1:Nat))⟩ k.fp/\
  ∃ k':Kid,k'.b=k.b/\k'.n<=17/\1<=k'.n/\isTr ⟨q3.D,q3.S,j0 q3.F k.b 0 (.int .i64 (k.n+1:Nat))⟩ (h+1) k'/\k'.fp.Nodup/\(∀ b∈k'.fp,b∈k.fp∨¬q.D b)/\k'.its.Perm (k.its++[it])/\k'.B=z8 k.B it.2:=by
 have hk:=hm.ks;have hO:=a6Q ha hm hn
 have hget:(A.map B4++B4 x' :: B.map B4)[p.j]? = some (B4 x'):=by
  rw[List.getElem?_append_right (by simp[hm.j]),List.length_map,hm.j];simp
 have hv:=hm.nod.v _ _ hget;rw[Nat.mul_comm]at hv;have hkb:kb (p.q.F k.b (1+p.j*5))=x'.b:=by rw[hv];rfl
 obtain⟨b2,L,R,B1,B2,s1,s2,s3,s4,s5,s6,s7,s8,s9,s10,s11,s12⟩:=hs;rw[hkb]at s2 s5 s12;have hlen:=hk.n;have hkn:=ha.n;have hj:=hm.j;have hle:=hm.nod.le;have hS:=hm.nod.S;simp only[List.length_append,List.length_map,List.length_cons]at hle hlen;have hxb:x'.b≠k.b:=λe=>hm.kfp (e▸hm.tr.fp0)
 have hb2k:b2≠k.b:=λe=>s1 (e▸hm.nod.D)
 have hb2x:∀ b∈x'.fp,b2≠b:=λb hb e=>s1 (e▸hm.tr.D b hb)
 have kc:∀ c,¬(1+k.n*5<=c/\c<1+k.n*5+5)->¬(1+p.j*5+1<=c/\c<1+p.j*5+5)->q3.F k.b c=p.q.F k.b c:=λc h1 h2=>s12.2 _ _ hm.nod.D (Ne.symm hxb) (by unfold rW;omega)
 have k0:q3.F k.b 0=.int .i64 (k.n:Nat):=by
  rw[kc 0 (by omega) (by omega),hm.nod.n];simp only[List.length_append,List.length_map,List.length_cons,hlen]
 have kD:=(s12.1 _ hm.nod.D).1;have kS:=(s12.1 _ hm.nod.D).2
 let q4:RM:=⟨q3.D,q3.S,j0 q3.F k.b 0 (.int .i64 (k.n+1:Nat))⟩
 have o4:∀ b c,b≠k.b->q4.F b c=q3.F b c:=λb c hb=>b8 (.inl hb)
 obtain⟨l,n1,n2,n3⟩:=hm.tr.nd;have hndl:w7 p.q x'.b=l:=n1.of
 obtain⟨x1,x2,e1,e2,e3,e4,e5,e6,e7,e8,e9,e10⟩:=hm.tr.split (q':=q4) (b2:=b2) hm.nd s2 s3 s4 (by rw[hndl];exact n1.le) (s5.same s5.D rfl λc=>o4 _ _ hxb) (s6.same s6.D rfl λc=>o4 _ _ hb2k) s9 s11 λb hb hne=>by
  have hD:=hm.tr.D b hb;have hbk:b≠k.b:=λe=>hm.kfp (e▸hb)
  exact⟨(s12.1 b hD).1,(s12.1 b hD).2,λc=>(o4 b c hbk).trans (s12.2 b c hD hne (by unfold rW;omega))⟩
 have node:C5 q4 k.b ((A.map B4++B4 x1 :: B.map B4)++[B4 x2]):=by
  have m1:C5 ⟨q3.D,q3.S,λb c=>if 1+k.n*5<=c then p.q.F b c else q3.F b c⟩ k.b (A.map B4++B4 x1 :: B.map B4):=by
   refine hm.nod.mid kD kS rfl ?_ ?_ ?_
   ·simp only[List.length_map,hm.j];rw[if_neg (by omega),Nat.mul_comm 5,kc _ (by omega) (by omega),hv];unfold B4;rw[e1]
   ·rw[List.length_map,hm.j];show isBox _ _ _ x1.B;rw[e5,Nat.mul_comm 5];refine A4 (λk' hk'=>?_) s8;show (if 1+k.n*5<=1+p.j*5+k' then _ else _)=_;rw[if_neg (by omega)]
   ·intro c hc;rw[List.length_map,hm.j]at hc;show (if _ then _ else _)=_;by_cases c1:1+k.n*5<=c
    ·rw[if_pos c1]
    ·rw[if_neg c1];exact kc c (by omega) (by omega)
  have hlen2:(A.map B4++B4 x1 :: B.map B4).length=k.n:=by simp only[List.length_append,List.length_map,List.length_cons,hlen]
  refine m1.push (q':=q4) (e:=B4 x2) (by rw[hlen2];omega) kD rfl rfl ?_ ?_ ?_ ?_
  ·rw[hlen2];exact v9
  ·rw[hlen2,Nat.mul_comm];show j0 q3.F k.b 0 _ k.b (1+k.n*5)=_;rw[b8 (by omega),s7];unfold B4;rw[e2]
  ·rw[hlen2,Nat.mul_comm];show isBox _ _ _ x2.B;rw[e6];refine A4 (λk' hk'=>?_) s10;show j0 q3.F k.b 0 _ k.b _=_;rw[b8 (by omega)]
  ·intro c c1 c2;rw[hlen2]at c2;show j0 q3.F k.b 0 _ k.b c=if _ then _ else _
   rw[if_neg (by omega),b8 (by omega)]
 have hnd:=ha.nd;rw[hk.fp3]at hnd;have hold:∀ b∈(k.b :: A.flatMap (·.fp))++(x.fp++B.flatMap (·.fp)),q.D b:=λb hb=>ha.tr.D b (by rw[hk.fp3];exact hb)
 have hxx:x'.b∈x.fp:=by rw[hm.eb];exact hm.xa.tr.fp0
 have far:∀ b c,q.D b->b∉k.b :: x.fp->q4.F b c=q.F b c:=λb c hb hne=>by
  have h1:b≠k.b:=λe=>hne (by simp[e])
  have h2:b≠x'.b:=λe=>hne (by rw[e];exact List.mem_cons_of_mem _ hxx)
  rw[o4 b c h1,s12.2 b c (hm.fr.1 b hb).1 h2 (by unfold rW;omega)];exact hm.fr.2 b c hb hne
 have dom:∀ b,q.D b->q4.D b/\q4.S b=q.S b:=λb hb=>⟨(s12.1 b (hm.fr.1 b hb).1).1,(s12.1 b (hm.fr.1 b hb).1).2.trans (hm.fr.1 b hb).2⟩
 have hkids:∀ y,y∈A∨y∈B->isTr q4 h y/\1<=y.n/\y.n<=16:=λy hy=>by
  have hmem:y∈A++x :: B:=by rcases hy with hy|hy <;> simp[hy]
  have hy2:=hk.tr y hmem;refine⟨hy2.1.same λb hb=>?_,hy2.2⟩;have hD:=hy2.1.D b hb;refine⟨(dom b hD).1,(dom b hD).2,λc=>far b c hD ?_⟩;rw[List.nodup_append,List.nodup_append]at hnd;obtain⟨n1,⟨n2,n3,n4⟩,n5⟩:=hnd;simp only[List.mem_cons,not_or];rcases hy with hy|hy
  ·have hbm:b∈A.flatMap (·.fp):=List.mem_flatMap.2 ⟨y,hy,hb⟩;exact⟨λe=>(List.nodup_cons.1 n1).1 (e▸hbm),λe=>n5 b (by simp[hbm]) b (List.mem_append.2 (.inl e)) rfl⟩
  ·have hbm:b∈B.flatMap (·.fp):=List.mem_flatMap.2 ⟨y,hy,hb⟩;exact⟨λe=>n5 k.b (by simp) b (List.mem_append.2 (.inr hbm)) e.symm,λe=>n4 b e b hbm rfl⟩
 have hb2D:∀ b,q.D b->b2≠b:=λb hb e=>s1 (e▸(hm.fr.1 b hb).1)
 have hin:∀ b∈x1.fp++x2.fp,b=b2∨b∈x'.fp:=λb hb=>by
  have:=e10.mem_iff.1 hb;simpa using this
 have hnew:∀ b∈x1.fp++x2.fp,b∈x.fp∨(b∉k.b :: A.flatMap (·.fp)/\b∉B.flatMap (·.fp)):=λb hb=>by
  rcases hin b hb with rfl|hb
  ·exact .inr ⟨λe=>hb2D _ (hold _ (List.mem_append.2 (.inl e))) rfl,λe=>hb2D _ (hold _ (List.mem_append.2 (.inr (List.mem_append.2 (.inr e))))) rfl⟩
  ·rcases hm.fp b hb with h1|h1
   ·exact .inl h1
   ·exact .inr ⟨λe=>h1 (hold b (List.mem_append.2 (.inl e))),λe=>h1 (hold b (List.mem_append.2 (.inr (List.mem_append.2 (.inr e)))))⟩
 have hnd2:(x1.fp++x2.fp).Nodup:=e10.nodup_iff.2 (List.nodup_cons.2 ⟨λe=>hb2x _ e rfl,hm.nd⟩)
 have hpr:∀(P a b S:List Nat),(P++(a++(S++b))).Perm (P++((a++b)++S)):=λP a b S=>by
  refine List.Perm.append_left P ?_;rw[List.append_assoc];exact List.Perm.append_left a List.perm_append_comm
 have hpr2:∀(P a b S:List (Int×Bx)),(P++(a++(S++b))).Perm (P++((a++b)++S)):=λP a b S=>by
  refine List.Perm.append_left P ?_;rw[List.append_assoc];exact List.Perm.append_left a List.perm_append_comm
 have efp:k.b :: (A++x1 :: (B++[x2])).flatMap (·.fp)=(k.b :: A.flatMap (·.fp))++(x1.fp++(B.flatMap (·.fp)++x2.fp)):=by
  simp only[List.flatMap_append,List.flatMap_cons,List.flatMap_nil,List.append_nil,List.cons_append]
 have eit:(A++x1 :: (B++[x2])).flatMap (·.its)=A.flatMap (·.its)++(x1.its++(B.flatMap (·.its)++x2.its)):=by
  simp only[List.flatMap_append,List.flatMap_cons,List.flatMap_nil,List.append_nil]
 have hlen3:(A++x1 :: (B++[x2])).length=k.n+1:=by simp only[List.length_append,List.length_cons,List.length_nil];omega
 refine⟨kD,kS.trans hS,k0,⟨dom,λb c hb hne=>far b c hb λe=>hne ?_⟩,⟨k.b,k.b :: (A++x1 :: (B++[x2])).flatMap (·.fp),(A++x1 :: (B++[x2])).flatMap (·.its),z8 k.B it.2,(A++x1 :: (B++[x2])).length⟩,rfl,?_,?_,⟨A++x1 :: (B++[x2]),rfl,?_,rfl,rfl,?_,?_,?_⟩,?_,?_,?_,rfl⟩
 ·rcases List.mem_cons.1 e with rfl|e
  ·exact ha.tr.fp0
  ·exact hk.xfp b e
 ·show (A++x1 :: (B++[x2])).length<=17;omega
 ·show 1<=(A++x1 :: (B++[x2])).length;omega
 ·show 1<=(A++x1 :: (B++[x2])).length;omega
 ·show C5 q4 k.b ((A++x1 :: (B++[x2])).map B4);have:(A++x1 :: (B++[x2])).map B4=(A.map B4++B4 x1 :: B.map B4)++[B4 x2]:=by simp
  rw[this];exact node
 ·show F3 (z8 k.B it.2) ((A++x1 :: (B++[x2])).map (·.B));have:(A++x1 :: (B++[x2])).map (·.B)=A.map (·.B)++x1.B :: (B.map (·.B)++[x2.B]):=by simp
  rw[this,e5,e6];have ht:=a7T (c:=it.2) hk.t;refine b5F (b:=z8 x.B it.2) ht ?_ s9 s11 (by simpa using s3) (by simpa using s4);rw[<-hm.bx,<-List.map_append];rw[hndl]at s2;exact b2m (s2.map _).symm n3
 ·intro y hy;simp only[List.mem_append,List.mem_cons,List.not_mem_nil,or_false]at hy;rcases hy with hy|rfl|hy|rfl
  ·exact hkids y (.inl hy)
  ·exact⟨e7,e3⟩
  ·exact hkids y (.inr hy)
  ·exact⟨e8,e4⟩
 ·show (k.b :: (A++x1 :: (B++[x2])).flatMap (·.fp)).Nodup;rw[efp];exact(hpr _ _ _ _).nodup_iff.2 (a8c hnd hnd2 hnew)
 ·intro b hb;have hb:b∈k.b :: (A++x1 :: (B++[x2])).flatMap (·.fp):=hb;rw[efp]at hb;have hb:=(hpr _ _ _ _).mem_iff.1 hb;rw[hk.fp3];rw[List.mem_append,List.mem_append]at hb;rw[List.mem_append,List.mem_append];rcases hb with hb|hb|hb
  ·exact .inl (.inl hb)
  ·rcases hin b hb with rfl|hb
   ·exact .inr λhD=>hb2D _ hD rfl
   ·rcases hm.fp b hb with h1|h1
    ·exact .inl (.inr (.inl h1))
    ·exact .inr h1
  ·exact .inl (.inr (.inr hb))
 ·show ((A++x1 :: (B++[x2])).flatMap (·.its)).Perm (k.its++[it]);rw[eit,hk.its];refine(hpr2 _ _ _ _).trans ?_;simp only[List.flatMap_append,List.flatMap_cons];rw[List.append_assoc (A.flatMap (·.its)) _ [it]];refine List.Perm.append_left _ ?_;refine(List.Perm.append_right _ (e9.trans hm.its)).trans ?_;rw[List.append_assoc,List.append_assoc];exact List.Perm.append_left _ List.perm_append_comm
end
section
variable {q:RM} {rb rc ib ic h:Nat}
theorem c1u{k:Kid}{it:Int×Bx}(ha:K0 q rb rc ib ic h k it):a7R q ib ic k.b ⟨q.D,q.S,j0 (cp5 q.F k.b (1+k.n*5) q.F ib ic) k.b 0 (.int .i64 (k.n+1:Nat))⟩:=by
 obtain⟨n1,n2,_⟩:=ha.node;have hn:=ha.n;refine⟨⟨rfl,rfl,λb c hb=>?_⟩,?_⟩
 ·show j0 _ _ _ _ _ _=_;rw[b8 (.inl hb),M7 (.inl hb)]
 ·refine n1.cpush (by omega) (G:=q.F) (b0:=ib) (c0:=ic) rfl (by show (q.F ib ic).oneCell'=true;rw[ha.iv];rfl) (by show isBox q.F ib ic (bxOf q.F ib ic);rw[ha.ibx.bxOf];exact ha.ibx) n1.D rfl λc=>?_
  rw[n2]
theorem b4w{q q':RM}{b c:Nat}{B:Bx}(hb:isBox q.F b c B)(h:∀ k,k<5->q'.F b (c+k)=q.F b (c+k)):bxOf q'.F b c=B:=(A4 h hb).bxOf
theorem b5n{q':RM}(hp:a7R q ib ic (kb (q.F rb rc)) q'):a5Y q rb rc ib ic 0 q' (!decide (A6 (bxOf q'.F rb rc) (bxOf q'.F ib ic))):=by
 intro k it ha;rw[ha.kb]at hp;have h1:bxOf q'.F rb rc=k.B:=b4w ha.box λc _=>hp.1.2.2 _ _ (Ne.symm ha.rk)
 have h2:bxOf q'.F ib ic=it.2:=b4w ha.ibx λc _=>hp.1.2.2 _ _ (Ne.symm ha.ik)
 obtain⟨h3,h4⟩:=b7V ha hp;refine⟨?_,h3,h4⟩;rw[h1,h2];by_cases c:A6 k.B it.2 <;> simp[c]
theorem a8M{k:Kid}{it:Int×Bx}{p:InI}{A B:List Kid}{x x':Kid}(hm:b9v q rb rc ib ic h k it p A x B x'):p.q.D k.b/\1+p.j*5+5<=p.q.S k.b/\isRef (p.q.F k.b (1+p.j*5))/\kb (p.q.F k.b (1+p.j*5))=x'.b/\C5 p.q x'.b (w7 p.q x'.b)/\p.q.F x'.b 0=.int .i64 (x'.n:Nat):=by
 have hget:(A.map B4++B4 x' :: B.map B4)[p.j]? = some (B4 x'):=by
  rw[List.getElem?_append_right (by simp[hm.j]),List.length_map,hm.j];simp
 have hv:=hm.nod.v _ _ hget;rw[Nat.mul_comm]at hv;have hle:=hm.nod.le;have hS:=hm.nod.S;have hj:=hm.j;simp only[List.length_append,List.length_map,List.length_cons]at hle;obtain⟨l,n1,n2,n3⟩:=hm.tr.nd;refine⟨hm.nod.D,by omega,by rw[hv];rfl,by rw[hv];rfl,by rw[n1.of];exact n1,by rw[n1.n,n2]⟩
theorem b4Z{p:InI}(hp:inE q rb rc (kb (q.F rb rc)) ib ic h p)(hn:m8 (p.q.F (kb (p.q.F (kb (q.F rb rc)) (1+p.j*5))) 0)≠17):a5Y q rb rc ib ic (h+1) p.q p.g:=by
 intro k it ha;rw[ha.kb]at hp hn;obtain⟨A,x,B,x',hm⟩:=a9q ha hp;obtain⟨_,_,_,c4,_,c6⟩:=a8M hm;rw[c4,c6]at hn;have hn2:x'.n≠17:=λe=>hn (by rw[e];rfl)
 obtain⟨h3,h4⟩:=b9m ha hm hn2;exact⟨hm.g,h3,h4⟩
theorem b2O{p:InI}(hp:inE q rb rc (kb (q.F rb rc)) ib ic h p)(hn:m8 (p.q.F (kb (p.q.F (kb (q.F rb rc)) (1+p.j*5))) 0)=17){n:Nat}(hcnt:p.q.F (kb (q.F rb rc)) 0=.int .i64 (n:Nat)){q3:RM}(hs:spP p.q (kb (q.F rb rc)) (1+p.j*5) (kb (q.F rb rc)) (1+n*5) q3) :
  a5Y q rb rc ib ic (h+1) ⟨q3.D,q3.S,j0 q3.F (kb (q.F rb rc)) 0 (.int .i64 (n+1:Nat))⟩ p.g:=by
 intro k it ha;rw[ha.kb]at hp hn hs hcnt ⊢;obtain⟨A,x,B,x',hm⟩:=a9q ha hp;obtain⟨_,_,_,c4,_,c6⟩:=a8M hm;rw[c4,c6]at hn
 have hn2:x'.n=17:=by
  have:((x'.n:Nat):Int)=17:=hn;omega
 have hkn:n=k.n:=by
  have h1:=hm.nod.n;rw[hcnt]at h1;simp only[Value.int.injEq,true_and,Int.natCast_inj]at h1;rw[h1,hm.ks.n];simp
 subst hkn;obtain⟨_,_,_,h3,h4⟩:=a7S ha hm hn2 hs;exact⟨hm.g,h3,h4⟩
theorem a4d{k:Kid}{it:Int×Bx}(ha:K0 q rb rc ib ic (h+1) k it){p:InI}(hp:inC q k.b ib ic h p) :
  p.q.D k.b/\1+p.j*5+5<=p.q.S k.b/\(∃ x B,K0 q k.b (1+p.j*5) ib ic h x it/\p.g=decide (¬A6 x.B it.2)/\B=x.B/\isBox p.q.F k.b (1+p.j*5) B/\bxOf p.q.F k.b (1+p.j*5)=B)/\
  (p.q.D ib/\ic+5<=p.q.S ib/\isBox p.q.F ib ic it.2)/\(p.q.D rb/\rc+5<=p.q.S rb/\isBox p.q.F rb rc k.B):=by
 obtain⟨hj,hP⟩:=hp;obtain⟨A,x,B,hk,hA,hx⟩:=a3B ha hj;obtain⟨g1,f1,_⟩:=hP x it hx;have hxr:rb∉x.fp:=λe=>ha.rfp (hk.xfp _ e)
 have d1:=f1.1 _ hk.nd.D;have d2:=f1.1 _ ha.iD;have d3:=f1.1 _ ha.D;have b1:isBox p.q.F k.b (1+p.j*5) x.B:=A4 (λc _=>f1.2 _ _ hk.nd.D hx.rfp) hx.box;have hS:=hx.S;exact⟨d1.1,by rw[d1.2];exact hS,⟨x,x.B,hx,g1,rfl,b1,b1.bxOf⟩,⟨d2.1,by rw[d2.2];exact ha.iS,A4 (λc _=>f1.2 _ _ ha.iD hx.ifp) ha.ibx⟩,⟨d3.1,by rw[d3.2];exact ha.S,A4 (λc _=>f1.2 _ _ ha.D hxr) ha.box⟩⟩
theorem b8A{k:Kid}{it:Int×Bx}(ha:K0 q rb rc ib ic (h+1) k it){p:InI}(hp:inC q k.b ib ic h p)(hg:p.g=true){q2:RM}(he:exI p.q k.b (1+p.j*5) ib ic 2 2 q2) :
  okR q2 rb rc/\okR q2 ib ic/\inE q rb rc k.b ib ic h ⟨p.j,q2,!decide (A6 (bxOf q2.F rb rc) (bxOf q2.F ib ic))⟩:=by
 obtain⟨c1,c2,⟨x,B,hx,c3,c4,c5,c6⟩,⟨c7,c8,c9⟩,⟨c10,c11,c12⟩⟩:=a4d ha hp;obtain⟨hs,hb⟩:=he;have hoff:∀ b c,b≠k.b->q2.F b c=p.q.F b c:=λb c hne=>hs.2.2 b c (by unfold rW;omega)
 have e1:isBox q2.F rb rc k.B:=A4 (λc _=>hoff _ _ (Ne.symm ha.rk)) c12;have e2:isBox q2.F ib ic it.2:=A4 (λc _=>hoff _ _ (Ne.symm ha.ik)) c9;refine⟨okR.mk' (by rw[hs.1];exact c10) (by rw[hs.2.1];exact c11) e1,okR.mk' (by rw[hs.1];exact c7) (by rw[hs.2.1];exact c8) e2,hp.1,p.q,p.g,hp.2,hs,?_,?_⟩
 ·show isBox q2.F k.b (1+p.j*5) _;rw[a3Q]at hb;exact hb
 ·show (!decide (A6 (bxOf q2.F rb rc) (bxOf q2.F ib ic)))=(p.g&&_);rw[hg,e1.bxOf,e2.bxOf,ha.box.bxOf,ha.ibx.bxOf];by_cases c:A6 k.B it.2 <;> simp[c]
theorem b6R{k:Kid}{it:Int×Bx}(ha:K0 q rb rc ib ic (h+1) k it){p:InI}(hp:inC q k.b ib ic h p)(hg:p.g=false):inE q rb rc k.b ib ic h p:=by
 obtain⟨c1,c2,⟨x,B,hx,c3,c4,c5,c6⟩,⟨c7,c8,c9⟩,_⟩:=a4d ha hp;refine⟨hp.1,p.q,p.g,hp.2,J3.refl _ _,?_,by rw[hg];rfl⟩;rw[c6,c9.bxOf];rw[hg]at c3
 have:A6 x.B it.2:=by
  by_cases c:A6 x.B it.2
  ·exact c
  ·simp[c]at c3
 rw[c4,a7U _ _ this,<-c4];exact c5
end
noncomputable def c9u(ts:List Nat)(rb rc ib ic nb:Nat)(hh:Int)(g:SV)(q:RM):St :=
 ⟨88,[(0, .pb 0 rb rc),(1, .pb 0 ib ic),(2, .int .i64 hh),(6,g),(7, .pb 0 nb 0)],[(0,rwO ts q)],1⟩
noncomputable def c3e(ts:List Nat)(rb rc ib ic nb:Nat)(hh:Int)(p:InI):St :=
 ⟨88,[(0, .pb 0 rb rc),(1, .pb 0 ib ic),(2, .int .i64 hh),(6, .bool p.g),(7, .pb 0 nb 0),(9, .pb 0 nb (1+p.j*5))],[(0,rwO ts p.q)],1⟩
noncomputable def a6F(K:Nat):List SV->RRd (RM×Bool)
 | [.pb n rb rc, .pb n1 ib ic, .int .i64 hh]=>.read n λo0=>(match G2 o0 with
  | some (ts,q)=>.ret ⟨[.pb 0 rb rc, .pb 0 ib ic, .int .i64 hh],[(0,rwO ts q)],some (n=n1/\((0<=hh/\hh<(K:Int)/\hh<1000)/\b7A q rb rc ib ic hh.toNat)),λi=>a5Y q rb rc ib ic hh.toNat i.1 i.2,λi=>⟨[],[], .bool i.2,[(0,rwO ts (i.1))],[],none⟩⟩
  | none=>.fail)
 | _=>.fail
noncomputable def X3(H:Nat):D7:=⟨G0,[(127,l9 (RM×Bool) ⟨default⟩ (a6F H)),(128,l9 RM ⟨default⟩ a6j),(129,l9 RM ⟨default⟩ a5b),(133,l9 Unit ⟨()⟩ a9e),(134,l9 Nat ⟨default⟩ a6g)],[],[],[]⟩
theorem x3(H:Nat)(ih:u6 Tryz.prog 127 (l9 (RM×Bool) ⟨default⟩ (a6F H))):y9 Tryz.prog (X3 H):=⟨g0,q8.cons ih (q8.cons b8Z (q8.cons b9y (q8.cons c2u (q8.cons c1j q8.nil))))⟩
noncomputable def c3F(K:Nat):List SV->RRd (RM×Bool)
 | [.pb n rb rc, .pb n1 ib ic, .int .i64 hh]=>.read n λo0=>(match G2 o0 with
  | some (ts,q)=>.ret ⟨[.pb 0 rb rc, .pb 0 ib ic, .int .i64 hh],[(0,rwO ts q)],some (n=n1/\((0<=hh/\hh<(K:Int)/\hh<1000)/\b7A q rb rc ib ic hh.toNat)),λi=>a5Y q rb rc ib ic hh.toNat i.1 i.2,λi=>⟨[],[], .bool i.2,[(0,rwO ts (i.1))],[],none⟩⟩
  | none=>.fail)
 | _=>.fail
theorem b9I(R:Option Ob->SV->Prop)(H:Nat)(ts:List Nat)(q:RM)(rb rc ib ic:Nat)(hh:Int){T1}(t1:T1=(kb (q.3 rb rc))){T2}(t2:T2=(j0 (j0 (j0 (j0 q.3 T1 (1+Int.toNat (m8 (q.3 T1 0))*5) (q.3 ib ic)) T1 (1+Int.toNat (m8 (q.3 T1 0))*5+1) (q.3 ib (ic+1))) T1 (1+Int.toNat (m8 (q.3 T1 0))*5+1+1) (q.3 ib (ic+1
 + 1))) T1 (1+Int.toNat (m8 (q.3 T1 0))*5+1+1+1) (q.3 ib (ic+1+1+1)))){T3}(t3:T3=λ(j:InI)=>(I0 ((InI.q j).3 T1 (1+InI.j j*5+0)))){T4}(t4:T4=λ(j:InI)=>(RM.mk (RM.D (InI.q j)) (InI.q j).2 (InI.q j).3)){T5}(t5:T5=(True/\
 kb (q.3 rb rc)=kb (q.3 rb rc)/\0=0)){T6}(t6:T6=(True/\rb=rb/\rc=rc)){T7}(t7:T7=(True/\ib=ib/\ic=ic)){T8}(t8:T8=(1+Int.toNat (m8 (q.3 T1 0))*5+1+1+1+1)){T9}(t9:T9=(RM.mk (RM.D q) (RM.S q) (RM.F q))){T10}(t10:T10=(q.3 ib
 (ic+1+1+1+1))){T11}(t11:T11=(RM.mk (RM.D q) q.2 q.3)){T12}(t12:T12=λ(j:InI)=>((InI.q j).3 (ptB (T3 j)) (ptC (T3 j)+0))){T13}(t13:T13=(Int.toNat hh-1)){T14}(t14:T14=(hh-(1:Int))){T15}(t15:T15=(q.3 rb rc)):J7 (X3 H) 1 [] [(2,⟨Nat,λ_=>c9u ts rb rc ib ic (kb (q.F rb rc)) hh .ff q,λ_=>True,λ_=>0⟩),(5,⟨RM,λq'=>c9u ts rb rc ib ic (kb (q.F rb rc)) hh .ff q',λq'=>hh=0/\a7R q ib ic (kb (q.F rb rc)) q',λ_=>0⟩),(10,⟨InI,c3e ts rb rc ib ic (kb (q.F rb rc)) hh,λp=>hh≠0/\inC q (kb (q.F rb rc)) ib ic (hh.toNat-1) p,λ_=>0⟩),(13,⟨InI,c3e ts rb rc ib ic (kb (q.F rb rc)) hh,λp=>hh≠0/\inE q rb rc (kb (q.F rb rc)) ib ic (hh.toNat-1) p,λ_=>0⟩)] (j3 Tryz.f127) (q9 Tryz.f127.ntmps [.pb 0 rb rc, .pb 0 ib ic, .int .i64 hh] [(0,rwO ts q)] 1) (r6 (X3 H).G.E.T Tryz.f127.results.toList λS v=>R (Go.Sx.look S.H 0) v)=(
 ((q.1 rb/\rc+0<q.2 rb)/\(a1X 207 (q.3 rb (rc+0))/\a0J (I0 (q.3 rb (rc+0))))/\∃(_:Nat),True/\(T6/\T7/\hh=hh/\True/\(True/\ptB (I0 (q.3 rb (rc+0)))=kb T15/\ptC (I0 (q.3 rb (rc+0)))=0)/\True)/\True/\(0=0/\0
 = 0/\ts=ts/\q.3=q.3/\q.2=q.2/\RM.D q=RM.D q)/\True)/\∀(_:Nat),True->((hh==(0:Int))=true->(q.1 T1/\0<q.2 T1/\A1 .i64 (q.3 T1 0))/\(q.1 ib/\ic+5<=q.2 ib)/\((0:Int)<=m8 (q.3 T1 0)/\m8 (q.3 T1 0)<(17 :
 Int))/\((((((q.1 T1/\1+Int.toNat (m8 (q.3 T1 0))*5+5<=q.2 T1)/\Value.oneCell' (q.3 ib ic)=true)/\Value.oneCell' (q.3 ib (ic+1))=true)/\Value.oneCell' (q.3 ib (ic+1+1))=true)/\Value.oneCell' (q.3 ib (ic+1+1+1))=true)
 /\Value.oneCell' T10=true)/\true=true/\((q.1 T1/\0<q.2 T1/\A1 .i64 (j0 T2 T1 T8 T10 T1 0))/\(q.1 T1/\1<=q.2 T1)/\∃(pq:RM),(hh=(0:Int)/\a7R q ib ic T1 pq)/\(T6/\T7/\hh=hh/\True/\T5/\True)/\True/\(0=0/\0=0/\
 ts=ts/\j0 (j0 T2 T1 T8 T10) T1 0 (Value.int .i64 (IntKind.wrap .i64 (m8 (j0 T2 T1 T8 T10 T1 0)+(1:Int))))=pq.3/\q.2=pq.2/\RM.D q=RM.D pq)/\True)/\∀(j:RM),hh=(0:Int)/\a7R q ib ic T1 j->∀(_:Unit),(0=0/\okR
 (RM.mk (RM.D j) j.2 j.3) rb rc/\okR (RM.mk (RM.D j) j.2 j.3) ib ic)/\(True->R (Option.some (Ob.mk true 0 (a9.raw ts (RM.D (RM.mk (RM.D j) (RM.S j) (RM.F j))) j.2 j.3) 0)) (SV.bool !decide (A6 (bxOf j.3 rb rc) (bxOf j.3 ib ic)))))/\((hh==(0
 : Int))=false->∀(i:Nat),(0=0/\hangs T11 rb rc/\okR T11 ib ic/\1<=List.length (w7 T11 (kb (T9.3 rb rc))))/\(i<List.length (w7 T11 (kb (T9.3 rb rc)))->(0<=(↑i:Int)/\(↑i:Int)<17)/\(∀(i_1:RM×Bool),(0=0/\((0:Int)<=
 IntKind.wrap .i64 T14/\IntKind.wrap .i64 T14<(↑H:Int)/\IntKind.wrap .i64 T14<(1000:Int))/\b7A (RM.mk (RM.D T9) q.2 q.3) T1 (1+Int.toNat (↑i:Int)*5) ib ic (Int.toNat (IntKind.wrap .i64 T14)))/\(a5Y (RM.mk (RM.D T9) q.2 q.3) T1 (1 +
 Int.toNat (↑i:Int)*5) ib ic (Int.toNat (IntKind.wrap .i64 T14)) (i_1.1) (i_1.2)->∃(pq:InI),(hh≠(0:Int)/\inC q T1 ib ic T13 pq)/\(T6/\T7/\hh=hh/\i_1.2=InI.g pq/\T5/\(True/\kb T15=kb T15/\1+Int.toNat (↑i:Int)*5=1 +
 InI.j pq*5)/\True)/\True/\(0=0/\0=0/\ts=ts/\(i_1.1).3=(InI.q pq).3/\(i_1.1).2=(InI.q pq).2/\RM.D (i_1.1)=RM.D (InI.q pq))/\True))/\∀(j:InI),hh≠(0:Int)/\inC q T1 ib ic T13 j->((InI.g j=true->∀(i:RM),(0=0/\
 okR (T4 j) T1 (1+InI.j j*5)/\okR (T4 j) ib ic/\apart T1 (1+InI.j j*5) ib ic)/\(exI (T4 j) T1 (1+InI.j j*5) ib ic 2 2 i->∀(_:Unit),(0=0/\okR (RM.mk (RM.D i) i.2 i.3) rb rc/\okR (RM.mk (RM.D i) i.2 i.3) ib ic)/\(True->∃(pq :
 InI),(hh≠(0:Int)/\inE q rb rc T1 ib ic T13 pq)/\(T6/\T7/\hh=hh/\(!decide (A6 (bxOf i.3 rb rc) (bxOf i.3 ib ic)))=InI.g pq/\T5/\(True/\kb T15=kb T15/\1+InI.j j*5=1+InI.j pq*5)/\True)/\True/\(0=0/\0=0/\ts=ts/\
 i.3=(InI.q pq).3/\i.2=(InI.q pq).2/\RM.D (RM.mk (RM.D i) (RM.S i) (RM.F i))=RM.D (InI.q pq))/\True)))/\(InI.g j=false->∃(pq:InI),(hh≠(0:Int)/\inE q rb rc T1 ib ic T13 pq)/\(T6/\T7/\hh=hh/\InI.g j=InI.g pq/\T5/\(True/\
 kb T15=kb T15/\1+InI.j j*5=1+InI.j pq*5)/\True)/\True/\(0=0/\0=0/\ts=ts/\(InI.q j).3=(InI.q pq).3/\(InI.q j).2=(InI.q pq).2/\RM.D (InI.q j)=RM.D (InI.q pq))/\True))/\∀(j:InI),hh≠(0:Int)/\inE q rb rc T1 ib
 ic T13 j->((InI.q j).1 T1/\1+InI.j j*5+0<(InI.q j).2 T1)/\(a1X 207 ((InI.q j).3 T1 (1+InI.j j*5+0))/\a0J (T3 j))/\((InI.q j).1 (ptB (T3 j))/\ptC (T3 j)+0<(InI.q j).2 (ptB (T3 j))/\A1 .i64 (T12 j))/\((m8 (T12 j)==(17
 : Int))=true->∀(i:RM),((InI.q j).1 T1/\0<(InI.q j).2 T1/\A1 .i64 ((InI.q j).3 T1 0))/\((0:Int)<=m8 ((InI.q j).3 T1 0)/\m8 ((InI.q j).3 T1 0)<(17:Int))/\(0=0/\spO (T4 j) T1 (1+InI.j j*5) T1 (1+Int.toNat (m8
 ((InI.q j).3 T1 0))*5))/\true=true/\(spP (T4 j) T1 (1+InI.j j*5) T1 (1+Int.toNat (m8 ((InI.q j).3 T1 0))*5) i->(i.1 T1/\0<i.2 T1/\A1 .i64 (i.3 T1 0))/\(i.1 T1/\1<=i.2 T1)/\R (Option.some (Ob.mk true 0 (a9.raw ts (RM.D i)
 i.2 (j0 i.3 T1 0 (Value.int .i64 (IntKind.wrap .i64 (m8 (i.3 T1 0)+(1:Int)))))) 0)) (SV.bool (InI.g j))))/\((m8 (T12 j)==(17:Int))=false->R (Option.some (Ob.mk true 0 (a9.raw ts (RM.D (InI.q j)) (InI.q j).2 (InI.q j).3) 0))
 (SV.bool (InI.g j)))))):=by subst t1 t2 t3 t4 t5 t6 t7 t8 t9 t10 t11 t12 t13 t14 t15;kernel_rfl
theorem d0f(H:Nat)(ih:u6 Tryz.prog 127 (l9 (RM×Bool) ⟨default⟩ (a6F H))):u6 Tryz.prog 127 (l9 (RM×Bool) ⟨default⟩ (c3F (H+1))):=by
 refine A7 (x3 H ih) Tryz.func127 rfl (by kernel_rfl) λargs=>?_
 unfold c3F;split
 ·rename_i n rb rc n1 ib ic hh;intro o0;try dsimp only
  split
  ·rename_i ts q hm0;intro ho;replace ho:n=n1/\((0<=hh/\hh<((H+1):Int)/\hh<1000)/\b7A q rb rc ib ic hh.toNat):=ho;obtain⟨heq0,ho⟩:=ho;subst heq0;refine⟨?_,Nat.succ_pos _,ts,λ(i:RM×Bool)=>i.1,λ(i:RM×Bool)=>.bool i.2,λ_=>rfl,?_,_,_,(b9I (G6 1 ts (λ(i:RM×Bool)=>a5Y q rb rc ib ic hh.toNat i.1 i.2) (λ(i:RM×Bool)=>i.1) (λ(i:RM×Bool)=>.bool i.2)) H ts q rb rc ib ic hh rfl rfl rfl rfl rfl rfl rfl rfl rfl rfl rfl rfl rfl rfl rfl).mpr ?_⟩
   ·refine g9 rfl ⟨λ_=>rfl,?_,⟨trivial,z9 hm0,trivial⟩⟩;simp[j9,o8,p8,o9,p7,nth,a8]
   ·intro i _;rfl
   ·obtain⟨⟨hh0,hhK,hh1000⟩,k,it,ha⟩:=ho;have hkb:=ha.kb;obtain⟨f1,f2,f3,f4⟩:=ha.isRef.facts;obtain⟨n1,n2,n3⟩:=ha.node;have nS:=n1.S;have nle:=n1.le;have hkn:=ha.n;have haS:=ha.S;have haiS:=ha.iS;have hcnt:q.F k.b 0=.int .i64 (k.n:Nat):=by rw[n1.n,n2]
    have hn:m8 (q.F k.b 0)=(k.n:Nat):=by rw[hcnt];rfl
    have hisn:A1 .i64 (q.F k.b 0):=by rw[hcnt];rfl
    simp only[true_and,and_true,eq_self,Int.toNat_natCast,true_implies];simp only[Nat.add_zero,f3,f4,hkb,hn];refine⟨⟨⟨ha.D,by omega⟩,⟨f1,f2⟩,0,(by and_intros <;> first|trivial|rfl|(rw[j5 (by omega) (by omega)];first|rfl|omega))⟩,λ_=>⟨λh0=>?_,λh0=>?_⟩⟩
    ·have h0:hh=0:=by simpa using h0
     subst h0;have ha0:K0 q rb rc ib ic 0 k it:=ha;have o0:(q.F ib ic).oneCell'=true:=by rw[ha.iv];rfl
     have o1:(q.F ib (ic+1)).oneCell'=true:=by rw[ha.ibx.1.1];rfl
     have o2:(q.F ib (ic+1+1)).oneCell'=true:=by rw[show ic+1+1=ic+2 from rfl,ha.ibx.2.1.1];rfl
     have o3:(q.F ib (ic+1+1+1)).oneCell'=true:=by rw[show ic+1+1+1=ic+3 from rfl,ha.ibx.2.2.1.1];rfl
     have o4:(q.F ib (ic+1+1+1+1)).oneCell'=true:=by rw[show ic+1+1+1+1=ic+4 from rfl,ha.ibx.2.2.2.1];rfl
     simp (disch:=omega) only[a8z,hn,j5,hisn,n1.D,o0,o1,o2,o3,o4,true_and,and_true];simp only[Int.toNat_natCast];refine⟨by omega,⟨ha.iD,by omega⟩,⟨by omega,by omega⟩,by omega,⟨by omega,by omega,_,c1u ha0,(by and_intros <;> first|trivial|rfl|(rw[j5 (by omega) (by omega)];first|rfl|omega))⟩,λq' hq' _=>⟨⟨?_,?_⟩,⟨(q',_),b5n (by rw[hkb];exact hq'),rfl,rfl⟩⟩⟩
     ·exact okR.mk' (by rw[hq'.1.1];exact ha.D) (by rw[hq'.1.2.1];exact ha.S) (A4 (λc _=>hq'.1.2.2 _ _ (Ne.symm ha.rk)) ha.box)
     ·exact okR.mk' (by rw[hq'.1.1];exact ha.iD) (by rw[hq'.1.2.1];exact ha.iS) (A4 (λc _=>hq'.1.2.2 _ _ (Ne.symm ha.ik)) ha.ibx)
    ·have h0:hh≠0:=by simpa using h0
     obtain⟨h,rfl⟩:∃ h:Nat,hh=((h+1:Nat):Int):=⟨hh.toNat-1,by omega⟩;have ha1:K0 q rb rc ib ic (h+1) k it:=ha
     have hk1:1<=k.n:=by
      rcases Nat.eq_zero_or_pos k.n with e|e
      ·have:=(ha1.n0 e).1;omega
      ·exact e
     have hw:IntKind.i64.wrap (((h+1:Nat):Int)-1)=((h:Nat):Int):=by rw[j5 (by omega) (by omega)];omega
     simp only[hw,Int.toNat_natCast,Nat.add_sub_cancel,n2];refine λj=>⟨⟨ha.hangs,ha.okI,?_⟩,λhj=>?_⟩
     ·exact hk1
     refine⟨⟨by omega,by omega⟩,λi1=>⟨⟨⟨by omega,by omega,by omega⟩,?_⟩,λhP=>⟨⟨j,i1.1,i1.2⟩,⟨h0,by rw[n2];exact hj,hP⟩,(by and_intros <;> first|trivial|rfl|(rw[j5 (by omega) (by omega)];first|rfl|omega))⟩⟩,?_⟩
     ·obtain⟨A,x,B,_,_,hx⟩:=a3B ha1 (j:=j) (by rw[n2];exact hj);exact⟨x,it,hx⟩
     rintro p ⟨_,hp⟩;obtain⟨c1,c2,⟨x,B,hx,c3,c4,c5,c6⟩,⟨c7,c8,c9⟩,⟨c10,c11,c12⟩⟩:=a4d ha1 hp;refine⟨⟨λhg q2=>⟨⟨okR.mk' c1 c2 c5,okR.mk' c7 c8 c9, .inl ha.ik⟩,λhe=>?_⟩,λhg=>⟨p,⟨h0,b6R ha1 hp hg⟩,(by and_intros <;> first|trivial|rfl|(rw[j5 (by omega) (by omega)];first|rfl|omega))⟩⟩,?_⟩
     ·obtain⟨g1,g2,g3⟩:=b8A ha1 hp hg he;exact λ_=>⟨⟨g1,g2⟩,_,⟨h0,g3⟩,(by and_intros <;> first|trivial|rfl|(rw[j5 (by omega) (by omega)];first|rfl|omega))⟩
     rintro p2 ⟨_,hp2⟩;obtain⟨A,x2,B2,x',hm⟩:=a9q ha1 hp2;obtain⟨d1,d2,d3,d4,d5,d6⟩:=a8M hm;obtain⟨r1,r2,r3,r4⟩:=d3.facts;have d7:=d5.S;have hx6:m8 (p2.q.F x'.b 0)=(x'.n:Nat):=by rw[d6];rfl
     have hnn:p2.q.F k.b 0=.int .i64 (k.n:Nat):=by
      rw[hm.nod.n,hm.ks.n];simp
     have hnn2:m8 (p2.q.F k.b 0)=(k.n:Nat):=by rw[hnn];rfl
     have hp3:inE q rb rc (kb (q.F rb rc)) ib ic h p2:=by rw[hkb];exact hp2
     simp only[r3,r4,d4,hx6,hnn2,Int.toNat_natCast];refine⟨⟨d1,by omega⟩,⟨r1,r2⟩,⟨d5.D,by omega,by rw[d6];rfl⟩,λhc=>?_,λhc=>?_⟩
     ·have hc:x'.n=17:=by
       have:((x'.n:Nat):Int)=17:=by simpa using hc
       omega
      refine λq3=>⟨⟨d1,by omega,by rw[hnn];rfl⟩,⟨by omega,by omega⟩,a6Q ha1 hm hc,λhs=>?_⟩
      obtain⟨e1,e2,e3,e4,e5⟩:=a7S ha1 hm hc hs;have e6:m8 (q3.F k.b 0)=(k.n:Nat):=by rw[e3];rfl
      have hw2:IntKind.i64.wrap (((k.n:Nat):Int)+1)=((k.n+1:Nat):Int):=by rw[j5 (by omega) (by omega)];rfl
      simp only[e6,hw2];refine⟨⟨e1,by omega,by rw[e3];rfl⟩,⟨e1,by omega⟩,⟨(⟨q3.D,q3.S,j0 q3.F k.b 0 (.int .i64 (k.n+1:Nat))⟩,p2.g),?_,rfl,rfl⟩⟩;have:=b2O (rb:=rb) (rc:=rc) (n:=k.n) (q3:=q3) hp3 (by rw[hkb,d4,hx6,hc];rfl) (by rw[hkb];exact hnn) (by rw[hkb];exact hs);rw[hkb]at this;exact this
     ·have hc:x'.n≠17:=λe=>by rw[e]at hc;exact absurd hc (by decide)
      refine⟨(p2.q,p2.g),?_,rfl,rfl⟩;exact b4Z hp3 (by rw[hkb,d4,hx6];intro e;apply hc;have e:((x'.n:Nat):Int)=17:=e;omega)
  ·trivial
 ·trivial
theorem b6c:u6 Tryz.prog 127 (l9 (RM×Bool) ⟨default⟩ (a6F 0)):=by
 refine a1H x0 Tryz.func127 rfl (by kernel_rfl) λargs=>?_
 unfold a6F;split
 ·rename_i n rb rc n1 ib ic hh;intro o0;try dsimp only
  split
  ·intro ho;exfalso;obtain⟨_,⟨h1,h2,_⟩,_⟩:=ho;omega
  ·trivial
 ·trivial
theorem b3K:∀ H,u6 Tryz.prog 127 (l9 (RM×Bool) ⟨default⟩ (a6F H))
 | 0=>b6c
 | H+1=>d0f H (b3K H)
structure rtA (q:RM) (tb tc h:Nat) (k:Kid):Prop where
 D:q.D tb
 S:tc+8<=q.S tb
 hgt:q.F tb tc=.int .i64 (h:Nat)
 ref:q.F tb (tc+1)=.iface 207 (.pointer (some ⟨k.b,0,none⟩))
 box:isBox q.F tb (tc+1) k.B
 tr:isTr q h k
 nd:k.fp.Nodup
 tfp:tb∉k.fp
def isRT(q:RM)(tb tc:Nat)(fp:List Nat)(its:List (Int×Bx)):Prop :=
 (its=[]/\fp=[]/\q.D tb/\tc+8<=q.S tb/\q.F tb tc=.int .i64 (0:Nat)/\q.F tb (tc+1)=.nilIface/\q.F tb (tc+6)=.int .i64 (0:Nat))∨
 ∃ h k,rtA q tb tc h k/\(1<=k.n/\k.n<=16)/\fp=k.fp/\k.its.Perm its/\h<=its.length/\q.F tb (tc+6)=.int .i64 (its.length:Nat)
structure itA (q:RM) (ib ic:Nat) (it:Int×Bx):Prop where
 D:q.D ib
 S:ic+5<=q.S ib
 v:q.F ib ic=.iface 3 (.int .i64 it.1)
 bx:isBox q.F ib ic it.2
structure a4w (q:RM) (tb tc ib ic:Nat) (fp:List Nat) (its:List (Int×Bx)) (it:Int×Bx):Prop where
 t:isRT q tb tc fp its
 i:itA q ib ic it
 ifp:ib∉fp
 ne:ib≠tb
 le:its.length<=100
def rt2(tb tc ib ic:Nat)(q1:RM)(its:List (Int×Bx))(it:Int×Bx):Prop :=
 ∃ h k,K0 q1 tb (tc+1) ib ic h k it/\q1.F tb tc=.int .i64 (h:Nat)/\tc+8<=q1.S tb/\k.its.Perm its/\h<=its.length/\q1.F tb (tc+6)=.int .i64 (its.length:Nat)/\its.length<=100/\ib≠tb
def rt5(tb tc:Nat)(q3:RM)(its:List (Int×Bx))(it:Int×Bx):Prop :=
 ∃ h k,rtA q3 tb tc h k/\(1<=k.n/\k.n<=17)/\k.its.Perm (its++[it])/\h<=its.length/\q3.F tb (tc+6)=.int .i64 (its.length:Nat)/\its.length<=100
def b2W(tb tc:Nat)(q3:RM)(its:List (Int×Bx))(it:Int×Bx):Prop :=
 ∃ h k,rtA q3 tb tc h k/\(1<=k.n/\k.n<=16)/\k.its.Perm (its++[it])/\h<=its.length+1/\q3.F tb (tc+6)=.int .i64 (its.length:Nat)/\its.length<=100
def Y9(q:RM)(tb tc ib ic:Nat)(P:List (Int×Bx)->Int×Bx->Prop):Prop:=∀ fp its it,a4w q tb tc ib ic fp its it->P its it
def rtO(q:RM)(tb tc ib ic:Nat):Prop:=∃ fp its it,a4w q tb tc ib ic fp its it
def rtP(q:RM)(tb tc ib ic:Nat)(q':RM):Prop:=Y9 q tb tc ib ic λits it=>∃ fp',isRT q' tb tc fp' (its++[it])
section
variable {q:RM} {tb tc ib ic:Nat} {fp:List Nat} {its:List (Int×Bx)} {it:Int×Bx}
theorem a8F(h:a4w q tb tc ib ic fp its it):q.D tb/\tc+8<=q.S tb/\a7Y (q.F tb (tc+1))/\okR q ib ic:=by
 have hi:=h.i;rcases h.t with⟨_,_,h1,h2,_,h4,_⟩|⟨_,k,ha,_⟩
 ·exact⟨h1,h2, .inl h4,okR.mk' hi.D hi.S hi.bx⟩
 ·exact⟨ha.D,ha.S, .inr ⟨_,_,ha.ref⟩,okR.mk' hi.D hi.S hi.bx⟩
def H9(q:RM)(b:Nat):RM:=⟨I2 q.D b,A8 q.S b 86,A3 q.F b (rz tys 210)⟩
theorem a1y{b c:Nat}(hb:¬q.D b)(hc:q.D c):(H9 q b).D c/\(H9 q b).S c=q.S c/\∀ k,(H9 q b).F c k=q.F c k:=by
 have hne:c≠b:=λe=>hb (e▸hc)
 refine⟨.inr hc,?_,λk=>?_⟩
 ·show A8 q.S b 86 c=_;simp only[A8];rw[if_neg hne]
 ·show A3 q.F b _ c k=_;simp only[A3];rw[if_neg hne]
theorem b1F(b:Nat):(H9 q b).D b/\(H9 q b).S b=86/\(H9 q b).F b 0=.int .i64 (0:Nat):=by
 refine⟨.inl rfl,?_,?_⟩
 ·show A8 q.S b 86 b=_;simp[A8]
 ·show A3 q.F b _ b 0=_;simp only[A3,if_true];exact c3k
theorem c5d{b:Nat}(h:a4w q tb tc ib ic fp its it)(hb:¬q.D b):a6U (H9 q b) ib (ic+1) 2 ib (ic+3) 2 tb (tc+1):=by
 have hi:=h.i;obtain⟨d1,d2,d3⟩:=a1y hb hi.D;obtain⟨r1,r2,_,_⟩:=a8F h;obtain⟨t1,t2,t3⟩:=a1y hb r1;have hS:=hi.S;have hbx:isBox (H9 q b).F ib ic it.2:=A4 (λk _=>d3 _) hi.bx;exact⟨⟨rfl,rfl⟩,a2F.mk' d1 (by rw[d2];omega) hbx.1 hbx.2.1,a2F.mk' d1 (by rw[d2];omega) hbx.2.2.1 hbx.2.2.2,⟨h.ne,h.ne⟩,t1,by rw[t2];omega⟩
theorem c1p(b:Nat)(h:a4w q tb tc ib ic fp its it):a6U ⟨I2 q.D b,H4 q.D q.S b 86,G1 q.D q.F b (rz tys 210)⟩ ib (ic+1) 2 ib (ic+3) 2 tb (tc+1):=by
 have hi:=h.i;obtain⟨r1,r2,_,_⟩:=a8F h;have hS:=hi.S;have hbx:isBox (G1 q.D q.F b (rz tys 210)) ib ic it.2:=A4 (λk _=>by rw[b5v hi.D]) hi.bx;refine⟨⟨rfl,rfl⟩,a2F.mk' (.inr hi.D) ?_ hbx.1 hbx.2.1,a2F.mk' (.inr hi.D) ?_ hbx.2.2.1 hbx.2.2.2,⟨h.ne,h.ne⟩, .inr r1,?_⟩
 ·show ic+1+2<=H4 q.D q.S b 86 ib;rw[a3E hi.D];omega
 ·show ic+3+2<=H4 q.D q.S b 86 ib;rw[a3E hi.D];omega
 ·show tc+1+5<=H4 q.D q.S b 86 tb;rw[a3E r1];omega
theorem b8f{b:Nat}(h:a4w q tb tc ib ic fp its it)(hb:¬q.D b)(hn:O1 (q.F tb (tc+1))=true):rt2 tb tc ib ic (Y4 (H9 q b) ib (ic+1) ib (ic+3) tb (tc+1) (.iface 207 (.pointer (some ⟨b,0,none⟩)))) its it:=by
 have hf:=c5d h hb;obtain⟨⟨g1,g2,g3⟩,gb,gv⟩:=a9Z (v:=.iface 207 (.pointer (some ⟨b,0,none⟩))) hf;have hi:=h.i;obtain⟨i1,i2,i3⟩:=a1y hb hi.D;have hbx:isBox (H9 q b).F ib ic it.2:=A4 (λk _=>i3 _) hi.bx;have hit:∀ k,(Y4 (H9 q b) ib (ic+1) ib (ic+3) tb (tc+1) (.iface 207 (.pointer (some ⟨b,0,none⟩)))).F ib k=q.F ib k:=λk=>(g3 ib k (λe=>h.ne e.1)).trans (i3 k)
 rcases h.t with⟨rfl,rfl,t1,t2,t3,t4,t5⟩|⟨_,k,ha,_⟩
 ·have htb:tb≠b:=λe=>hb (e▸t1)
  have hib:ib≠b:=λe=>hb (e▸hi.D)
  obtain⟨n1,n2,n3⟩:=b1F (q:=q) b;obtain⟨o1,o2,o3⟩:=a1y hb t1;have e4:(⟨zI ((H9 q b).F ib (ic+1)),zI ((H9 q b).F ib (ic+1+1)),zI ((H9 q b).F ib (ic+3)),zI ((H9 q b).F ib (ic+3+1))⟩:Bx)=it.2:=hbx.bxOf;rw[e4]at gb;have hS:=hi.S
  refine⟨0,⟨b,[b],[],it.2,0⟩,⟨by rw[g1];exact o1,by rw[g2,o2];omega,gv,gb,⟨rfl,rfl,⟨by rw[g1];exact n1,by rw[g2];exact n2,?_,by simp,by simp,by simp,by simp⟩,λa ha=>by simp at ha,λhne=>absurd rfl hne⟩,by simp,by simp,λ_=>⟨rfl,rfl⟩,by simpa using htb,by rw[g1];exact i1,by rw[g2,i2];exact hS,?_,A4 (λk _=>hit _) hi.bx,by simpa using hib⟩,?_,by rw[g2,o2];exact t2,List.Perm.refl _,Nat.le_refl _,?_,by simp,h.ne⟩
  ·rw[g3 b 0 (λe=>htb e.1.symm)];exact n3
  ·rw[hit];exact hi.v
  ·rw[g3 tb tc (λe=>by unfold fW at e;omega),o3];exact t3
  ·rw[g3 tb (tc+6) (λe=>by unfold fW at e;omega),o3];exact t5
 ·rw[ha.ref]at hn;exact absurd hn (λe=>nomatch e)
theorem c1s(h:a4w q tb tc ib ic fp its it)(hn:O1 (q.F tb (tc+1))=false):rt2 tb tc ib ic q its it:=by
 have hi:=h.i;rcases h.t with⟨_,_,_,_,_,t4,_⟩|⟨h',k,ha,hk,rfl,hp,hh,hc⟩
 ·rw[t4]at hn;exact absurd hn (λe=>nomatch e)
 ·have hS:=ha.S;exact⟨h',k,⟨ha.D,by omega,ha.ref,ha.box,ha.tr,ha.nd,hk.2,λe=>by omega,ha.tfp,hi.D,hi.S,hi.v,hi.bx,h.ifp⟩,ha.hgt,hS,hp,hh,hc,h.le,h.ne⟩
theorem b1K{q1 q2:RM}{g:Bool}{hh:Nat}(h:rt2 tb tc ib ic q1 its it)(hhv:q1.F tb tc=.int .i64 (hh:Nat))(hP:a5Y q1 tb (tc+1) ib ic hh q2 g) :
  okR q2 tb (tc+1)/\okR q2 ib ic/\ib≠tb/\(g=false->rt5 tb tc q2 its it)/\∀ q3,exI q2 tb (tc+1) ib ic 2 2 q3->g=true->rt5 tb tc q3 its it:=by
 obtain⟨h',k,ha,h1,h2,h3,h4,h5,h6,hne⟩:=h
 have:hh=h':=by
  rw[h1]at hhv;simp only[Value.int.injEq,true_and,Int.natCast_inj]at hhv;exact hhv.symm
 subst this;obtain⟨hg,hf,k',k1,k2,k3,k4,k5,k6,k7,k8⟩:=hP k it ha;have htb:∀ c,q2.F tb c=q1.F tb c:=λc=>hf.2 _ _ ha.D ha.rfp
 have hib:∀ c,q2.F ib c=q1.F ib c:=λc=>hf.2 _ _ ha.iD ha.ifp
 have d1:=hf.1 _ ha.D;have d2:=hf.1 _ ha.iD;have hB:isBox q2.F tb (tc+1) k.B:=A4 (λk _=>htb _) ha.box;have hI:isBox q2.F ib ic it.2:=A4 (λk _=>hib _) ha.ibx
 have htk:tb∉k'.fp:=λe=>by
  rcases k6 _ e with e|e
  ·exact ha.rfp e
  ·exact e ha.D
 have hperm:k'.its.Perm (its++[it]):=k7.trans (List.Perm.append_right _ h3);refine⟨okR.mk' d1.1 (by rw[d1.2];exact ha.S) hB,okR.mk' d2.1 (by rw[d2.2];exact ha.iS) hI,hne,λhgf=>?_,λq3 he hgt=>?_⟩
 ·have hin:A6 k.B it.2:=by
   rw[hgf]at hg;by_cases c:A6 k.B it.2
   ·exact c
   ·simp[c]at hg
  have hkB:k'.B=k.B:=by rw[k8,a7U _ _ hin]
  exact⟨hh,k',⟨d1.1,by rw[d1.2];exact h2,by rw[htb];exact h1,by rw[htb,k1];exact ha.ref,by rw[hkB];exact hB,k4,k5,htk⟩,⟨k3,k2⟩,hperm,h4,by rw[htb];exact h5,h6⟩
 ·obtain⟨⟨s1,s2,s3⟩,hb⟩:=he;rw[a3Q,hB.bxOf,hI.bxOf]at hb;have hoff:∀ b c,b≠tb->q3.F b c=q2.F b c:=λb c hb=>s3 b c (by unfold rW;omega)
  refine⟨hh,k',⟨by rw[s1];exact d1.1,by rw[s2,d1.2];exact h2,by rw[s3 _ _ (by unfold rW;omega),htb];exact h1,by rw[s3 _ _ (by unfold rW;omega),htb,k1];exact ha.ref,by rw[k8];exact hb,
   k4.same λb hbm=>⟨by rw[s1];exact k4.D b hbm,by rw[s2],λc=>hoff b c λe=>htk (e▸hbm)⟩,k5,htk⟩,⟨k3,k2⟩,hperm,h4,by rw[s3 _ _ (by unfold rW;omega),htb];exact h5,h6⟩
theorem a6I{q3:RM}{h:Nat}{k:Kid}(ha:rtA q3 tb tc h k):isRef (q3.F tb (tc+1))/\kb (q3.F tb (tc+1))=k.b/\C5 q3 k.b (w7 q3 k.b)/\q3.F k.b 0=.int .i64 (k.n:Nat)/\(w7 q3 k.b).length=k.n/\F3 k.B ((w7 q3 k.b).map (·.B))/\k.b≠tb:=by
 obtain⟨l,n1,n2,n3⟩:=ha.tr.nd;refine⟨by rw[ha.ref];rfl,by rw[ha.ref];rfl,by rw[n1.of];exact n1,by rw[n1.n,n2],by rw[n1.of];exact n2,by rw[n1.of];exact n3,λe=>ha.tfp (e▸ha.tr.fp0)⟩
theorem c1A{q3:RM}(h:rt5 tb tc q3 its it)(hn:m8 (q3.F (kb (q3.F tb (tc+1))) 0)≠17):b2W tb tc q3 its it:=by
 obtain⟨h',k,ha,h1,h2,h3,h4,h5⟩:=h;obtain⟨c1,c2,c3,c4,_⟩:=a6I ha;rw[c2,c4]at hn;have:k.n≠17:=λe=>hn (by rw[e];rfl)
 exact⟨h',k,ha,⟨h1.1,by omega⟩,h2,by omega,h4,h5⟩
theorem b7M{q3:RM}{h b:Nat}{k:Kid}(ha:rtA q3 tb tc h k)(hn:k.n=17)(hb:¬q3.D b):spO (H9 q3 b) tb (tc+1) b 6:=by
 obtain⟨c1,c2,c3,c4,c5,c6,c7⟩:=a6I ha;obtain⟨o1,o2,o3⟩:=a1y hb ha.D;obtain⟨m1,m2,m3⟩:=a1y hb c3.D;obtain⟨n1,n2,n3⟩:=b1F (q:=q3) b;have hS:=ha.S;have hbx:isBox (H9 q3 b).F tb (tc+1) k.B:=A4 (λk _=>o3 _) ha.box;have hnd:C5 (H9 q3 b) k.b (w7 q3 k.b):=c3.same m1 m2 m3;have hkb:kb ((H9 q3 b).F tb (tc+1))=k.b:=by rw[o3];exact c2
 have htb:tb≠b:=λe=>hb (e▸ha.D)
 have hkbb:k.b≠b:=λe=>hb (e▸c3.D)
 refine⟨⟨o1,by rw[o2];omega,by rw[o3];exact c1,by rw[hkb];exact c7,by rw[hkb,hnd.of];exact hnd⟩,okR.mk' o1 (by rw[o2];omega) hbx,by rw[hkb,hnd.of,hbx.bxOf];exact c6,by rw[hkb,hnd.of,c5];exact hn,⟨n1,by rw[n2];decide⟩,by rw[hkb];exact Ne.symm hkbb, .inl htb⟩
def D5(q4:RM)(tb tc b:Nat):RM:=⟨q4.D,q4.S,j0 (j0 (cp5 q4.F b 1 q4.F tb (tc+1)) b 0 (.int .i64 2)) tb (tc+1) (.iface 207 (.pointer (some ⟨b,0,none⟩)))⟩
theorem b1e{q3:RM}{h b:Nat}{k:Kid}(ha:rtA q3 tb tc h k)(hn:k.n=17)(hb:¬q3.D b){q4:RM}(hs:spP (H9 q3 b) tb (tc+1) b 6 q4) :
  (q4.D tb/\q4.S tb=q3.S tb/\q4.D b/\q4.S b=86/\∀ c,c<5->(q4.F tb (tc+1+c)).oneCell'=true)/\hangs (D5 q4 tb tc b) tb (tc+1)/\kb ((D5 q4 tb tc b).F tb (tc+1))=b/\w7 (D5 q4 tb tc b) b≠[]/\
  ∀ q6,rcP (D5 q4 tb tc b) tb (tc+1) b (w7 (D5 q4 tb tc b) b).length q6->q6.D tb/\q6.S tb=q3.S tb/\q6.F tb tc=q3.F tb tc/\q6.F tb (tc+6)=q3.F tb (tc+6)/\
   ∃ k':Kid,rtA ⟨q6.D,q6.S,j0 q6.F tb tc (.int .i64 (h+1:Nat))⟩ tb tc (h+1) k'/\k'.n=2/\k'.its.Perm k.its:=by
 have hO:=b7M ha hn hb;obtain⟨c1,c2,c3,c4,c5,c6,c7⟩:=a6I ha;obtain⟨o1,o2,o3⟩:=a1y hb ha.D;obtain⟨n1,n2,n3⟩:=b1F (q:=q3) b;have hS:=ha.S;have hkb0:kb ((H9 q3 b).F tb (tc+1))=k.b:=by rw[o3];exact c2
 obtain⟨b2,L,R,B1,B2,s1,s2,s3,s4,s5,s6,s7,s8,s9,s10,s11,s12⟩:=hs;rw[hkb0]at s2 s5 s12;have htb:tb≠b:=λe=>hb (e▸ha.D)
 have hkbb:k.b≠b:=λe=>hb (e▸c3.D)
 have hb2b:b2≠b:=λe=>s1 (e▸n1)
 have hb2t:b2≠tb:=λe=>s1 (e▸o1)
 have e1:∀ c,c<5∨True->¬rW tb (tc+1) tb c->q4.F tb c=q3.F tb c:=λc _ hw=>(s12.2 tb c o1 (Ne.symm c7) (λe=>by rcases e with e|e;exact htb e.1;exact hw e)).trans (o3 c)
 have eref:q4.F tb (tc+1)=.iface 207 (.pointer (some ⟨k.b,0,none⟩)):=(e1 _ (.inr trivial) (by unfold rW;omega)).trans ha.ref
 have m5:∀ c k',c≠b->c≠tb->(D5 q4 tb tc b).F c k'=q4.F c k':=λc k' h1 h2=>by
  show j0 _ _ _ _ _ _=_;rw[b8 (.inl h2),b8 (.inl h1),M7 (.inl h1)]
 have mb:∀ c,(D5 q4 tb tc b).F b c=j0 (cp5 q4.F b 1 q4.F tb (tc+1)) b 0 (.int .i64 2) b c:=λc=>b8 (.inl (Ne.symm htb))
 have mt:∀ c,c≠tc+1->(D5 q4 tb tc b).F tb c=q4.F tb c:=λc hc=>by
  show j0 _ _ _ _ _ _=_;rw[b8 (.inr hc),b8 (.inl htb),M7 (.inl htb)]
 have mt1:(D5 q4 tb tc b).F tb (tc+1)=.iface 207 (.pointer (some ⟨b,0,none⟩)):=v9;have d1:=s12.1 tb o1;have d2:=s12.1 b n1;have hnq:isTr (H9 q3 b) h k:=ha.tr.same λc hc=>a1y hb (ha.tr.D c hc)
 have hfb:∀ c∈k.fp,c≠b/\c≠tb:=λc hc=>⟨λe=>hb (e▸ha.tr.D c hc),λe=>ha.tfp (e▸hc)⟩
 have hlen17:(w7 (H9 q3 b) k.b).length<=17:=by
  have:=hO.2.2.2.1;rw[hkb0]at this;omega
 obtain⟨x1,x2,f1,f2,f3,f4,f5,f6,f7,f8,f9,f10⟩:=hnq.split (q':=D5 q4 tb tc b) (b2:=b2) ha.nd s2 s3 s4 hlen17 (s5.same s5.D rfl λc=>m5 _ _ hkbb c7) (s6.same s6.D rfl λc=>m5 _ _ hb2b hb2t) s9 s11 λc hc hne=>by
  have hD:=hnq.D c hc;obtain⟨g1,g2⟩:=hfb c hc;refine⟨(s12.1 c hD).1,(s12.1 c hD).2,λk'=>(m5 c k' g1 g2).trans (s12.2 c k' hD hne λe=>?_)⟩;rcases e with e|e
  ·exact g1 e.1
  ·exact g2 e.1
 have node:C5 (D5 q4 tb tc b) b [B4 x1,B4 x2]:=by
  have i0:∀ c,c<5->(D5 q4 tb tc b).F b (1+c)=q4.F tb (tc+1+c):=λc hc=>by
   rw[mb,b8 (by omega)];exact b2T hc
  have i1:∀ c,c<5->(D5 q4 tb tc b).F b (6+c)=q4.F b (6+c):=λc hc=>by
   rw[mb,b8 (by omega),M7 (by omega)]
  refine⟨d2.1,d2.2.trans n2,?_,by simp,λj e hj=>?_,λj e hj=>?_,λj e hj=>?_⟩
  ·rw[mb];exact v9
  ·match j,hj with
   | 0,hj =>
    simp at hj;subst hj;have:=i0 0 (by omega);simp only[Nat.add_zero]at this;refine this.trans ?_;rw[eref];unfold B4;rw[f1]
   | 1,hj =>
    simp at hj;subst hj;have:=i1 0 (by omega);simp only[Nat.add_zero]at this;refine this.trans ?_;rw[s7];unfold B4;rw[f2]
   | j+2,hj=>simp at hj
  ·match j,hj with
   | 0,hj=>simp at hj;subst hj;rfl
   | 1,hj=>simp at hj;subst hj;rfl
   | j+2,hj=>simp at hj
  ·match j,hj with
   | 0,hj =>
    simp at hj;subst hj;show isBox _ _ _ x1.B;rw[f5];exact A4 i0 s8
   | 1,hj =>
    simp at hj;subst hj;show isBox _ _ _ x2.B;rw[f6];exact A4 i1 s10
   | j+2,hj=>simp at hj
 have hkb1:kb ((D5 q4 tb tc b).F tb (tc+1))=b:=by rw[mt1];rfl
 refine⟨⟨d1.1,d1.2.trans o2,d2.1,d2.2.trans n2,λc hc=>?_⟩,⟨d1.1,by show tc+1+5<=q4.S tb;rw[d1.2,o2];omega,by rw[mt1];rfl,by rw[hkb1];exact Ne.symm htb,by rw[hkb1,node.of];exact node⟩,hkb1,by rw[node.of];simp,λq6 hq6=>?_⟩
 ·match c,hc with
  | 0,_=>rw[Nat.add_zero,eref];rfl
  | 1,_=>rw[s8.1.1];rfl
  | 2,_=>rw[s8.2.1.1];rfl
  | 3,_=>rw[s8.2.2.1.1];rfl
  | 4,_=>rw[s8.2.2.2.1];rfl
 ·rw[node.of]at hq6;obtain⟨⟨g1,g2,g3⟩,B,g4,g5⟩:=hq6;rw[node.of,List.take_length]at g5;have hb2k:∀ c∈x1.fp++x2.fp,c=b2∨c∈k.fp:=λc hc=>by simpa using f10.mem_iff.1 hc
  have hxt:∀ c∈x1.fp++x2.fp,c≠tb/\c≠b:=λc hc=>by
   rcases hb2k c hc with rfl|hc
   ·exact⟨hb2t,hb2b⟩
   ·exact⟨(hfb c hc).2,(hfb c hc).1⟩
  have q7o:∀ c k',c≠tb->j0 q6.F tb tc (.int .i64 (h+1:Nat)) c k'=(D5 q4 tb tc b).F c k':=λc k' hc=>by
   rw[b8 (.inl hc),g3 c k' (by unfold rW;omega)]
  have tsame:∀ x:Kid,isTr (D5 q4 tb tc b) h x->(∀ c∈x.fp,c∈x1.fp++x2.fp)->isTr ⟨q6.D,q6.S,j0 q6.F tb tc (.int .i64 (h+1:Nat))⟩ h x:=λx hx hin =>
   hx.same λc hc=>⟨by show q6.D c;rw[g1];exact hx.D c hc,by show q6.S c=_;rw[g2],λk'=>q7o c k' (hxt c (hin c hc)).1⟩
  have hndn:(x1.fp++x2.fp).Nodup:=f10.nodup_iff.2 (List.nodup_cons.2 ⟨λe=>s1 (hnq.D _ e),ha.nd⟩);refine⟨by rw[g1];exact d1.1,by rw[g2];exact d1.2.trans o2,?_,?_,⟨b,b :: [x1,x2].flatMap (·.fp),[x1,x2].flatMap (·.its),B,2⟩,⟨by show q6.D tb;rw[g1];exact d1.1,by show tc+8<=q6.S tb;rw[g2];show tc+8<=q4.S tb;rw[d1.2,o2];exact hS,v9,?_,?_,⟨[x1,x2],rfl,Nat.le_succ 1,rfl,rfl,?_,g5,?_⟩,?_,?_⟩,rfl,?_⟩
  ·rw[g3 _ _ (by unfold rW;omega),mt _ (by omega)];exact e1 _ (.inr trivial) (by unfold rW;omega)
  ·rw[g3 _ _ (by unfold rW;omega),mt _ (by omega)];exact e1 _ (.inr trivial) (by unfold rW;omega)
  ·show j0 q6.F tb tc _ tb (tc+1)=_;rw[b8 (by omega),g3 _ _ (by unfold rW;omega)];exact mt1
  ·exact A4 (λc hc=>by show j0 q6.F tb tc _ tb _=_;rw[b8 (by omega)]) g4
  ·exact node.same (by show q6.D b;rw[g1];exact node.D) (by show q6.S b=_;rw[g2]) λc=>q7o _ _ (Ne.symm htb)
  ·intro x hx;simp at hx;rcases hx with rfl|rfl
   ·exact⟨tsame _ f7 λc hc=>by simp[hc],f3⟩
   ·exact⟨tsame _ f8 λc hc=>by simp[hc],f4⟩
  ·show (b :: [x1,x2].flatMap (·.fp)).Nodup;simp only[List.flatMap_cons,List.flatMap_nil,List.append_nil];exact List.nodup_cons.2 ⟨λe=>(hxt b e).2 rfl,hndn⟩
  ·show tb∉b :: [x1,x2].flatMap (·.fp);simp only[List.flatMap_cons,List.flatMap_nil,List.append_nil,List.mem_cons,not_or];exact⟨htb,λe=>(hxt tb e).1 rfl⟩
  ·show ([x1,x2].flatMap (·.its)).Perm k.its;simp only[List.flatMap_cons,List.flatMap_nil,List.append_nil];exact f9
theorem c4X{q3:RM}{b:Nat}(h:rt5 tb tc q3 its it){h3:Nat}(hh:q3.F tb tc=.int .i64 (h3:Nat))(hn:m8 (q3.F (kb (q3.F tb (tc+1))) 0)=17)(hb:¬q3.D b){q4:RM}(hs:spP (H9 q3 b) tb (tc+1) b 6 q4)
  {q6:RM} (hq:rcP (D5 q4 tb tc b) tb (tc+1) b (w7 (D5 q4 tb tc b) b).length q6):b2W tb tc ⟨q6.D,q6.S,j0 q6.F tb tc (.int .i64 (h3+1:Nat))⟩ its it:=by
 obtain⟨h',k,ha,h1,h2,h3',h4,h5⟩:=h
 have e:h3=h':=by
  rw[ha.hgt]at hh;simp only[Value.int.injEq,true_and,Int.natCast_inj]at hh;exact hh.symm
 subst e;obtain⟨c1,c2,c3,c4,_⟩:=a6I ha;rw[c2,c4]at hn
 have hk:k.n=17:=by
  have:((k.n:Nat):Int)=17:=hn;omega
 obtain⟨_,_,_,_,s9⟩:=b1e ha hk hb hs;obtain⟨t1,t2,t3,t4,k',ha',kn,kp⟩:=s9 q6 hq;refine⟨h3+1,k',ha',by omega,kp.trans h2,by omega,?_,h5⟩;show j0 q6.F tb tc _ tb (tc+6)=_;rw[b8 (by omega),t4];exact h4
theorem b9D{q3:RM}(h:b2W tb tc q3 its it):q3.D tb/\tc+8<=q3.S tb/\q3.F tb (tc+6)=.int .i64 (its.length:Nat)/\its.length<=100/\
  ∃ fp',isRT ⟨q3.D,q3.S,j0 q3.F tb (tc+6) (.int .i64 (its.length+1:Nat))⟩ tb tc fp' (its++[it]):=by
 obtain⟨h',k,ha,h1,h2,h3,h4,h5⟩:=h;have off:∀ c,c≠tc+6->j0 q3.F tb (tc+6) (.int .i64 (its.length+1:Nat)) tb c=q3.F tb c:=λc hc=>b8 (.inr hc)
 refine⟨ha.D,ha.S,h4,h5,k.fp, .inr ⟨h',k,⟨ha.D,ha.S,(off _ (by omega)).trans ha.hgt,(off _ (by omega)).trans ha.ref,A4 (λc hc=>off _ (by omega)) ha.box,
  ha.tr.same λb hb=>⟨ha.tr.D b hb,rfl,λc=>b8 (.inl λe=>ha.tfp (e▸hb))⟩,ha.nd,ha.tfp⟩,h1,rfl,h2,by simp;exact h3,?_⟩⟩
 show j0 q3.F tb (tc+6) _ tb (tc+6)=_;rw[v9];simp
end
noncomputable def GF:Ctx:=⟨⟨tys,[]⟩,[(119,a1f (l9 Unit ⟨()⟩ a9l) ())]⟩
theorem gF:v8 Tryz.prog GF:=⟨⟨z6,FlatsOk.nil⟩,g8.cons c3Y g8.nil,by kernel_rfl⟩
noncomputable def X4:D7:=⟨GF,[(127,l9 (RM×Bool) ⟨default⟩ (a6F 200)),(128,l9 RM ⟨default⟩ a6j),(129,l9 RM ⟨default⟩ a5b),(130,l9 RM ⟨default⟩ a8R)],[(210,0)],[],[]⟩
theorem x4:y9 Tryz.prog X4:=⟨gF,q8.cons (b3K 200) (q8.cons b8Z (q8.cons b9y (q8.cons c3m q8.nil)))⟩
def c4l(ts:List Nat)(tb tc ib ic:Nat)(q:RM):St:=⟨95,[(0, .pb 0 tb tc),(1, .pb 0 ib ic)],[(0,rwO ts q)],1⟩
noncomputable def b3l:List SV->RRd (RM)
 | [.pb n tb tc, .pb n1 ib ic]=>.read n λo0=>(match G2 o0 with
  | some (ts,q)=>.ret ⟨[.pb 0 tb tc, .pb 0 ib ic],[(0,rwO ts q)],some (n=n1/\(rtO q tb tc ib ic)),λi=>rtP q tb tc ib ic i,λi=>⟨[],[], .tup [],[(0,rwO ts (i))],[],none⟩⟩
  | none=>.fail)
 | _=>.fail
theorem b8S(R:Option Ob->SV->Prop)(ts:List Nat)(q:RM)(tb tc ib ic:Nat){T1}(t1:T1=λ(i:Nat) (i_1:RM)=>(j0 (j0 (j0 (j0 (j0 (j0 i_1.3 i 1 (i_1.3 tb (tc+1))) i 2 (i_1.3 tb (tc+1+1))) i 3 (i_1.3 tb (tc+1+1+1))) i 4 (i_1.3 tb (tc+1+1+1+1))) i 5 (i_1.3 tb (tc+1+1+1+1+1))) i 0
 (Value.int .i64 (2:Int)))){T2}(t2:T2=λ(i:Nat)=>(Value.iface 207 (Value.pointer (Option.some (Addr.mk i 0 Option.none))))){T3}(t3:T3=((True/\tb=tb/\tc=tc)/\(True/\ib=ib/\ic=ic)/\True)){T4}(t4:T4=(tc+1+0)){T5}(t5:T5=λ(i:Nat)
 (i_1:RM)=>(RM.mk (RM.D i_1) i_1.2 (j0 (T1 i i_1) tb T4 (T2 i)))){T6}(t6:T6=λ(j:RM)=>(I0 (j.3 tb T4))){T7}(t7:T7=(rz tys 210)){T8}(t8:T8=λ(i:Nat) (i_1:RM)=>(kb (j0 (T1 i i_1) tb T4 (T2 i) tb (tc+1)))){T9}(t9:T9=λ(j:RM)
 (i:Nat)=>(RM.mk (I2 (RM.D j) i) (H4 (RM.D j) j.2 i 86) (G1 (RM.D j) j.3 i T7))){T10}(t10:T10=λ(j:RM)=>(j.3 (ptB (T6 j)) (ptC (T6 j)+0))):J7 X4 1 [] [(2,⟨RM,c4l ts tb tc ib ic,λq'=>Y9 q tb tc ib ic (rt2 tb tc ib ic q'),λ_=>0⟩),(5,⟨RM,c4l ts tb tc ib ic,λq'=>Y9 q tb tc ib ic (rt5 tb tc q'),λ_=>0⟩),(13,⟨RM,c4l ts tb tc ib ic,λq'=>Y9 q tb tc ib ic (b2W tb tc q'),λ_=>0⟩)] (j3 Tryz.f120) (q9 Tryz.f120.ntmps [.pb 0 tb tc, .pb 0 ib ic] [(0,rwO ts q)] 1) (r6 X4.G.E.T Tryz.f120.results.toList λS v=>R (Go.Sx.look S.H 0) v)=(
 ((q.1 tb/\tc+1+0<q.2 tb)/\a7Y (q.3 tb T4)/\(O1 (q.3 tb T4)=true->∀(i:Nat),(0=0/\0=0/\0=0/\a6U (RM.mk (I2 (RM.D q) i) (H4 (RM.D q) q.2 i 86) (G1 (RM.D q) q.3 i T7)) ib (ic+1) 2 ib (ic+3) 2 tb (tc+1))/\true
 = true/\(¬q.1 i->∃(pq:RM),Y9 q tb tc ib ic (rt2 tb tc ib ic pq)/\T3/\True/\(0=0/\0=0/\ts=ts/\j0 (j0 (j0 (j0 (j0 (G1 (RM.D q) q.3 i T7) tb (tc+1+1) (G1 (RM.D q) q.3 i T7 ib (ic+1))) tb (tc+1+3) (G1
 (RM.D q) q.3 i T7 ib (ic+3))) tb (tc+1+1+1) (G1 (RM.D q) q.3 i T7 ib (ic+1+1))) tb (tc+1+3+1) (G1 (RM.D q) q.3 i T7 ib (ic+3+1))) tb (tc+1) (T2 i)=pq.3/\H4 (RM.D q) q.2 i 86=pq.2/\RM.D (Y4 (RM.mk (I2 (RM.D
 q) i) (H4 (RM.D q) (RM.S q) i (TI.size b8d)) (G1 (RM.D q) (RM.F q) i (rz (Env.T (Ctx.E (D7.G X4))) 210))) ib (ic+1) ib (ic+3) tb (tc+1) (T2 i))=RM.D pq)/\True))/\(O1 (q.3 tb T4)=false->∃(pq:RM),Y9 q tb tc ib ic (rt2 tb
 tc ib ic pq)/\T3/\True/\(0=0/\0=0/\ts=ts/\q.3=pq.3/\q.2=pq.2/\RM.D q=RM.D pq)/\True))/\∀(j:RM),Y9 q tb tc ib ic (rt2 tb tc ib ic j)->∀(i:RM×Bool),(j.1 tb/\tc+0<j.2 tb/\A1 .i64 (j.3 tb (tc+0)))/\(0=0/\
 ((0:Int)<=m8 (j.3 tb (tc+0))/\m8 (j.3 tb (tc+0))<(200:Int)/\m8 (j.3 tb (tc+0))<(1000:Int))/\b7A (RM.mk (RM.D j) j.2 j.3) tb (tc+1) ib ic (Int.toNat (m8 (j.3 tb (tc+0)))))/\true=true/\(a5Y (RM.mk (RM.D j) j.2 j.3)
 tb (tc+1) ib ic (Int.toNat (m8 (j.3 tb (tc+0)))) (i.1) (i.2)->((i.2=true->∀(i_1:RM),(0=0/\okR (RM.mk (RM.D (i.1)) (i.1).2 (i.1).3) tb (tc+1)/\okR (RM.mk (RM.D (i.1)) (i.1).2 (i.1).3) ib ic/\apart tb (tc+1) ib ic)/\(exI (RM.mk
 (RM.D (i.1)) (i.1).2 (i.1).3) tb (tc+1) ib ic 2 2 i_1->∃(pq:RM),Y9 q tb tc ib ic (rt5 tb tc pq)/\T3/\True/\(0=0/\0=0/\ts=ts/\i_1.3=pq.3/\i_1.2=pq.2/\RM.D i_1=RM.D pq)/\True))/\(i.2=false->∃(pq:RM),Y9 q tb tc
 ib ic (rt5 tb tc pq)/\T3/\True/\(0=0/\0=0/\ts=ts/\(i.1).3=pq.3/\(i.1).2=pq.2/\RM.D (i.1)=RM.D pq)/\True))/\∀(j:RM),Y9 q tb tc ib ic (rt5 tb tc j)->((j.1 tb/\tc+1+0<j.2 tb)/\(a1X 207 (j.3 tb T4)/\a0J (T6 j))/\
 (j.1 (ptB (T6 j))/\ptC (T6 j)+0<j.2 (ptB (T6 j))/\A1 .i64 (T10 j))/\((m8 (T10 j)==(17:Int))=true->∀(i:Nat),¬j.1 i->∀(i_1:RM),((0:Int)<=1/\(1:Int)<17)/\(0=0/\spO (T9 j i) tb (tc+1) i 6)/\true=true/\(spP
 (T9 j i) tb (tc+1) i 6 i_1->(i_1.1 tb/\tc+1+5<=i_1.2 tb)/\((0:Int)<=0/\(0:Int)<17)/\((((((i_1.1 i/\6<=i_1.2 i)/\Value.oneCell' (i_1.3 tb (tc+1))=true)/\Value.oneCell' (i_1.3 tb (tc+1+1))=true)/\Value.oneCell' (i_1.3
 tb (tc+1+1+1))=true)/\Value.oneCell' (i_1.3 tb (tc+1+1+1+1))=true)/\Value.oneCell' (i_1.3 tb (tc+1+1+1+1+1))=true)/\true=true/\(i_1.1 i/\1<=i_1.2 i)/\(i_1.1 tb/\tc+1+0+1<=i_1.2 tb)/\∀(i_2:RM),(hangs
 (T5 i i_1) tb (tc+1)/\w7 (T5 i i_1) (T8 i i_1)≠[])/\(rcP (T5 i i_1) tb (tc+1) (T8 i i_1) (List.length (w7 (T5 i i_1) (T8 i i_1))) i_2->(i_2.1 tb/\tc+0<i_2.2 tb/\A1 .i64 (i_2.3 tb (tc+0)))/\(i_2.1 tb/\tc+0+1<=i_2.2 tb)/\
 ∃(pq:RM),Y9 q tb tc ib ic (b2W tb tc pq)/\T3/\True/\(0=0/\0=0/\ts=ts/\j0 i_2.3 tb (tc+0) (Value.int .i64 (IntKind.wrap .i64 (m8 (i_2.3 tb (tc+0))+(1:Int))))=pq.3/\i_2.2=pq.2/\RM.D i_2=RM.D pq)/\True)))/\
 ((m8 (T10 j)==(17:Int))=false->∃(pq:RM),Y9 q tb tc ib ic (b2W tb tc pq)/\T3/\True/\(0=0/\0=0/\ts=ts/\j.3=pq.3/\j.2=pq.2/\RM.D j=RM.D pq)/\True))/\∀(j:RM),Y9 q tb tc ib ic (b2W tb tc j)->(j.1 tb/\tc+6
 < j.2 tb/\A1 .i64 (j.3 tb (tc+6)))/\(j.1 tb/\tc+6+1<=j.2 tb)/\R (Option.some (Ob.mk true 0 (a9.raw ts (RM.D j) j.2 (j0 j.3 tb (tc+6) (Value.int .i64 (IntKind.wrap .i64 (m8 (j.3 tb (tc+6))+(1:Int)))))) 0)) (SV.tup []))):=by subst t1 t2 t3 t4 t5 t6 t7 t8 t9 t10;kernel_rfl
theorem c5R:u6 Tryz.prog 120 (l9 (RM) ⟨default⟩ b3l):=by
 refine A7 x4 Tryz.func120 rfl (by kernel_rfl) λargs=>?_
 unfold b3l;split
 ·rename_i n tb tc n1 ib ic;intro o0;try dsimp only
  split
  ·rename_i ts q hm0;intro ho;replace ho:n=n1/\(rtO q tb tc ib ic):=ho;obtain⟨heq0,ho⟩:=ho;subst heq0;refine⟨?_,Nat.succ_pos _,ts,λ(i:RM)=>i,λ(i:RM)=>.tup [],λ_=>rfl,?_,_,_,(b8S (G6 1 ts (λ(i:RM)=>rtP q tb tc ib ic i) (λ(i:RM)=>i) (λ(i:RM)=>.tup [])) ts q tb tc ib ic rfl rfl rfl rfl rfl rfl rfl rfl rfl rfl).mpr ?_⟩
   ·refine g9 rfl ⟨λ_=>rfl,?_,⟨trivial,z9 hm0,trivial⟩⟩;simp[j9,o8,o9,p7,nth,a8]
   ·intro i _;rfl
   ·obtain⟨fp,its,it,hpre⟩:=ho;obtain⟨r1,r2,r3,r4⟩:=a8F hpre;simp only[true_and,and_true,eq_self,Int.reduceLE,Int.reduceLT,Int.le_refl];simp only[Nat.add_zero];refine⟨⟨⟨r1,by omega⟩,r3,λhn=>λb=>⟨c1p b hpre,λhb=>?_⟩,λhn=>⟨q,λfp its it h=>c1s h hn,(by and_intros <;> first|trivial|rfl|(rw[j5 (by omega) (by omega)];first|rfl|omega))⟩⟩,?_⟩
    ·simp only[M4 hb,M5 hb];exact⟨Y4 (H9 q b) ib (ic+1) ib (ic+3) tb (tc+1) (.iface 207 (.pointer (some ⟨b,0,none⟩))),λfp its it h=>b8f h hb hn,(by and_intros <;> first|trivial|rfl|(rw[j5 (by omega) (by omega)];first|rfl|omega))⟩
    intro q1 h1;obtain⟨h',k,ha,e1,e2,e3,e4,e5,e6,e7⟩:=h1 _ _ _ hpre;have e8:m8 (q1.F tb tc)=(h':Nat):=by rw[e1];rfl
    simp only[e8,Int.toNat_natCast];intro i;refine⟨⟨ha.D,by omega,by rw[e1];rfl⟩,⟨⟨by omega,by omega,by omega⟩,⟨k,it,ha⟩⟩,λhP=>⟨?_,?_⟩⟩
    ·obtain⟨g1,g2,g3,g4,g5⟩:=b1K (h1 _ _ _ hpre) e1 hP;refine⟨λhg q3=>⟨⟨g1,g2, .inl (Ne.symm g3)⟩,λhe=>⟨q3,λfp its it h=>(b1K (h1 _ _ _ h) e1 hP).2.2.2.2 q3 he hg,(by and_intros <;> first|trivial|rfl|(rw[j5 (by omega) (by omega)];first|rfl|omega))⟩⟩,λhg=>⟨i.1,λfp its it h=>(b1K (h1 _ _ _ h) e1 hP).2.2.2.1 hg,(by and_intros <;> first|trivial|rfl|(rw[j5 (by omega) (by omega)];first|rfl|omega))⟩⟩
    intro q3 h3;obtain⟨h3',k3,ha3,f1,f2,f3,f4,f5⟩:=h3 _ _ _ hpre;obtain⟨c1,c2,c3,c4,c5,c6,c7⟩:=a6I ha3;obtain⟨x1,x2,x3,x4⟩:=c1.facts;have c8:=c3.S;have c9:=ha3.S;have hx:m8 (q3.F k3.b 0)=(k3.n:Nat):=by rw[c4];rfl
    have hkn:m8 (q3.F (kb (q3.F tb (tc+1))) 0)=(k3.n:Nat):=by rw[c2];exact hx
    simp only[x3,x4,c2,hx];refine⟨⟨⟨ha3.D,by omega⟩,⟨x1,x2⟩,⟨c3.D,by omega,by rw[c4];rfl⟩,λhc=>?_,λhc=>?_⟩,?_⟩
    ·have hc17:k3.n=17:=by
      have:((k3.n:Nat):Int)=17:=by simpa using hc
      omega
     refine λb hb q4=>?_
     simp only[M4 hb,M5 hb];refine⟨b7M ha3 hc17 hb,λhs=>?_⟩;obtain⟨⟨s1,s2,s3,s4,s5⟩,s6,s7,s8,s9⟩:=b1e ha3 hc17 hb hs;have o0:=s5 0 (by omega);have o1:=s5 1 (by omega);have o2:=s5 2 (by omega);have o3:=s5 3 (by omega);have o4:=s5 4 (by omega);refine⟨⟨s1,by omega⟩,⟨⟨⟨⟨⟨⟨s3,by omega⟩,o0⟩,o1⟩,o2⟩,o3⟩,o4⟩,⟨s3,by omega⟩,⟨s1,by omega⟩,λq6=>⟨⟨s6,?_⟩,λhq6=>?_⟩⟩
     ·show w7 (D5 q4 tb tc b) (kb ((D5 q4 tb tc b).F tb (tc+1)))≠[];rw[s7];exact s8
     have hq7:rcP (D5 q4 tb tc b) tb (tc+1) (kb ((D5 q4 tb tc b).F tb (tc+1))) (w7 (D5 q4 tb tc b) (kb ((D5 q4 tb tc b).F tb (tc+1)))).length q6:=hq6;rw[s7]at hq7;obtain⟨t1,t2,t3,t4,_⟩:=s9 q6 hq7;have t5:q6.F tb tc=.int .i64 (h3':Nat):=by rw[t3];exact ha3.hgt
     have t6:m8 (q6.F tb tc)=(h3':Nat):=by rw[t5];rfl
     have t7:IntKind.i64.wrap (((h3':Nat):Int)+1)=((h3'+1:Nat):Int):=by rw[j5 (by omega) (by omega)];rfl
     simp only[t6,t7];refine⟨⟨t1,by omega,by rw[t5];rfl⟩,⟨t1,by omega⟩,_,λfp its it h=>c4X (h3 _ _ _ h) ha3.hgt (by rw[hkn,hc17];rfl) hb hs hq7,(by and_intros <;> first|trivial|rfl|(rw[j5 (by omega) (by omega)];first|rfl|omega))⟩
    ·refine⟨q3,λfp its it h=>c1A (h3 _ _ _ h) λe=>?_,(by and_intros <;> first|trivial|rfl|(rw[j5 (by omega) (by omega)];first|rfl|omega))⟩;rw[hkn]at e;have e:((k3.n:Nat):Int)=17:=e;rw[e]at hc;exact absurd hc (by decide)
    intro q5 h5;obtain⟨g1,g2,g3,g4,g5⟩:=b9D (h5 _ _ _ hpre);have g6:m8 (q5.F tb (tc+6))=(its.length:Nat):=by rw[g3];rfl
    have g7:IntKind.i64.wrap (((its.length:Nat):Int)+1)=((its.length+1:Nat):Int):=by rw[j5 (by omega) (by omega)];rfl
    simp only[g6,g7];refine⟨⟨g1,by omega,by rw[g3];rfl⟩,⟨g1,by omega⟩,⟨⟨q5.D,q5.S,j0 q5.F tb (tc+6) (.int .i64 (its.length+1:Nat))⟩,λfp its2 it2 h=>?_,rfl,trivial⟩⟩;obtain⟨_,_,k3,_,k5⟩:=b9D (h5 _ _ _ h)
    have:its2.length=its.length:=by
     rw[g3]at k3;simp only[Value.int.injEq,true_and,Int.natCast_inj]at k3;exact k3.symm
    rw[this]at k5;exact k5
  ·trivial
 ·trivial
theorem isRT.same{q q':RM}{tb tc:Nat}{fp:List Nat}{its:List (Int×Bx)}(h:isRT q tb tc fp its)(hs:∀ c,q.D c->q'.D c/\q'.S c=q.S c/\∀ k,q'.F c k=q.F c k):isRT q' tb tc fp its:=by
 rcases h with⟨h1,h2,h3,h4,h5,h6,h7⟩|⟨h',k,ha,h1,h2,h3,h4,h5⟩
 ·obtain⟨s1,s2,s3⟩:=hs tb h3;exact .inl ⟨h1,h2,s1,by rw[s2];exact h4,by rw[s3];exact h5,by rw[s3];exact h6,by rw[s3];exact h7⟩
 ·obtain⟨s1,s2,s3⟩:=hs tb ha.D;exact .inr ⟨h',k,⟨s1,by rw[s2];exact ha.S,by rw[s3];exact ha.hgt,by rw[s3];exact ha.ref,A4 (λk _=>s3 _) ha.box,ha.tr.same λb hb=>hs b (ha.tr.D b hb),ha.nd,ha.tfp⟩,h1,h2,h3,h4,by rw[s3];exact h5⟩
theorem isRT.D{q:RM}{tb tc:Nat}{fp:List Nat}{its:List (Int×Bx)}(h:isRT q tb tc fp its):q.D tb/\∀ b∈fp,q.D b:=by
 rcases h with⟨h1,h2,h3,h4,h5,h6,h7⟩|⟨h',k,ha,h1,h2,h3,h4,h5⟩
 ·exact⟨h3,by rw[h2];simp⟩
 ·exact⟨ha.D,by rw[h2];exact ha.tr.D⟩
def inP(q:RM)(tb tc mb mc xb xc:Nat)(v:Int)(q':RM):Prop:=∀ fp its,isRT q tb tc fp its->its.length<=100->∃ fp',isRT q' tb tc fp' (its++[(v,⟨zI (q.F mb mc),zI (q.F mb (mc+1)),zI (q.F xb xc),zI (q.F xb (xc+1))⟩)])
def inO(q:RM)(tb tc mb mc l xb xc l1:Nat):Prop:=(l=2/\l1=2)/\a2F q mb mc/\a2F q xb xc/\∃ fp its,isRT q tb tc fp its/\its.length<=100
noncomputable def GFi:Ctx:=⟨⟨tys,[]⟩,[(119,a1f (l9 Unit ⟨()⟩ a9D) ())]⟩
theorem gFi:v8 Tryz.prog GFi:=⟨⟨z6,FlatsOk.nil⟩,g8.cons c4f g8.nil,by kernel_rfl⟩
noncomputable def X5:D7:=⟨GFi,[(120,l9 RM ⟨default⟩ b3l)],[(177,0)],[],[]⟩
theorem x5:y9 Tryz.prog X5:=⟨gFi,q8.cons c5R q8.nil⟩
noncomputable def inM(q:RM)(b mb mc xb xc:Nat)(v:Int):RM:=Y4 ⟨I2 q.D b,A8 q.S b 5,A3 q.F b (rz tys 177)⟩ mb mc xb xc b 0 (.iface 3 (.int .i64 v))
theorem b4s{q:RM}{tb tc mb mc l xb xc l1 b:Nat}(ho:inO q tb tc mb mc l xb xc l1)(hb:¬q.D b):a6U ⟨I2 q.D b,A8 q.S b 5,A3 q.F b (rz tys 177)⟩ mb mc l xb xc l1 b 0:=by
 obtain⟨hl,⟨d1,s1,a0,a1⟩,⟨d2,s2,b0,b1⟩,_⟩:=ho;have n1:mb≠b:=λe=>hb (e▸d1)
 have n2:xb≠b:=λe=>hb (e▸d2)
 have f1:∀ c,A3 q.F b (rz tys 177) mb c=q.F mb c:=λc=>by simp only[A3];rw[if_neg n1]
 have f2:∀ c,A3 q.F b (rz tys 177) xb c=q.F xb c:=λc=>by simp only[A3];rw[if_neg n2]
 refine⟨hl,a2F.mk' (.inr d1) ?_ (by show fz (A3 q.F b _ mb mc) _;rw[f1];exact a0) (by show fz (A3 q.F b _ mb (mc+1)) _;rw[f1];exact a1),a2F.mk' (.inr d2) ?_ (by show fz (A3 q.F b _ xb xc) _;rw[f2];exact b0) (by show fz (A3 q.F b _ xb (xc+1)) _;rw[f2];exact b1),⟨n1,n2⟩, .inl rfl,by simp[A8]⟩
 ·show mc+2<=A8 q.S b 5 mb;simp only[A8];rw[if_neg n1];exact s1
 ·show xc+2<=A8 q.S b 5 xb;simp only[A8];rw[if_neg n2];exact s2
theorem b8x{q:RM}{tb tc mb mc l xb xc l1 b:Nat}{v:Int}(ho:inO q tb tc mb mc l xb xc l1)(hb:¬q.D b){fp:List Nat}{its:List (Int×Bx)}(ht:isRT q tb tc fp its)(hl:its.length<=100) :
  a4w (inM q b mb mc xb xc v) tb tc b 0 fp its (v,⟨zI (q.F mb mc),zI (q.F mb (mc+1)),zI (q.F xb xc),zI (q.F xb (xc+1))⟩):=by
 obtain⟨⟨g1,g2,g3⟩,gb,gv⟩:=a9Z (v:=.iface 3 (.int .i64 v)) (b4s ho hb);obtain⟨_,⟨d1,_⟩,⟨d2,_⟩,_⟩:=ho;have n1:mb≠b:=λe=>hb (e▸d1)
 have n2:xb≠b:=λe=>hb (e▸d2)
 have f1:∀ c,A3 q.F b (rz tys 177) mb c=q.F mb c:=λc=>by simp only[A3];rw[if_neg n1]
 have f2:∀ c,A3 q.F b (rz tys 177) xb c=q.F xb c:=λc=>by simp only[A3];rw[if_neg n2]
 simp only[f1,f2]at gb;refine⟨ht.same λc hc=>?_,⟨by rw[inM,g1];exact .inl rfl,by rw[inM,g2];simp[A8],gv,gb⟩,λe=>hb (ht.D.2 _ e),λe=>hb (e▸ht.D.1),hl⟩;have hne:c≠b:=λe=>hb (e▸hc)
 refine⟨by rw[inM,g1];exact .inr hc,?_,λk=>?_⟩
 ·rw[inM,g2];simp only[A8];rw[if_neg hne]
 ·rw[inM,g3 c k (λe=>hne e.1)];simp only[A3];rw[if_neg hne]
noncomputable def a6f:List SV->RRd (RM)
 | [.pb n tb tc, .slb n1 mb mc l k, .slb n2 xb xc l1 k1, .ifc t (.int .i64 v)]=>.read n λo0=>(match G2 o0 with
  | some (ts,q)=>.ret ⟨[.pb 0 tb tc, .slb 0 mb mc l k, .slb 0 xb xc l1 k1, .ifc 3 (.int .i64 v)],[(0,rwO ts q)],some (n=n1/\n=n2/\3=t/\(inO q tb tc mb mc l xb xc l1)),λi=>inP q tb tc mb mc xb xc v i,λi=>⟨[],[], .tup [],[(0,rwO ts (i))],[],none⟩⟩
  | none=>.fail)
 | _=>.fail
theorem b1x(R:Option Ob->SV->Prop)(ts:List Nat)(q:RM)(tb tc mb mc l k xb xc l1 k1:Nat)(v:Int){T1}(t1:T1=λ(i:Nat)=>(RM.mk (RM.D (Y4 (RM.mk (I2 (RM.D q) i) (H4 (RM.D q) (RM.S q) i (TI.size b6k)) (G1 (RM.D q) (RM.F q) i (rz (Env.T (Ctx.E (D7.G X5))) 177))) mb mc xb xc i 0 (Value.iface 3 (Value.int .i64 v)))) (H4 (RM.D q) q.2
 i 5) (j0 (j0 (j0 (j0 (j0 (G1 (RM.D q) q.3 i (rz tys 177)) i 1 (G1 (RM.D q) q.3 i (rz tys 177) mb mc)) i 3 (G1 (RM.D q) q.3 i (rz tys 177) xb xc)) i 2 (G1 (RM.D q) q.3 i (rz tys 177) mb (mc+1))) i 4 (G1 (RM.D q) q.3 i (rz
 tys 177) xb (xc+1))) i 0 (Value.iface 3 (Value.int .i64 v))))):J7 X5 1 [] [] (j3 Tryz.f114) (q9 Tryz.f114.ntmps [.pb 0 tb tc, .slb 0 mb mc l k, .slb 0 xb xc l1 k1, .ifc 3 (.int .i64 v)] [(0,rwO ts q)] 1) (r6 X5.G.E.T Tryz.f114.results.toList λS v=>R (Go.Sx.look S.H 0) v)=(
 ∀(i:Nat),¬q.1 i->(0=0/\0=0/\a6U (RM.mk (I2 (RM.D q) i) (H4 (RM.D q) q.2 i 5) (G1 (RM.D q) q.3 i (rz tys 177))) mb mc l xb xc l1 i 0)/\∀(i_1:RM),(0=0/\rtO (T1 i) tb tc i 0)/\(rtP (T1 i) tb tc i 0 i_1->R (Option.some
 (Ob.mk true 0 (a9.raw ts (RM.D i_1) i_1.2 i_1.3) 0)) (SV.tup []))):=by subst t1;kernel_rfl
theorem c0k:u6 Tryz.prog 114 (l9 (RM) ⟨default⟩ a6f):=by
 refine A7 x5 Tryz.func114 rfl (by kernel_rfl) λargs=>?_
 unfold a6f;split
 ·rename_i n tb tc n1 mb mc l k n2 xb xc l1 k1 t v;intro o0;try dsimp only
  split
  ·rename_i ts q hm0;intro ho;replace ho:n=n1/\n=n2/\3=t/\(inO q tb tc mb mc l xb xc l1):=ho;obtain⟨heq0,heq1,heq2,ho⟩:=ho;subst heq0;subst heq1;subst heq2;refine⟨?_,Nat.succ_pos _,ts,λ(i:RM)=>i,λ(i:RM)=>.tup [],λ_=>rfl,?_,_,_,(b1x (G6 1 ts (λ(i:RM)=>inP q tb tc mb mc xb xc v i) (λ(i:RM)=>i) (λ(i:RM)=>.tup [])) ts q tb tc mb mc l k xb xc l1 k1 v rfl).mpr ?_⟩
   ·refine g9 rfl ⟨λ_=>rfl,?_,⟨trivial,z9 hm0,trivial⟩⟩;simp[j9,o8,p8,o9,p7,nth,a8]
   ·intro i _;rfl
   ·obtain⟨fp,its,ht,hl⟩:=ho.2.2.2;simp only[true_and,eq_self];intro b hb;simp only[M4 hb,M5 hb];refine⟨b4s ho hb,λq'=>⟨⟨fp,its,_,b8x ho hb ht hl⟩,λhP=>⟨q',λfp2 its2 ht2 hl2=>hP _ _ _ (b8x ho hb ht2 hl2),rfl,trivial⟩⟩⟩
  ·trivial
 ·trivial
end Go.Proofs.Tryz.Sx

namespace Go.Sx
def swC(p:List SV->Bool)(a b:Con):Con:=λargs rd nm=>match p args with
 | true=>a args rd nm
 | false=>b args rd nm
theorem q7.sw{P:Program}{f:Nat}{a b:Con}{p:List SV->Bool}(ha:q7 P f a)(hb:q7 P f b):q7 P f (swC p a b) where
 calls:=by
  intro W0 Fr U H ρ w nm args e hH hbd hn hc ho;unfold swC at hc;split at hc
  ·exact ha.calls hH hbd hn hc ho
  ·exact hb.calls hH hbd hn hc ho
 loc:=by
  intro args rd rd' nm e hc hr;unfold swC at hc ⊢;split
  ·rename_i hp;rw[hp]at hc;exact ha.loc hc hr
  ·rename_i hp;rw[hp]at hc;exact hb.loc hc hr
def b8D(k:Nat):List SV->Bool
 | .agg (.int _ (.ofNat n) :: _) :: _=>Nat.beq n k
 | _=>false
def a0O(o:Ob)(e es:Nat):Bool:=match o.rw with
 | true=>Nat.beq o.elem e&&Nat.beq o.es es
 | false=>false
theorem K5{σ:Sig}{o:Ob}{e es:Nat}{c':a9}(h:a0O o e es=true)(hc:H6 σ o.c c'):obR σ o ⟨true,e,c',es⟩:=by
 obtain⟨rw,el,c,es'⟩:=o;unfold a0O at h
 cases rw with
 | false=>cases h
 | true =>
  simp only[Bool.and_eq_true]at h;exact⟨Nat.eq_of_beq_eq_true h.1,Nat.eq_of_beq_eq_true h.2,hc⟩
end Go.Sx

namespace Go.Proofs.Tryz.Sx
open Go Go.Sx Go.Proofs Go.Fl Go.Geo
set_option maxRecDepth 100000
def nbI(v:Int):Int:=if v<=255 then 1 else if v<=65535 then 2 else 4
def b4D:PF:=fun
 | [.int .u32 v]=>some (.int .u8 (nbI v),none)
 | _=>none
theorem c1d(R:SV->Prop)(v:Int):z7 G0 0 [] [] (j3 Tryz.f125) (q9 Tryz.f125.ntmps [.int .u32 v] [] 0) (r6 G0.E.T Tryz.f125.results.toList λ_ v=>R v)=(
(decide (v<=(255:Int))=true->R (SV.int .u8 (1:Int)))/\(decide (v<=(255:Int))=false->(decide (v<=(65535:Int))=true->R (SV.int .u8 (2:Int)))/\(decide (v<=(65535:Int))=false->R (SV.int .u8 (4:Int))))):=by kernel_rfl
theorem c8f:y7 Tryz.prog 125 b4D:=by
 refine v7 g0 Tryz.func125 rfl (by kernel_rfl) ?_;intro args v p h hp;unfold b4D at h;split at h
 ·rename_i v;injection h with h;injection h with h1 h2;subst h1;subst h2
  clear hp;refine⟨rfl,_,_,(c1d _ v).mpr ?_⟩;simp only[eqv,p8];unfold nbI;grind
 ·cases h
theorem a5k(v:Int):IntKind.wrap .u8 v=v % 256:=rfl
theorem c6n{k:IntKind}{v:Int}{n:Nat}(h:n<=k.bits):shr k v (n:Int)=v / 2 ^ n:=by
 unfold shr;rw[Int.toNat_natCast,Nat.min_eq_left h,Int.fdiv_eq_ediv_of_nonneg _ (Int.le_of_lt (Int.pow_pos (by decide)))]
def byI(v:Int)(j:Nat):Int:=v / 256 ^ j % 256
theorem b9Z(v:Int):IntKind.wrap .u8 v=byI v 0:=by rw[a5k];simp[byI]
theorem a0P{k:IntKind}(v:Int)(j n:Nat)(hn:n=8*j)(h:n<=k.bits):IntKind.wrap .u8 (shr k v (n:Int))=byI v j:=by
 rw[a5k,c6n h,hn,Int.pow_mul];rfl
theorem S7(v:Int)(j:Nat):0<=byI v j/\byI v j<256:=⟨Int.emod_nonneg _ (by decide),Int.emod_lt_of_pos _ (by decide)⟩
def pB(F:Nat->Nat->Value)(b c:Nat)(v:Int)(j:Nat):Nat->Nat->Value:=j0 F b (c+j) (.int .u8 (byI v j))
def p2R(q:RM)(b c:Nat)(v:Int):RM:=⟨q.D,q.S,pB (pB q.F b c v 0) b c v 1⟩
def p4R(q:RM)(b c:Nat)(v:Int):RM:=⟨q.D,q.S,pB (pB (pB (pB q.F b c v 0) b c v 1) b c v 2) b c v 3⟩
noncomputable def a8d:List SV->RRd (Unit)
 | [.agg [], .slb n b c l k, .int .u32 v]=>.read n λo0=>(match G2 o0 with
  | some (ts,q)=>.ret ⟨[.agg [], .slb 0 b c l k, .int .u32 v],[(0,rwO ts q)],some (((0<=v/\v<4294967296)/\(4<=l/\q.D b/\c+4<=q.S b)/\A1 .u8 (q.F b (c+3)))),λ_i=>True,λ_i=>⟨[],[], .tup [],[(0,rwO ts (p4R q b c v))],[],none⟩⟩
  | none=>.fail)
 | _=>.fail
theorem c0v(R : Option Ob -> SV -> Prop)(ts : List Nat)(q : RM)(b c l k : Nat)(v : Int) : J7 X0 1 [] [] (j3 Tryz.f121) (q9 Tryz.f121.ntmps [.agg [], .slb 0 b c l k, .int .u32 v] [(0, rwO ts q)] 1) (r6 X0.G.E.T Tryz.f121.results.toList λS v => R (Go.Sx.look S.H 0) v) = (
((0 : Int) <= 3 /\ 3 < (↑l : Int)) /\ (q.1 b /\ c + 3 < q.2 b /\ A1 .u8 (q.3 b (c + 3))) /\ ((0 : Int) <= 0 /\ 0 < (↑l : Int)) /\ (q.1 b /\ c + 0 + 1 <= q.2 b) /\ (0 : Int) <= 8 /\
((0 : Int) <= 1 /\ 1 < (↑l : Int)) /\ (q.1 b /\ c + 1 + 1 <= q.2 b) /\ (0 : Int) <= 16 /\ ((0 : Int) <= 2 /\ 2 < (↑l : Int)) /\ (q.1 b /\ c + 2 + 1 <= q.2 b) /\ (0 : Int) <= 24 /\ ((0 :
 Int) <= (3 : Int) /\ 3 < (↑l : Int)) /\ (q.1 b /\ c + 3 + 1 <= q.2 b) /\ R (Option.some (Ob.mk true 0 (a9.raw ts (RM.D q) q.2 (j0 (j0 (j0 (j0 q.3 b (c + 0)
(Value.int .u8 (IntKind.wrap .u8 v))) b (c + 1) (Value.int .u8 (IntKind.wrap .u8 (shr IntKind.u32 v (8 : Int))))) b (c + 2) (Value.int .u8 (IntKind.wrap .u8 (shr IntKind.u32 v (16 : Int))))) b (c +
3) (Value.int .u8 (IntKind.wrap .u8 (shr IntKind.u32 v (24 : Int)))))) 0)) (SV.tup [])) := by kernel_rfl
theorem c0r:u6 Tryz.prog 121 (l9 (Unit) ⟨()⟩ a8d):=by
 refine A7 x0 Tryz.func121 rfl (by kernel_rfl) λargs=>?_
 unfold a8d;split
 ·rename_i n b c l k v;intro o0;try dsimp only
  split
  ·rename_i ts q hm0;intro ho;replace ho:((0<=v/\v<4294967296)/\(4<=l/\q.D b/\c+4<=q.S b)/\A1 .u8 (q.F b (c+3))):=ho;refine⟨?_,Nat.succ_pos _,ts,λ(_i:Unit)=>p4R q b c v,λ(_i:Unit)=>.tup [],λ_=>rfl,?_,_,_,(c0v (G6 1 ts (λ(_i:Unit)=>True) (λ(_i:Unit)=>p4R q b c v) (λ(_i:Unit)=>.tup [])) ts q b c l k v).mpr ?_⟩
   ·refine g9 rfl ⟨λ_=>rfl,?_,⟨trivial,z9 hm0,trivial⟩⟩;simp[j9,o8,p8,o9,p7,nth,a8]
   ·intro _i _;rfl
   ·obtain⟨⟨v0,v1⟩,⟨hl,hD,hS⟩,hi⟩:=ho;have b1:IntKind.wrap .u8 (shr .u32 v 8)=byI v 1:=a0P (k:=.u32) v 1 8 rfl (by decide);have b2:IntKind.wrap .u8 (shr .u32 v 16)=byI v 2:=a0P (k:=.u32) v 2 16 rfl (by decide);have b3:IntKind.wrap .u8 (shr .u32 v 24)=byI v 3:=a0P (k:=.u32) v 3 24 rfl (by decide);simp only[b9Z v,b1,b2,b3];simp only[true_and,Int.reduceLE,Int.le_refl]
    and_intros
    all_goals first|omega|exact hD|exact hi|exact⟨(),trivial,rfl,trivial⟩
  ·trivial
 ·trivial
noncomputable def b8V:List SV->RRd (Unit)
 | [.agg [], .slb n b c l k, .int .u16 v]=>.read n λo0=>(match G2 o0 with
  | some (ts,q)=>.ret ⟨[.agg [], .slb 0 b c l k, .int .u16 v],[(0,rwO ts q)],some (((0<=v/\v<65536)/\(2<=l/\q.D b/\c+2<=q.S b)/\A1 .u8 (q.F b (c+1)))),λ_i=>True,λ_i=>⟨[],[], .tup [],[(0,rwO ts (p2R q b c v))],[],none⟩⟩
  | none=>.fail)
 | _=>.fail
theorem c1z(R:Option Ob->SV->Prop)(ts:List Nat)(q:RM)(b c l k:Nat)(v:Int):J7 X0 1 [] [] (j3 Tryz.f132) (q9 Tryz.f132.ntmps [.agg [], .slb 0 b c l k, .int .u16 v] [(0,rwO ts q)] 1) (r6 X0.G.E.T Tryz.f132.results.toList λS v=>R (Go.Sx.look S.H 0) v)=(
((0:Int)<=1/\1<(↑l:Int))/\(q.1 b/\c+1<q.2 b/\A1 .u8 (q.3 b (c+1)))/\((0:Int)<=0/\0<(↑l:Int))/\(q.1 b/\c+0+1<=q.2 b)/\(0:Int)<=8/\
((0:Int)<=1/\1<(↑l:Int))/\(q.1 b/\c+1+1<=q.2 b)/\R (Option.some (Ob.mk true 0 (a9.raw ts (RM.D q) q.2 (j0 (j0 q.3 b (c+0) (Value.int .u8
(IntKind.wrap .u8 v))) b (c+1) (Value.int .u8 (IntKind.wrap .u8 (shr IntKind.u16 v (8:Int)))))) 0)) (SV.tup [])):=by kernel_rfl
theorem d1q:u6 Tryz.prog 132 (l9 (Unit) ⟨()⟩ b8V):=by
 refine A7 x0 Tryz.func132 rfl (by kernel_rfl) λargs=>?_
 unfold b8V;split
 ·rename_i n b c l k v;intro o0;try dsimp only
  split
  ·rename_i ts q hm0;intro ho;replace ho:((0<=v/\v<65536)/\(2<=l/\q.D b/\c+2<=q.S b)/\A1 .u8 (q.F b (c+1))):=ho;refine⟨?_,Nat.succ_pos _,ts,λ(_i:Unit)=>p2R q b c v,λ(_i:Unit)=>.tup [],λ_=>rfl,?_,_,_,(c1z (G6 1 ts (λ(_i:Unit)=>True) (λ(_i:Unit)=>p2R q b c v) (λ(_i:Unit)=>.tup [])) ts q b c l k v).mpr ?_⟩
   ·refine g9 rfl ⟨λ_=>rfl,?_,⟨trivial,z9 hm0,trivial⟩⟩;simp[j9,o8,p8,o9,p7,nth,a8]
   ·intro _i _;rfl
   ·obtain⟨⟨v0,v1⟩,⟨hl,hD,hS⟩,hi⟩:=ho;have b1:IntKind.wrap .u8 (shr .u16 v 8)=byI v 1:=a0P (k:=.u16) v 1 8 rfl (by decide);simp only[b9Z v,b1];simp only[true_and,Int.reduceLE,Int.le_refl]
    and_intros
    all_goals first|omega|exact hD|exact hi|exact⟨(),trivial,rfl,trivial⟩
  ·trivial
 ·trivial
noncomputable def b6L:List SV->RdM
 | [.agg [], .slc n 0 8 8, .int .u64 x]=>.read n λo0=>(match a0O o0 221 0 with
  | true=>(match o7 .u8 o0.c with
  | some (m0,g)=>.ret ⟨[.agg [], .slc 0 0 8 8, .int .u64 x],[(0,⟨true,221, .ints .u8 m0 g,0⟩)], .tup [],[(0,⟨true,221, .ints .u8 8 (byI x),0⟩)],[],some (m0=8/\0<=x/\x<18446744073709551616)⟩
  | none=>.fail)
  | false=>.fail)
 | _=>.fail
theorem c1b(x:Int)(g:Nat->Int){w9:HC}(e9:w9=⟨[.agg [], .slc 0 0 8 8, .int .u64 x],[(0,⟨true,221, .ints .u8 (8) g,0⟩)], .tup [],[(0,⟨true,221, .ints .u8 8 (byI x),0⟩)],[],some (8=8/\0<=x/\x<18446744073709551616)⟩){T1}(t1:T1=(((0:Int)<=7/\(7:Int)<8)/\1<=
 8)):z7 G0 1 [] [] (j3 Tryz.f136) (q9 Tryz.f136.ntmps w9.args w9.heap 1) (r6 G0.E.T Tryz.f136.results.toList λS v=>w0 1 w9 S v)=(
 T1/\8<=8/\(((0:Int)<=0/\(0:Int)<8)/\1<=8)/\1<=8/\(0:Int)<=8/\(((0:Int)<=1/\(1:Int)<8)/\1<=8)/\2<=8/\(0:Int)<=16/\(((0:Int)<=2/\(2:Int)<8)/\1<=8)/\3<=8/\(0:Int)<=24/\(((0:Int)<=3/\(3:Int) <
 8)/\1<=8)/\4<=8/\(0:Int)<=32/\(((0:Int)<=4/\(4:Int)<8)/\1<=8)/\5<=8/\(0:Int)<=40/\(((0:Int)<=5/\(5:Int)<8)/\1<=8)/\6<=8/\(0:Int)<=48/\(((0:Int)<=6/\(6:Int)<8)/\1<=8)/\7<=8/\(0:Int)<=56/\T1/\
 8<=8/\True/\True/\(221=221/\0=0/\8<=8/\∀(i:Nat),i<8->upd (upd (upd (upd (upd (upd (upd (upd g 0 (IntKind.wrap .u8 x)) 1 (IntKind.wrap .u8 (shr IntKind.u64 x (8:Int)))) 2 (IntKind.wrap .u8 (shr IntKind.u64 x (16:Int)))) 3
 (IntKind.wrap .u8 (shr IntKind.u64 x (24:Int)))) 4 (IntKind.wrap .u8 (shr IntKind.u64 x (32:Int)))) 5 (IntKind.wrap .u8 (shr IntKind.u64 x (40:Int)))) 6 (IntKind.wrap .u8 (shr IntKind.u64 x (48:Int)))) 7 (IntKind.wrap .u8 (shr IntKind.u64 x
 (56:Int))) i=byI x i)/\True):=by subst e9 t1;kernel_rfl
theorem d0j:q7 Tryz.prog 136 (p9 b6L):=by
 refine j8 g0 Tryz.func136 rfl (by kernel_rfl) λargs=>?_
 unfold b6L;split
 ·rename_i n x;intro o0;try dsimp only
  split
  ·rename_i hrw0;try dsimp only
   split
   ·rename_i m0 g hm0;intro ho;replace ho:m0=8/\0<=x/\x<18446744073709551616:=ho;obtain⟨hsz0,ho⟩:=ho;subst hsz0;refine⟨?_,_,_,(c1b x g rfl rfl).mpr ?_⟩
    ·refine g9 rfl ⟨?_,⟨trivial,K5 hrw0 ((o5 hm0).1),trivial⟩⟩;simp[j9,o8,p8,o9,p7,nth,a8]
    ·have b1:IntKind.wrap .u8 (shr .u64 x 8)=byI x 1:=a0P (k:=.u64) x 1 8 rfl (by decide);have b2:IntKind.wrap .u8 (shr .u64 x 16)=byI x 2:=a0P (k:=.u64) x 2 16 rfl (by decide);have b3:IntKind.wrap .u8 (shr .u64 x 24)=byI x 3:=a0P (k:=.u64) x 3 24 rfl (by decide);have b4:IntKind.wrap .u8 (shr .u64 x 32)=byI x 4:=a0P (k:=.u64) x 4 32 rfl (by decide);have b5:IntKind.wrap .u8 (shr .u64 x 40)=byI x 5:=a0P (k:=.u64) x 5 40 rfl (by decide);have b6:IntKind.wrap .u8 (shr .u64 x 48)=byI x 6:=a0P (k:=.u64) x 6 48 rfl (by decide)
     have b7:IntKind.wrap .u8 (shr .u64 x 56)=byI x 7:=a0P (k:=.u64) x 7 56 rfl (by decide);simp only[b9Z x,b1,b2,b3,b4,b5,b6,b7]
     and_intros
     all_goals first|omega|trivial|decide|skip
     intro i hi
     match i,hi with
     | 0,_=>rfl
     | 1,_=>rfl
     | 2,_=>rfl
     | 3,_=>rfl
     | 4,_=>rfl
     | 5,_=>rfl
     | 6,_=>rfl
     | 7,_=>rfl
   ·trivial
  ·trivial
 ·trivial
def E7(v:Value):Prop:=v=.int .u8 (m8 v)/\0<=m8 v/\m8 v<256
theorem E7.mk'{x:Int}(h:0<=x/\x<256):E7 (.int .u8 x):=⟨rfl,h.1,h.2⟩
theorem E7.i{v:Value}(h:E7 v):A1 .u8 v:=h.1
structure byO (q:RM) (b c l k:Nat):Prop where
 D:q.D b
 le:l<=k
 S:c+k<=q.S b
 is:∀ j,j<l->E7 (q.F b (c+j))
structure DI where
 q:RM
 b:Nat
 c:Nat
 l:Nat
 k:Nat
instance:Inhabited DI:=⟨⟨default,0,0,0,0⟩⟩
structure apd (q:RM) (b c l:Nat) (us:List Int) (i:DI):Prop where
 o:byO i.q i.b i.c i.l i.k
 n:i.l=l+us.length
 old:∀ j,j<l->i.q.F i.b (i.c+j)=q.F b (c+j)
 new:∀ j x,us[j]? = some x->i.q.F i.b (i.c+(l+j))=.int .u8 x
 keep:∀ x,q.D x->i.q.D x/\i.q.S x=q.S x/\(x≠b->∀ y,i.q.F x y=q.F x y)
 nw:i.b=b∨¬q.D i.b
theorem apd.trans{q:RM}{b c l:Nat}{us us':List Int}{i i':DI}(h:apd q b c l us i)(h':apd i.q i.b i.c i.l us' i'):apd q b c l (us++us') i' where
 o:=h'.o
 n:=by rw[h'.n,h.n,List.length_append];omega
 old:=λj hj=>by rw[h'.old j (by rw[h.n];omega),h.old j hj]
 new:=λj x hx=>by
  have hn:=h.n;by_cases hc:j<us.length
  ·rw[List.getElem?_append_left hc]at hx;rw[h'.old (l+j) (by omega)];exact h.new j x hx
  ·rw[List.getElem?_append_right (by omega)]at hx;have:=h'.new _ x hx;rw[hn]at this;rw[show l+j=l+us.length+(j-us.length) by omega];exact this
 keep:=λx hx=>by
  obtain⟨h1,h2,h3⟩:=h.keep x hx;obtain⟨h4,h5,h6⟩:=h'.keep x h1;refine⟨h4,h5.trans h2,λhne y=>?_⟩
  have hxb:x≠i.b:=λe=>by
   rcases h.nw with e2|e2
   ·exact hne (e.trans e2)
   ·exact e2 (e▸hx)
  rw[h6 hxb y,h3 hne y]
 nw:=by
  rcases h'.nw with e|e
  ·rcases h.nw with e2|e2
   ·exact .inl (e.trans e2)
   ·exact .inr (e▸e2)
  ·exact .inr λhx=>e (h.keep _ hx).1
theorem H2{q:RM}{b c l k m:Nat}(hO:byO q b c l k){us:List Int}(hm:m=us.length)(hu:∀ x∈us,0<=x/\x<256){vs:List Value}(hv:vs=us.map (Value.int .u8)){i:ApI}(hp:L9 q.D q.S q.F 1 b c l k m vs i) :
  apd q b c l us ⟨⟨i.D,i.S,i.F⟩,i.b,i.c,l+m,i.k⟩:=by
 subst hm hv
 have hget:∀ j,j<us.length->(us.map (Value.int .u8)).getD j (.bool false)=.int .u8 (us.getD j 0):=λj hj=>by
  simp[List.getD_eq_getElem?_getD,List.getElem?_eq_getElem hj]
 have hby:∀ j,j<us.length->0<=us.getD j 0/\us.getD j 0<256:=λj hj=>by
  rw[List.getD_eq_getElem?_getD,List.getElem?_eq_getElem hj,Option.getD_some];exact hu _ (List.getElem_mem hj)
 have main:∀(D':Nat->Prop)(S':Nat->Nat)(F':Nat->Nat->Value)(b' c' k':Nat),(∀ j,j<l->F' b' (c'+j)=q.F b (c+j))->(∀ j,j<us.length->F' b' (c'+(l+j))=.int .u8 (us.getD j 0))->D' b'->l+us.length<=k'->c'+k'<=S' b'->
   (∀ x,q.D x->D' x/\S' x=q.S x/\(x≠b->∀ y,F' x y=q.F x y))->(b'=b∨¬q.D b')->apd q b c l us ⟨⟨D',S',F'⟩,b',c',l+us.length,k'⟩:=by
  intro D' S' F' b' c' k' m1 m2 m3 m4 m5 m6 m7;refine⟨⟨m3,m4,m5,λj hj=>?_⟩,rfl,m1,λj x hx=>?_,m6,m7⟩
  ·have hj:j<l+us.length:=hj;show E7 (F' b' (c'+j));by_cases hc:j<l
   ·rw[m1 j hc];exact hO.is j hc
   ·have:=m2 (j-l) (by omega);rw[show l+(j-l)=j by omega]at this;rw[this];exact E7.mk' (hby _ (by omega))
  ·obtain⟨h1,h2⟩:=List.getElem?_eq_some_iff.1 hx;refine(m2 j h1).trans ?_;rw[List.getD_eq_getElem?_getD,hx];rfl
 have hS:=hO.S;rcases hp with⟨h1,h2,h3,h4,h5,h6,h7⟩|⟨h1,h2,h3,h4,h5,h6,h7,z,h8⟩
 ·rw[h2,h3,h4,h5,h6,h7];simp only[Nat.mul_one];refine main _ _ _ _ _ _ (λj hj=>a0c (by omega)) (λj hj=>?_) hO.D h1 hS (λx hx=>⟨hx,rfl,λhne y=>a0c (.inl hne)⟩) (.inl rfl);rw[a2L,if_pos ⟨rfl,by omega,by simp;omega⟩,show c+(l+j)-(c+l)=j by omega];exact hget j hj
 ·rw[h3,h6,h7,h8];simp only[Nat.mul_one];refine main _ _ _ _ _ _ (λj hj=>?_) (λj hj=>?_) (.inl rfl) h4 (by simp[A8]) (λx hx=>?_) (.inr h2)
  ·simp only[A3,if_true,a4I];rw[if_pos (by omega)];congr 1;omega
  ·simp only[A3,if_true,a4I];rw[if_neg (by omega),if_pos (by simp;omega),show 0+(l+j)-l=j by omega];exact hget j hj
  ·have hne:x≠i.b:=λe=>h2 (e▸hx)
   exact⟨.inr hx,by simp only[A8];rw[if_neg hne],λ_ y=>by simp only[A3];rw[if_neg hne]⟩
theorem I3{q:RM}{b c l k m:Nat}(hO:byO q b c l k)(hl:l<=1000000000)(hm:m<=1000):appO q.D q.S 1 1 b c l k m:=by
 have h1:=hO.le;have h2:=hO.S;exact⟨λh=>⟨hO.D,by omega⟩,λh=>⟨hO.D,by omega⟩,by omega,by simp only[maxLen];omega⟩
theorem apd.put{q:RM}{b c l:Nat}{us us':List Int}{i:DI}(h:apd q b c l us i)(hlen:us'.length=us.length)(hu:∀ x∈us',0<=x/\x<256){q':RM}(hD:q'.D=i.q.D)(hS:q'.S=i.q.S)
  (hF:∀ x y,(x≠i.b∨y<i.c+l∨i.c+l+us.length<=y)->q'.F x y=i.q.F x y) (hN:∀ j x,us'[j]? = some x->q'.F i.b (i.c+(l+j))=.int .u8 x):apd q b c l us' ⟨q',i.b,i.c,i.l,i.k⟩ where
 o:=by
  refine⟨by rw[hD];exact h.o.D,h.o.le,by rw[hS];exact h.o.S,λj hj=>?_⟩;have hj:j<i.l:=hj;have hn:=h.n;show E7 (q'.F i.b (i.c+j));by_cases hc:j<l
  ·rw[hF _ _ (by omega)];exact h.o.is j hj
  ·have hlt:j-l<us'.length:=by omega
   have:=hN (j-l) _ (List.getElem?_eq_getElem hlt);rw[show l+(j-l)=j by omega]at this;rw[this];exact E7.mk' (hu _ (List.getElem_mem hlt))
 n:=by rw[hlen];exact h.n
 old:=λj hj=>by
  show q'.F i.b (i.c+j)=_;rw[hF _ _ (by omega)];exact h.old j hj
 new:=hN
 keep:=λx hx=>by
  obtain⟨h1,h2,h3⟩:=h.keep x hx;refine⟨by show q'.D x;rw[hD];exact h1,by show q'.S x=_;rw[hS];exact h2,λhne y=>?_⟩
  have hxb:x≠i.b:=λe=>by
   rcases h.nw with e2|e2
   ·exact hne (e.trans e2)
   ·exact e2 (e▸hx)
  show q'.F x y=_;rw[hF _ _ (.inl hxb)];exact h3 hne y
 nw:=h.nw
def byL(v:Int)(n:Nat):List Int:=(List.range n).map (byI v)
theorem a1J(v:Int)(n:Nat):∀ x∈byL v n,0<=x/\x<256:=λx hx=>by
 obtain⟨j,_,rfl⟩:=List.mem_map.1 hx;exact S7 v j
theorem C9(v:Int)(n:Nat):(byL v n).length=n:=by simp[byL]
theorem b3R{v:Int}{n j:Nat}{x:Int}(h:(byL v n)[j]? = some x):j<n/\x=byI v j:=by
 obtain⟨h1,h2⟩:=List.getElem?_eq_some_iff.1 h;rw[C9]at h1;exact⟨h1,by rw[<-h2];simp[byL]⟩
noncomputable def X6:D7:=⟨G0,[(121,l9 Unit ⟨()⟩ a8d),(132,l9 Unit ⟨()⟩ b8V)],[],[],[(185,0)]⟩
theorem x6:y9 Tryz.prog X6:=⟨g0,q8.cons c0r (q8.cons d1q q8.nil)⟩
theorem c4Q{q:RM}{b c l:Nat}{i:DI}{v:Int}(h:apd q b c l [0,0] i){t:Nat}(ht:t=l):apd q b c l (byL v 2) ⟨p2R i.q i.b (i.c+t) (IntKind.wrap .u16 v),i.b,i.c,i.l,i.k⟩:=by
 subst ht;refine h.put (us':=byL v 2) rfl (a1J _ _) rfl rfl (λx y hxy=>?_) λj x hx=>?_
 ·simp only[List.length_cons,List.length_nil]at hxy;show pB _ _ _ _ _ x y=_;unfold pB;rw[b8 (by omega),b8 (by omega)]
 ·obtain⟨hj,rfl⟩:=b3R hx
  have e:∀ j,j<2->byI (IntKind.wrap .u16 v) j=byI v j:=λj hj=>by
   have hw:IntKind.wrap .u16 v=v % 65536:=rfl;rw[hw]
   match j,hj with
   | 0,_=>simp only[byI,Int.pow_zero,Int.ediv_one];omega
   | 1,_=>simp only[byI,Int.pow_one];omega
  show pB _ _ _ _ _ i.b _=_;unfold pB
  match j,hj with
  | 0,_=>rw[b8 (by omega),e 0 (by omega)];exact v9
  | 1,_=>rw[e 1 (by omega),Nat.add_assoc];exact v9
theorem c4d{q:RM}{b c l:Nat}{i:DI}{v:Int}(h:apd q b c l [0,0,0,0] i){t:Nat}(ht:t=l):apd q b c l (byL v 4) ⟨p4R i.q i.b (i.c+t) v,i.b,i.c,i.l,i.k⟩:=by
 subst ht;refine h.put (us':=byL v 4) rfl (a1J _ _) rfl rfl (λx y hxy=>?_) λj x hx=>?_
 ·simp only[List.length_cons,List.length_nil]at hxy;show pB _ _ _ _ _ x y=_;unfold pB;rw[b8 (by omega),b8 (by omega),b8 (by omega),b8 (by omega)]
 ·obtain⟨hj,rfl⟩:=b3R hx;show pB _ _ _ _ _ i.b _=_;unfold pB
  match j,hj with
  | 0,_=>rw[b8 (by omega),b8 (by omega),b8 (by omega)];exact v9
  | 1,_=>rw[b8 (by omega),b8 (by omega),Nat.add_assoc];exact v9
  | 2,_=>rw[b8 (by omega),Nat.add_assoc];exact v9
  | 3,_=>rw[Nat.add_assoc];exact v9
noncomputable def a5e:List SV->RRd (DI)
 | [.slb n b c l k, .int .u32 v, .int .u8 w]=>.read n λo0=>(match G2 o0 with
  | some (ts,q)=>.ret ⟨[.slb 0 b c l k, .int .u32 v, .int .u8 w],[(0,rwO ts q)],some (((byO q b c l k/\l<=1000000000)/\(0<=v/\v<4294967296)/\(w=1∨w=2∨w=4))),λi=>apd q b c l (byL v w.toNat) i,λi=>⟨[],[], .slb 0 i.b i.c i.l i.k,[(0,rwO ts (i.q))],[],none⟩⟩
  | none=>.fail)
 | _=>.fail
theorem b4U(R:Option Ob->SV->Prop)(ts:List Nat)(q:RM)(b c l k:Nat)(v w:Int){T1}(t1:T1=(IntKind.wrap .i64 ((↑(l+4):Int)-4))){T2}(t2:T2=(IntKind.wrap .i64 ((↑(l+2):Int)-2))){T3}(t3:T3=(IntKind.wrap IntKind.u16 v)):J7 X6 1 [] [] (j3 Tryz.f126) (q9 Tryz.f126.ntmps [.slb 0 b c l k, .int .u32 v, .int .u8 w] [(0,rwO ts q)] 1) (r6 X6.G.E.T Tryz.f126.results.toList λS v=>R (Go.Sx.look S.H 0) v)=(
 ((w==(1:Int))=true->∀(i:ApI),appO (RM.D q) q.2 1 1 b c l k 1/\(L9 (RM.D q) q.2 q.3 1 b c l k 1 [Value.int .u8 (IntKind.wrap .u8 v)] i->R (Option.some (Ob.mk true 0 (a9.raw ts (ApI.D i) i.5 i.6) 0)) (SV.slb 0 i.1 i.2 (l+1) i.3)))/\
 ((w==(1:Int))=false->((w==(2:Int))=true->∀(i:ApI),appO (RM.D q) q.2 1 1 b c l k 2/\(L9 (RM.D q) q.2 q.3 1 b c l k 2 [Value.int .u8 (0:Int),Value.int .u8 (0:Int)] i->∀(_:Unit),((0:Int)<=IntKind.wrap .i64 ((↑(l+2) :
 Int)-2)/\Int.toNat T2<=l+2/\Int.toNat T2<i.3)/\(((0:Int)<=IntKind.wrap IntKind.u16 v/\IntKind.wrap IntKind.u16 v<(65536:Int))/\(2<=l+2-Int.toNat T2/\i.4 i.1/\i.2+Int.toNat T2*1+2<=i.5 i.1)/\A1 .u8 (i.6 i.1 (i.2 +
 Int.toNat T2*1+1)))/\true=true/\(True->R (Option.some (Ob.mk true 0 (a9.raw ts (RM.D (p2R (RM.mk (ApI.D i) (ApI.S i) (ApI.F i)) (ApI.b i) (ApI.c i+Int.toNat T2*TI.size ty5) T3)) i.5 (pB (pB i.6 i.1 (i.2+Int.toNat T2*1) T3 0) i.1
 (i.2+Int.toNat T2*1) T3 1)) 0)) (SV.slb 0 i.1 i.2 (l+2) i.3))))/\((w==(2:Int))=false->∀(i:ApI),appO (RM.D q) q.2 1 1 b c l k 4/\(L9 (RM.D q) q.2 q.3 1 b c l k 4 [Value.int .u8 (0:Int),Value.int .u8 (0:Int),Value.int .u8 (0
 : Int),Value.int .u8 (0:Int)] i->∀(_:Unit),((0:Int)<=IntKind.wrap .i64 ((↑(l+4):Int)-4)/\Int.toNat T1<=l+4/\Int.toNat T1<i.3)/\(((0:Int)<=v/\v<(4294967296:Int))/\(4<=l+4-Int.toNat T1/\i.4 i.1/\i.2+Int.toNat
 T1*1+4<=i.5 i.1)/\A1 .u8 (i.6 i.1 (i.2+Int.toNat T1*1+3)))/\true=true/\(True->R (Option.some (Ob.mk true 0 (a9.raw ts (RM.D (p4R (RM.mk (ApI.D i) (ApI.S i) (ApI.F i)) (ApI.b i) (ApI.c i+Int.toNat T1*TI.size ty5) v)) i.5 (pB
 (pB (pB (pB i.6 i.1 (i.2+Int.toNat T1*1) v 0) i.1 (i.2+Int.toNat T1*1) v 1) i.1 (i.2+Int.toNat T1*1) v 2) i.1 (i.2+Int.toNat (IntKind.wrap .i64 ((↑(l+4):Int)-(4:Int)))*1) v 3)) 0)) (SV.slb 0 i.1 i.2 (l+4) i.3)))))):=by subst t1 t2 t3;kernel_rfl
theorem b7z:u6 Tryz.prog 126 (l9 (DI) ⟨default⟩ a5e):=by
 refine A7 x6 Tryz.func126 rfl (by kernel_rfl) λargs=>?_
 unfold a5e;split
 ·rename_i n b c l k v w;intro o0;try dsimp only
  split
  ·rename_i ts q hm0;intro ho;replace ho:((byO q b c l k/\l<=1000000000)/\(0<=v/\v<4294967296)/\(w=1∨w=2∨w=4)):=ho;refine⟨?_,Nat.succ_pos _,ts,λ(i:DI)=>i.q,λ(i:DI)=>.slb 0 i.b i.c i.l i.k,λ_=>rfl,?_,_,_,(b4U (G6 1 ts (λ(i:DI)=>apd q b c l (byL v w.toNat) i) (λ(i:DI)=>i.q) (λ(i:DI)=>.slb 0 i.b i.c i.l i.k)) ts q b c l k v w rfl rfl rfl).mpr ?_⟩
   ·refine g9 rfl ⟨λ_=>rfl,?_,⟨trivial,z9 hm0,trivial⟩⟩;simp[j9,o8,p8,o9,p7,nth,a8]
   ·intro i _;rfl
   ·obtain⟨⟨hO,hl⟩,hv,hw⟩:=ho;simp only[true_and,eq_self,Nat.mul_one,true_implies];refine⟨λh1=>?_,λh1=>⟨λh2=>?_,λh2=>?_⟩⟩
    ·have h1:w=1:=by simpa using h1
     subst h1;refine λi=>⟨I3 hO hl (by omega),λhp=>⟨⟨⟨i.D,i.S,i.F⟩,i.b,i.c,l+1,i.k⟩,?_,rfl,⟨trivial,rfl,rfl,rfl,rfl⟩⟩⟩
     refine H2 hO rfl (a1J _ _) ?_ hp;show _=[Value.int .u8 (byI v 0)];rw[b9Z]
    ·have h2:w=2:=by simpa using h2
     subst h2;intro i;refine⟨I3 hO hl (by omega),λhp=>?_⟩;have ha:=H2 hO (us:=[0,0]) rfl (by decide) rfl hp;have hw2:IntKind.i64.wrap (((l+2:Nat):Int)-2)=((l:Nat):Int):=by rw[j5 (by omega) (by omega)];omega
     have hk:l+2<=i.k:=ha.o.le;have hS:i.c+i.k<=i.S i.b:=ha.o.S;have hD:i.D i.b:=ha.o.D;have hby:=ha.o.is (l+1) (by show l+1<l+2;omega);have hr:(0:Int)<=IntKind.wrap .u16 v/\IntKind.wrap .u16 v<65536:=⟨Int.emod_nonneg _ (by decide),Int.emod_lt_of_pos _ (by decide)⟩;simp only[hw2,Int.toNat_natCast,hr,hD,true_and,and_true];intro _
     and_intros
     all_goals first|omega|exact hby.i|exact⟨⟨_,_,_,_,_⟩,c4Q ha rfl,rfl,⟨trivial,rfl,rfl,rfl,rfl⟩⟩
    ·have h3:w=4:=by
      rcases hw with rfl|rfl|rfl
      ·exact absurd h1 (by decide)
      ·exact absurd h2 (by decide)
      ·rfl
     subst h3;intro i;refine⟨I3 hO hl (by omega),λhp=>?_⟩;have ha:=H2 hO (us:=[0,0,0,0]) rfl (by decide) rfl hp;have hw2:IntKind.i64.wrap (((l+4:Nat):Int)-4)=((l:Nat):Int):=by rw[j5 (by omega) (by omega)];omega
     have hk:l+4<=i.k:=ha.o.le;have hS:i.c+i.k<=i.S i.b:=ha.o.S;have hD:i.D i.b:=ha.o.D;have hby:=ha.o.is (l+3) (by show l+3<l+4;omega);simp only[hw2,Int.toNat_natCast,hD,true_and];intro _
     and_intros
     all_goals first|omega|exact hby.i|exact⟨⟨_,_,_,_,_⟩,c4d ha rfl,rfl,⟨trivial,rfl,rfl,rfl,rfl⟩⟩
  ·trivial
 ·trivial
noncomputable def GB:Ctx:=⟨⟨tys,[]⟩,[(110,l8 b0R),(136,p9 b6L)]⟩
theorem gB:v8 Tryz.prog GB:=⟨⟨z6,FlatsOk.nil⟩,g8.cons (.pure bits) (g8.cons d0j g8.nil),by kernel_rfl⟩
noncomputable def X7:D7:=⟨GB,[],[],[],[(185,0)]⟩
theorem x7:y9 Tryz.prog X7:=⟨gB,q8.nil⟩
noncomputable def a9w:List SV->RRd (DI)
 | [.slb n b c l k, .flt .f64 x]=>.read n λo0=>(match G2 o0 with
  | some (ts,q)=>.ret ⟨[.slb 0 b c l k, .flt .f64 x],[(0,rwO ts q)],some (((byO q b c l k/\l<=1000000000)/\x<18446744073709551616)),λi=>apd q b c l (byL (x:Int) 8) i,λi=>⟨[],[], .slb 0 i.b i.c i.l i.k,[(0,rwO ts (i.q))],[],none⟩⟩
  | none=>.fail)
 | _=>.fail
theorem b5Z(R:Option Ob->SV->Prop)(ts:List Nat)(q:RM)(b c l k:Nat)(x:Nat){T1}(t1:T1=(↑x:Int)):J7 X7 1 [] [] (j3 Tryz.f131) (q9 Tryz.f131.ntmps [.slb 0 b c l k, .flt .f64 x] [(0,rwO ts q)] 1) (r6 X7.G.E.T Tryz.f131.results.toList λS v=>R (Go.Sx.look S.H 0) v)=(
 (8=8/\0<=T1/\T1<18446744073709551616)/\true=true/\0<8/\∀(i:ApI),(8<=8/\appO (RM.D q) q.2 1 1 b c l k 8)/\(L9 (RM.D q) q.2 q.3 1 b c l k 8 [Value.int .u8 (byI T1 0),Value.int .u8 (byI T1 1),Value.int .u8 (byI T1 2),Value.int
 .u8 (byI T1 3),Value.int .u8 (byI T1 4),Value.int .u8 (byI T1 5),Value.int .u8 (byI T1 6),Value.int .u8 (byI T1 7)] i->R (Option.some (Ob.mk true 0 (a9.raw ts (ApI.D i) i.5 i.6) 0)) (SV.slb 0 i.1 i.2 (l+8) i.3))):=by subst t1;kernel_rfl
theorem c5a:u6 Tryz.prog 131 (l9 (DI) ⟨default⟩ a9w):=by
 refine A7 x7 Tryz.func131 rfl (by kernel_rfl) λargs=>?_
 unfold a9w;split
 ·rename_i n b c l k x;intro o0;try dsimp only
  split
  ·rename_i ts q hm0;intro ho;replace ho:((byO q b c l k/\l<=1000000000)/\x<18446744073709551616):=ho;refine⟨?_,Nat.succ_pos _,ts,λ(i:DI)=>i.q,λ(i:DI)=>.slb 0 i.b i.c i.l i.k,λ_=>rfl,?_,_,_,(b5Z (G6 1 ts (λ(i:DI)=>apd q b c l (byL (x:Int) 8) i) (λ(i:DI)=>i.q) (λ(i:DI)=>.slb 0 i.b i.c i.l i.k)) ts q b c l k x rfl).mpr ?_⟩
   ·refine g9 rfl ⟨λ_=>rfl,?_,⟨trivial,z9 hm0,trivial⟩⟩;simp[j9,o8,r8,o9,p7,nth,a8]
   ·intro i _;rfl
   ·obtain⟨⟨hO,hl⟩,hx⟩:=ho;simp only[true_and,eq_self];refine⟨⟨by omega,by omega⟩,by omega,λi=>⟨⟨by omega,I3 hO hl (by omega)⟩,λhp=>⟨⟨⟨i.D,i.S,i.F⟩,i.b,i.c,l+8,i.k⟩,?_,rfl,⟨trivial,rfl,rfl,rfl,rfl⟩⟩⟩⟩;exact H2 hO (us:=byL (x:Int) 8) rfl (a1J _ _) rfl hp
  ·trivial
 ·trivial
def leN(g:Nat->Int)(p:Nat):Nat->Int
 | 0=>0
 | n+1=>g p+256*leN g (p+1) n
theorem J2{g g':Nat->Int}:∀ {n p:Nat},(∀ j,j<n->g' (p+j)=g (p+j))->leN g' p n=leN g p n
 | 0,_,_=>rfl
 | n+1,p,h=>by
  have h0:=h 0 (by omega);rw[Nat.add_zero]at h0;show g' p+256*leN g' (p+1) n=g p+256*leN g (p+1) n
  have h1:leN g' (p+1) n=leN g (p+1) n:=J2 λj hj=>by
   have:=h (j+1) (by omega);rw[show p+1+j=p+(j+1) by omega];exact this
  rw[h0,h1]
theorem b3Q(v:Int):byI v 0=v % 256:=by simp[byI]
theorem c3x{g:Nat->Int}{v:Int}{p:Nat}(h:∀ j,j<1->g (p+j)=byI v j)(h0:0<=v)(h1:v<256):leN g p 1=v:=by
 have e0:=h 0 (by omega);simp only[Nat.add_zero,b3Q]at e0;simp only[leN,e0];omega
theorem c3w{g:Nat->Int}{v:Int}{p:Nat}(h:∀ j,j<2->g (p+j)=byI v j)(h0:0<=v)(h1:v<65536):leN g p 2=v:=by
 have e0:=h 0 (by omega);have e1:g (p+1)=v / 256 % 256:=h 1 (by omega);simp only[Nat.add_zero,b3Q]at e0;simp only[leN,e0,e1];omega
theorem b0z{g:Nat->Int}{v:Int}{p:Nat}(h:∀ j,j<4->g (p+j)=byI v j)(h0:0<=v)(h1:v<4294967296):leN g p 4=v:=by
 have e0:=h 0 (by omega);have e1:g (p+1)=v / 256 % 256:=h 1 (by omega);have e2:g (p+1+1)=v / 65536 % 256:=h 2 (by omega);have e3:g (p+1+1+1)=v / 16777216 % 256:=h 3 (by omega);simp only[Nat.add_zero,b3Q]at e0;simp only[leN,e0,e1,e2,e3];omega
theorem c7N{g:Nat->Int}{v:Int}{p:Nat}(h:∀ j,j<8->g (p+j)=byI v j)(h0:0<=v)(h1:v<18446744073709551616):leN g p 8=v:=by
 have e0:=h 0 (by omega);have e1:g (p+1)=v / 256 % 256:=h 1 (by omega);have e2:g (p+1+1)=v / 65536 % 256:=h 2 (by omega);have e3:g (p+1+1+1)=v / 16777216 % 256:=h 3 (by omega);have e4:g (p+1+1+1+1)=v / 4294967296 % 256:=h 4 (by omega);have e5:g (p+1+1+1+1+1)=v / 1099511627776 % 256:=h 5 (by omega);have e6:g (p+1+1+1+1+1+1)=v / 281474976710656 % 256:=h 6 (by omega);have e7:g (p+1+1+1+1+1+1+1)=v / 72057594037927936 % 256:=h 7 (by omega);simp only[Nat.add_zero,b3Q]at e0;simp only[leN,e0,e1,e2,e3,e4,e5,e6,e7];omega
def fl8(g:Nat->Int)(p:Nat)(n:Int):Prop:=∃ x:Nat,leN g p 8=(x:Int)/\FI x n/\n.natAbs<=4194304
def a4b(g:Nat->Int)(a:Nat)(B:Bx):Prop:=fl8 g a B.x0/\fl8 g (a+8) B.y0/\fl8 g (a+16) B.x1/\fl8 g (a+24) B.y1
structure EK where
 a:Nat
 e:Nat
 its:List (Int×Bx)
 B:Bx
def a0E(g:Nat->Int):Nat->Nat->Nat->List (Int×Bx)->Bx->Prop
 | 0,a,e,its,B=>a4b g a B/\g (a+32)=(its.length:Nat)/\(∀ it∈its,A6 B it.2)/\∃ w:Nat,(w=1∨w=2∨w=4)/\g (a+33)=(w:Nat)/\a+34+w*its.length<=e/\∀ j it,its[j]? = some it->leN g (a+34+w*j) w=it.1
 | h+1,a,e,its,B=>a4b g a B/\(∀ it∈its,A6 B it.2)/\∃ ks:List EK,its=ks.flatMap (·.its)/\g (a+32)=(ks.length:Nat)/\a+33+4*ks.length<=e/\
   ∀ j k,ks[j]? = some k->leN g (a+33+4*j) 4=(k.a:Nat)/\a+33+4*ks.length<=k.a/\k.e<=e/\a0E g h k.a k.e k.its k.B
theorem a1T{g g':Nat->Int}{p:Nat}{n:Int}(h:fl8 g p n)(hg:∀ j,j<8->g' (p+j)=g (p+j)):fl8 g' p n:=by
 obtain⟨x,h1,h2⟩:=h;exact⟨x,by rw[J2 hg];exact h1,h2⟩
theorem a0i{g g':Nat->Int}{a:Nat}{B:Bx}(h:a4b g a B)(hg:∀ j,j<32->g' (a+j)=g (a+j)):a4b g' a B:=by
 obtain⟨h1,h2,h3,h4⟩:=h;refine⟨a1T h1 λj hj=>hg j (by omega),a1T h2 λj hj=>?_,a1T h3 λj hj=>?_,a1T h4 λj hj=>?_⟩
 ·rw[Nat.add_assoc];exact hg _ (by omega)
 ·rw[Nat.add_assoc];exact hg _ (by omega)
 ·rw[Nat.add_assoc];exact hg _ (by omega)
theorem a0L{g g':Nat->Int}:∀ {h a e:Nat} {its:List (Int×Bx)} {B:Bx},a0E g h a e its B->(∀ p,a<=p->p<e->g' p=g p)->a0E g' h a e its B
 | 0,a,e,its,B,⟨h1,h2,h2b,w,h3,h4,h5,h6⟩,hg=>by
  refine⟨a0i h1 λj hj=>hg _ (by omega) (by omega),by rw[hg _ (by omega) (by omega)];exact h2,h2b,w,h3,by rw[hg _ (by omega) (by omega)];exact h4,h5,λj it hj=>?_⟩;have hlt:=(List.getElem?_eq_some_iff.1 hj).1;have hm:w*(j+1)<=w*its.length:=Nat.mul_le_mul_left w hlt;rw[Nat.mul_add,Nat.mul_one]at hm;rw[J2 λi hi=>hg _ (by omega) (by omega)];exact h6 j it hj
 | h+1,a,e,its,B,⟨h1,h2,ks,h3,h4,h5,h6⟩,hg=>by
  refine⟨a0i h1 λj hj=>hg _ (by omega) (by omega),h2,ks,h3,by rw[hg _ (by omega) (by omega)];exact h4,h5,λj k hj=>?_⟩;obtain⟨k1,k2,k3,k4⟩:=h6 j k hj;have hlt:=(List.getElem?_eq_some_iff.1 hj).1;exact⟨by rw[J2 λi hi=>hg _ (by omega) (by omega)];exact k1,k2,k3,a0L k4 λp p1 p2=>hg p (by omega) (by omega)⟩
theorem isTr.has{q:RM}:∀ {h:Nat} {k:Kid},isTr q h k->∀ it∈k.its,A6 k.B it.2
 | 0,k,⟨_,_,_,h4⟩,it,hit=>h4.1 _ (List.mem_map.2 ⟨it,hit,rfl⟩)
 | h+1,k,⟨ks,_,_,_,h4,_,h6,h7⟩,it,hit=>by
  rw[h4]at hit;obtain⟨x,hx,hit⟩:=List.mem_flatMap.1 hit;exact a0q (h6.1 _ (List.mem_map.2 ⟨x,hx,rfl⟩)) ((h7 x hx).1.has it hit)
theorem isTr.cnt{q:RM}:∀ {h:Nat} {k:Kid},isTr q h k->k.n<=k.its.length
 | 0,k,⟨_,h2,_,_⟩=>Nat.le_of_eq h2
 | h+1,k,⟨ks,h1,_,_,h4,_,_,h7⟩=>by
  rw[h1,h4]
  have key:∀ l:List Kid,(∀ x∈l,1<=x.its.length)->l.length<=(l.flatMap (·.its)).length:=by
   intro l
   induction l with
   | nil=>intro _;simp
   | cons x r ih =>
    intro hl;have h5:=hl x (by simp);have h6:=ih λy hy=>hl y (by simp[hy])
    simp only[List.flatMap_cons,List.length_append,List.length_cons];omega
  exact key ks λx hx=>Nat.le_trans (h7 x hx).2.1 (h7 x hx).1.cnt
structure V2 (q:RM) (rb rc h:Nat) (k:Kid) (b:Nat):Prop where
 D:q.D rb
 S:rc+5<=q.S rb
 ref:q.F rb rc=.iface 207 (.pointer (some ⟨k.b,0,none⟩))
 box:isBox q.F rb rc k.B
 tr:isTr q h k
 n:1<=k.n
 rk:k.b≠rb
 nd:k.fp.Nodup
 br:b≠rb
 bf:b∉k.fp
 it:∀ x∈k.its,0<=x.1/\x.1<4294967296
theorem V2.keep{q:RM}{rb rc h:Nat}{k:Kid}{b c l:Nat}{us:List Int}{i:DI}(ha:V2 q rb rc h k b)(hp:apd q b c l us i):V2 i.q rb rc h k i.b:=by
 have hr:=hp.keep _ ha.D;have hrF:=hr.2.2 (Ne.symm ha.br)
 have hne:∀ x,q.D x->x≠b->i.b≠x:=λx hx hxb e=>by
  rcases hp.nw with h1|h1
  ·exact hxb (e.symm.trans h1)
  ·exact h1 (e▸hx)
 refine⟨hr.1,by rw[hr.2.1];exact ha.S,by rw[hrF];exact ha.ref,A4 (λk _=>hrF _) ha.box,ha.tr.same λx hx=>?_,ha.n,ha.rk,ha.nd,hne _ ha.D (Ne.symm ha.br),λhm=>hne _ (ha.tr.D _ hm) (λe=>ha.bf (e▸hm)) rfl,ha.it⟩;have h1:=hp.keep x (ha.tr.D x hx);exact⟨h1.1,h1.2.1,h1.2.2 λe=>ha.bf (e▸hx)⟩
def bG(i:DI)(p:Nat):Int:=m8 (i.q.F i.b (i.c+p))
def b2y(q:RM)(rb rc b c l h:Nat)(i:DI):Prop:=∀ k,V2 q rb rc h k b->l+102*((h+1)*k.its.length)<=100000000->∃ us,apd q b c l us i/\us.length<=102*((h+1)*k.its.length)/\a0E (bG i) h l i.l k.its k.B
def b5K(q:RM)(rb rc b c l kk h:Nat):Prop:=byO q b c l kk/\∃ k,V2 q rb rc h k b/\l+102*((h+1)*k.its.length)<=100000000
noncomputable def ndN(q:RM)(nb:Nat):Nat:=(w7 q nb).length
noncomputable def hdL(q:RM)(rb rc:Nat):List Int:=byL (j1 (q.F rb (rc+1)):Nat) 8++byL (j1 (q.F rb (rc+2)):Nat) 8++byL (j1 (q.F rb (rc+3)):Nat) 8++byL (j1 (q.F rb (rc+4)):Nat) 8++[((ndN q (kb (q.F rb rc)):Nat):Int)]
def itI(q:RM)(nb t:Nat):Int:=m8 (I0 (q.F nb (1+5*t)))
structure C1 where
 i:DI
 j:Nat
 w:Int
structure C3 where
 i:DI
 j:Nat
 g:Nat->Int
def wOk(w:Int):Prop:=w=1∨w=2∨w=4
noncomputable def c1P(q:RM)(rb rc b c l:Nat)(p:C1):Prop:=apd q b c l (hdL q rb rc) p.i/\p.j<=ndN q (kb (q.F rb rc))/\wOk p.w/\∀ t,t<p.j->nbI (itI q (kb (q.F rb rc)) t)<=p.w
noncomputable def c2P(q:RM)(rb rc b c l:Nat)(p:C1):Prop:=apd q b c l (hdL q rb rc++[p.w]++(List.range p.j).flatMap λt=>byL (itI q (kb (q.F rb rc)) t) p.w.toNat) p.i/\p.j<=ndN q (kb (q.F rb rc))/\wOk p.w/\∀ t,t<ndN q (kb (q.F rb rc))->nbI (itI q (kb (q.F rb rc)) t)<=p.w
noncomputable def c3P(q:RM)(rb rc b c l:Nat)(p:C3):Prop:=apd q b c l (hdL q rb rc++List.replicate (4*p.j) 0) p.i/\p.j<=ndN q (kb (q.F rb rc))/\∀ t,t<p.j->p.g t=((l+(33+4*t):Nat):Int)
def c4K(q:RM)(b c l h:Nat)(p:C3)(k:Kid):Prop:=∃ us,apd q b c l us p.i/\a4b (bG p.i) l k.B/\bG p.i (l+32)=(k.n:Nat)/\33+4*k.n<=us.length/\
  ∃ A B:List Kid,A.length=p.j/\k.its=(A++B).flatMap (·.its)/\C5 q k.b ((A++B).map B4)/\(∀ x∈A++B,isTr q h x/\1<=x.n/\x.fp.Nodup/\k.b∉x.fp/\∀ y∈x.fp,y∈k.fp)/\us.length<=33+4*k.n+102*((h+1)*(A.flatMap (·.its)).length)/\
   ∀ t x,A[t]? = some x->∃ a e,leN (bG p.i) (l+33+4*t) 4=(a:Nat)/\l+33+4*k.n<=a/\e<=p.i.l/\a0E (bG p.i) h a e x.its x.B
noncomputable def c4P(q:RM)(rb rc b c l h:Nat)(p:C3):Prop:=p.j<=ndN q (kb (q.F rb rc))/\(∀ t,t<ndN q (kb (q.F rb rc))->p.g t=((l+(33+4*t):Nat):Int))/\
 ∀ k,V2 q rb rc (h+1) k b->l+102*((h+2)*k.its.length)<=100000000->c4K q b c l h p k
theorem c0W{α:Type}{A X C:List α}{j:Nat}(h:j<X.length):(A++X++C)[A.length+j]? = X[j]? := by
 rw[List.append_assoc,List.getElem?_append_right (by omega),List.getElem?_append_left (by omega)];congr 1;omega
theorem U6{f:Nat->List Int}{w:Nat}(h:∀ t,(f t).length=w):∀ n,((List.range n).flatMap f).length=w*n
 | 0=>by simp
 | n+1=>by rw[List.range_succ,List.flatMap_append,List.length_append,U6 h n];simp[h,Nat.mul_succ]
theorem a5P{f:Nat->List Int}{w:Nat}(h:∀ t,(f t).length=w){t s:Nat}(hs:s<w):∀ {n:Nat},t<n->((List.range n).flatMap f)[w*t+s]? = (f t)[s]?
 | 0,ht=>absurd ht (Nat.not_lt_zero t)
 | n+1,ht=>by
  rw[List.range_succ,List.flatMap_append];by_cases c:t<n
  ·rw[List.getElem?_append_left (by rw[U6 h];have:=Nat.mul_le_mul_left w c;rw[Nat.mul_succ]at this;omega)];exact a5P h hs c
  ·have:t=n:=by omega
   subst this;rw[List.getElem?_append_right (by rw[U6 h];omega),U6 h];simp
section
variable {q:RM} {rb rc h b c l:Nat} {k:Kid}
theorem a0m{us:List Int}{i:DI}(hp:apd q b c l us i){j:Nat}{x:Int}(hx:us[j]? = some x):bG i (l+j)=x:=by
 unfold bG;rw[hp.new j x hx];rfl
theorem Q3:(hdL q rb rc).length=33:=by
 simp[hdL,C9]
theorem V2.node(ha:V2 q rb rc h k b):C5 q k.b (w7 q k.b)/\ndN q k.b=k.n/\kb (q.F rb rc)=k.b/\isRef (q.F rb rc)/\k.n<=17:=by
 obtain⟨l',h1,h2,h3⟩:=ha.tr.nd;have hn:C5 q k.b (w7 q k.b):=by rw[h1.of];exact h1
 have hl:ndN q k.b=k.n:=by unfold ndN;rw[h1.of];exact h2
 exact⟨hn,hl,by rw[ha.ref];rfl,by rw[ha.ref];rfl,by rw[<-hl];exact hn.le⟩
theorem V2.off(ha:V2 q rb rc h k b){us:List Int}{i:DI}(hp:apd q b c l us i):(i.q.D k.b/\i.q.S k.b=86/\∀ y,i.q.F k.b y=q.F k.b y)/\i.q.D rb/\rc+5<=i.q.S rb/\∀ y,i.q.F rb y=q.F rb y:=by
 obtain⟨n1,_⟩:=ha.node;have h1:=hp.keep _ n1.D;have h2:=hp.keep _ ha.D;exact⟨⟨h1.1,h1.2.1.trans n1.S,h1.2.2 λe=>ha.bf (e▸ha.tr.fp0)⟩,h2.1,by rw[h2.2.1];exact ha.S,h2.2.2 (Ne.symm ha.br)⟩
theorem V2.cnt(ha:V2 q rb rc h k b){us:List Int}{i:DI}(hp:apd q b c l us i):i.q.F k.b 0=.int .i64 (k.n:Nat)/\m8 (i.q.F k.b 0)=(k.n:Nat):=by
 obtain⟨n1,n2,_⟩:=ha.node;have:i.q.F k.b 0=.int .i64 (k.n:Nat):=by rw[(ha.off hp).1.2.2,n1.n];rw[<-n2];rfl
 exact⟨this,by rw[this];rfl⟩
theorem fz.bits{v:Value}{n:Int}(h:fz v n):j1 v<18446744073709551616:=h.2.1.1.1
theorem b3Y{us:List Int}{i:DI}(hp:apd q b c l us i){A C:List Int}{x:Nat}{n:Int}(hu:us=A++byL (x:Int) 8++C)(hx:FI x n)(hn:n.natAbs<=4194304):fl8 (bG i) (l+A.length) n:=by
 refine⟨x,c7N (λj hj=>?_) (by omega) (by have:=hx.1.1;omega),hx,hn⟩;rw[Nat.add_assoc];refine a0m hp ?_;rw[hu,c0W (by rw[C9];exact hj)];simp[byL,hj]
theorem b6B{i:DI}{r:List Int}(hp:apd q b c l (hdL q rb rc++r) i){B:Bx}(hb:isBox q.F rb rc B):a4b (bG i) l B/\bG i (l+32)=((ndN q (kb (q.F rb rc)):Nat):Int):=by
 obtain⟨h1,h2,h3,h4⟩:=hb;refine⟨⟨?_,?_,?_,?_⟩,?_⟩
 ·have:=b3Y hp (A:=[]) (x:=j1 (q.F rb (rc+1))) (C:=byL (j1 (q.F rb (rc+2)):Nat) 8++byL (j1 (q.F rb (rc+3)):Nat) 8++byL (j1 (q.F rb (rc+4)):Nat) 8++[((ndN q (kb (q.F rb rc)):Nat):Int)]++r) (by simp[hdL,List.append_assoc]) h1.2.1 h1.2.2;simpa using this
 ·have:=b3Y hp (A:=byL (j1 (q.F rb (rc+1)):Nat) 8) (x:=j1 (q.F rb (rc+2))) (C:=byL (j1 (q.F rb (rc+3)):Nat) 8++byL (j1 (q.F rb (rc+4)):Nat) 8++[((ndN q (kb (q.F rb rc)):Nat):Int)]++r) (by simp[hdL,List.append_assoc]) h2.2.1 h2.2.2;simpa [C9]using this
 ·have:=b3Y hp (A:=byL (j1 (q.F rb (rc+1)):Nat) 8++byL (j1 (q.F rb (rc+2)):Nat) 8) (x:=j1 (q.F rb (rc+3))) (C:=byL (j1 (q.F rb (rc+4)):Nat) 8++[((ndN q (kb (q.F rb rc)):Nat):Int)]++r) (by simp[hdL,List.append_assoc]) h3.2.1 h3.2.2;simpa [C9]using this
 ·have:=b3Y hp (A:=byL (j1 (q.F rb (rc+1)):Nat) 8++byL (j1 (q.F rb (rc+2)):Nat) 8++byL (j1 (q.F rb (rc+3)):Nat) 8) (x:=j1 (q.F rb (rc+4))) (C:=[((ndN q (kb (q.F rb rc)):Nat):Int)]++r) (by simp[hdL,List.append_assoc]) h4.2.1 h4.2.2;simpa [C9]using this
 ·refine a0m hp ?_;rw[List.getElem?_append_left (by rw[Q3];omega)];unfold hdL;rw[List.getElem?_append_right (by simp[C9])];simp[C9]
theorem b1r(v:Int):wOk (nbI v):=by unfold wOk nbI;split <;> (try split) <;> simp
theorem wOk.r{w:Int}(h:wOk w):0<=w/\w<256:=by unfold wOk at h;omega
theorem b3r(ha:V2 q rb rc 0 k b){t:Nat}{it:Int×Bx}(ht:k.its[t]? = some it):q.F k.b (1+5*t)=.iface 3 (.int .i64 it.1)/\itI q k.b t=it.1:=by
 obtain⟨_,_,a3,_⟩:=ha.tr;have:=a3.v t (b0I it) (by rw[List.getElem?_map,ht];rfl);exact⟨this,by unfold itI;rw[this];rfl⟩
theorem b7D(ha:V2 q rb rc 0 k b){p:C1}(hp:c2P q rb rc b c l p)(hj:p.j=ndN q (kb (q.F rb rc))):∃ us,apd q b c l us p.i/\us.length<=102*((0+1)*k.its.length)/\a0E (bG p.i) 0 l p.i.l k.its k.B:=by
 obtain⟨h1,_,hw,h3⟩:=hp;obtain⟨n1,n2,n3,n4,n5⟩:=ha.node;rw[n3]at h1 h3 hj;have hkl:k.n=k.its.length:=ha.tr.2.1;have hn:=ha.n;rw[n2]at hj h3;obtain⟨w,hwe⟩:∃ w:Nat,p.w=(w:Int):=⟨p.w.toNat,by rcases hw with e|e|e <;> rw[e] <;> rfl⟩;have hw2:w=1∨w=2∨w=4:=by unfold wOk at hw;omega
 rw[hwe,Int.toNat_natCast]at h1;have hflen:∀ t,((λt=>byL (itI q k.b t) w) t).length=w:=λt=>C9 _ _
 have hlen:((List.range p.j).flatMap λt=>byL (itI q k.b t) w).length=w*p.j:=U6 hflen p.j;have h1e:apd q b c l (hdL q rb rc++([(w:Int)]++(List.range p.j).flatMap λt=>byL (itI q k.b t) w)) p.i:=by rw[<-List.append_assoc];exact h1
 obtain⟨e1,e2⟩:=b6B h1e ha.box
 have hul:(hdL q rb rc++[(w:Int)]++(List.range p.j).flatMap λt=>byL (itI q k.b t) w).length=34+w*p.j:=by
  rw[List.length_append,List.length_append,Q3,hlen];simp
 have hil:=h1.n;rw[hul]at hil;refine⟨_,h1,?_,e1,by rw[e2,n3,n2,hkl],ha.tr.has,w,hw2,?_,?_,λt it ht=>?_⟩
 ·rw[hul,hj];rcases hw2 with e|e|e <;> rw[e] <;> omega
 ·rw[show l+33=l+(hdL q rb rc).length by rw[Q3]];refine a0m h1 ?_;rw[List.append_assoc,List.getElem?_append_right (Nat.le_refl _)];simp
 ·rw[<-hkl,<-hj];omega
 ·obtain⟨i1,i2⟩:=b3r ha ht;have htl:=(List.getElem?_eq_some_iff.1 ht).1;have hr:=ha.it it (List.mem_of_getElem? ht);have hb:=h3 t (by omega);rw[i2,hwe]at hb
  have get:∀ s,s<w->bG p.i (l+34+w*t+s)=byI it.1 s:=λs hs=>by
   rw[show l+34+w*t+s=l+(34+(w*t+s)) by omega];refine a0m h1 ?_;rw[List.getElem?_append_right (by rw[List.length_append,Q3];simp)];rw[List.length_append,Q3];rw[show 34+(w*t+s)-(33+[(w:Int)].length)=w*t+s by simp];rw[a5P hflen hs (by omega),i2];simp[byL,hs]
  unfold nbI at hb;rcases hw2 with e|e|e
  ·subst e;exact c3x get hr.1 (by split at hb <;> (try split at hb) <;> omega)
  ·subst e;exact c3w get hr.1 (by split at hb <;> (try split at hb) <;> omega)
  ·subst e;exact b0z get hr.1 hr.2
end
section
variable {q:RM} {rb rc h b c l:Nat} {k:Kid}
theorem b7y(ha:V2 q rb rc (h+1) k b){p:C3}(hp:apd q b c l (hdL q rb rc++List.replicate (4*p.j) 0) p.i)(hj:p.j=k.n){p':C3}(h1:p'.i=p.i)(h2:p'.j=0):c4K q b c l h p' k:=by
 obtain⟨n1,n2,n3,n4,n5⟩:=ha.node;obtain⟨ks,a1,a2,a3,a4,a5,a6,a7⟩:=ha.tr;obtain⟨e1,e2⟩:=b6B hp ha.box
 have hfp:∀ x∈ks,x.fp.Nodup/\k.b∉x.fp/\∀ y∈x.fp,y∈k.fp:=λx hx=>by
  have hnd:=ha.nd;rw[a3]at hnd ⊢;obtain⟨h1,h2⟩:=List.nodup_cons.1 hnd;have hin:∀ y∈x.fp,y∈ks.flatMap (·.fp):=λy hy=>List.mem_flatMap.2 ⟨x,hx,hy⟩
  refine⟨?_,λe=>h1 (hin _ e),λy hy=>List.mem_cons_of_mem _ (hin y hy)⟩;obtain⟨A,B,rfl⟩:=List.append_of_mem hx;rw[List.flatMap_append,List.flatMap_cons,List.nodup_append,List.nodup_append]at h2;exact h2.2.1.1
 have hlen:(hdL q rb rc++List.replicate (4*p.j) 0).length=33+4*k.n:=by rw[List.length_append,Q3,List.length_replicate,hj]
 rw[c4K,h1];exact⟨_,hp,e1,by rw[e2,n3,n2],by omega,[],ks,h2.symm,a4,a5,λx hx=>⟨(a7 x hx).1,(a7 x hx).2.1,hfp x hx⟩,by rw[hlen];omega,λt x hx=>by simp at hx⟩
theorem b1h{us:List Int}{i:DI}(hp:apd q b c l us i){s:Nat}(hs:s+4<=us.length)(v:Int):∃ us',us'.length=us.length/\apd q b c l us' ⟨p4R i.q i.b (i.c+(l+s)) v,i.b,i.c,i.l,i.k⟩/\
  (∀ j,j<4->bG ⟨p4R i.q i.b (i.c+(l+s)) v,i.b,i.c,i.l,i.k⟩ (l+s+j)=byI v j)/\∀ p,(p<l+s∨l+s+4<=p)->bG ⟨p4R i.q i.b (i.c+(l+s)) v,i.b,i.c,i.l,i.k⟩ p=bG i p:=by
 have off:∀ x y,(x≠i.b∨y<i.c+(l+s)∨i.c+(l+s)+4<=y)->(p4R i.q i.b (i.c+(l+s)) v).F x y=i.q.F x y:=λx y hxy=>by
  show pB _ _ _ _ _ x y=_;unfold pB;rw[b8 (by omega),b8 (by omega),b8 (by omega),b8 (by omega)]
 have at4:∀ j,j<4->(p4R i.q i.b (i.c+(l+s)) v).F i.b (i.c+(l+s)+j)=.int .u8 (byI v j):=λj hj=>by
  show pB _ _ _ _ _ i.b _=_;unfold pB
  match j,hj with
  | 0,_=>rw[b8 (by omega),b8 (by omega),b8 (by omega)];exact v9
  | 1,_=>rw[b8 (by omega),b8 (by omega)];exact v9
  | 2,_=>rw[b8 (by omega)];exact v9
  | 3,_=>exact v9
 have hn:=hp.n
 have hby:∀ j,j<us.length->E7 ((p4R i.q i.b (i.c+(l+s)) v).F i.b (i.c+(l+j))):=λj hj=>by
  by_cases hc:s<=j/\j<s+4
  ·have:=at4 (j-s) (by omega);rw[show i.c+(l+s)+(j-s)=i.c+(l+j) by omega]at this;rw[this];exact E7.mk' (S7 _ _)
  ·rw[off _ _ (by omega)];exact hp.o.is (l+j) (by omega)
 refine⟨(List.range us.length).map λj=>m8 ((p4R i.q i.b (i.c+(l+s)) v).F i.b (i.c+(l+j))),by simp,hp.put (by simp) (λx hx=>?_) rfl rfl (λx y hxy=>off x y (by omega)) (λj x hx=>?_),λj hj=>?_,λp hpp=>?_⟩
 ·obtain⟨j,hj,rfl⟩:=List.mem_map.1 hx;exact⟨(hby j (by simpa using hj)).2.1,(hby j (by simpa using hj)).2.2⟩
 ·obtain⟨h1,h2⟩:=List.getElem?_eq_some_iff.1 hx;have hj:j<us.length:=by simpa using h1
  have:x=m8 ((p4R i.q i.b (i.c+(l+s)) v).F i.b (i.c+(l+j))):=by rw[<-h2];simp
  rw[this];exact(hby j hj).1
 ·unfold bG;show m8 ((p4R i.q i.b (i.c+(l+s)) v).F i.b (i.c+(l+s+j)))=_;have:=at4 j hj;rw[show i.c+(l+s)+j=i.c+(l+s+j) by omega]at this;rw[this];rfl
 ·unfold bG;show m8 ((p4R i.q i.b (i.c+(l+s)) v).F i.b (i.c+p))=m8 (i.q.F i.b (i.c+p));rw[off _ _ (by omega)]
theorem V2.kid(ha:V2 q rb rc (h+1) k b){A B:List Kid}{x:Kid}(hits:k.its=(A++x :: B).flatMap (·.its))(hnd:C5 q k.b ((A++x :: B).map B4))(hk:isTr q h x/\1<=x.n/\x.fp.Nodup/\k.b∉x.fp/\∀ y∈x.fp,y∈k.fp):V2 q k.b (1+A.length*5) h x b:=by
 have hget:((A++x :: B).map B4)[A.length]? = some (B4 x):=by simp
 have hv:=hnd.v _ _ hget;have hb:=hnd.B _ _ hget;rw[Nat.mul_comm]at hv hb;have hle:=hnd.le;have hS:=hnd.S;simp only[List.length_map,List.length_append,List.length_cons]at hle;obtain⟨k1,k2,k3,k4,k5⟩:=hk;refine⟨hnd.D,by omega,hv,hb,k1,k2,λe=>k4 (e▸k1.fp0),k3,λe=>ha.bf (e▸ha.tr.fp0),λe=>ha.bf (k5 _ e),λy hy=>ha.it y ?_⟩;rw[hits];exact List.mem_flatMap.2 ⟨x,by simp,hy⟩
theorem b4j(ha:V2 q rb rc (h+1) k b)(hbd:l+102*((h+2)*k.its.length)<=100000000){p:C3}(hp:c4K q b c l h p k)(hj:p.j<k.n) :
  l+33+4*p.j+4<=p.i.l/\p.i.l<=100000000/\byO p.i.q p.i.b p.i.c p.i.l p.i.k/\
  b5K (p4R p.i.q p.i.b (p.i.c+(l+(33+4*p.j))) (p.i.l:Nat)) k.b (1+p.j*5) p.i.b p.i.c p.i.l p.i.k h/\
  ∀ i',b2y (p4R p.i.q p.i.b (p.i.c+(l+(33+4*p.j))) (p.i.l:Nat)) k.b (1+p.j*5) p.i.b p.i.c p.i.l h i'->c4K q b c l h ⟨i',p.j+1,p.g⟩ k:=by
 obtain⟨us,u1,u2,u3,u4,A,B0,b1,b2,b3,b4,b5,b6⟩:=hp;have hn:=u1.n;obtain⟨n1,n2,n3,n4,n5⟩:=ha.node
 have hABn:(A++B0).length=k.n:=by
  have:=b3.of;unfold ndN at n2;rw[this,List.length_map]at n2;exact n2
 obtain⟨x,B,rfl⟩:∃ x B,B0=x :: B:=by
  cases B0 with
  | nil=>rw[List.append_nil]at hABn;omega
  | cons x B=>exact⟨x,B,rfl⟩
 have hkid:=ha.kid b2 b3 (b4 x (by simp));rw[b1]at hkid;have hcnt:=ha.tr.cnt
 have hits:k.its.length=(A.flatMap (·.its)).length+x.its.length+(B.flatMap (·.its)).length:=by
  rw[b2];simp only[List.flatMap_append,List.flatMap_cons,List.length_append];omega
 have m1:(h+2)*k.its.length=(h+1)*k.its.length+k.its.length:=by rw[show h+2=(h+1)+1 from rfl,Nat.add_mul,Nat.one_mul]
 have m2:(h+1)*k.its.length=(h+1)*(A.flatMap (·.its)).length+(h+1)*x.its.length+(h+1)*(B.flatMap (·.its)).length:=by rw[hits,Nat.mul_add,Nat.mul_add]
 have hn1:=ha.n;obtain⟨us2,v1,v2,v3,v4⟩:=b1h u1 (s:=33+4*p.j) (by omega) (p.i.l:Nat);have hb2:=(hkid.keep v2);refine⟨by omega,by omega,u1.o,⟨v2.o,x,hb2,by omega⟩,λi' hi'=>?_⟩;obtain⟨us3,w1,w2,w3⟩:=hi' x hb2 (by omega);have hall:=v2.trans w1;have hn3:=w1.n
 have old:∀ pp,pp<p.i.l->bG i' pp=bG ⟨p4R p.i.q p.i.b (p.i.c+(l+(33+4*p.j))) (p.i.l:Nat),p.i.b,p.i.c,p.i.l,p.i.k⟩ pp:=λpp hpp=>by
  unfold bG;rw[w1.old pp hpp]
 have old2:∀ pp,pp<p.i.l->(pp<l+(33+4*p.j)∨l+(33+4*p.j)+4<=pp)->bG i' pp=bG p.i pp:=λpp h1 h2=>(old pp h1).trans (v4 pp h2)
 refine⟨us2++us3,hall,a0i u2 λj hj=>old2 _ (by omega) (by omega),by rw[show bG i' (l+32)=bG p.i (l+32)from old2 _ (by omega) (by omega)];exact u3,by rw[List.length_append];omega,A++[x],B,by simp[b1],by rw[b2];simp,by rw[List.append_assoc];exact b3,by rw[List.append_assoc];exact b4,?_,λt y ht=>?_⟩
 ·rw[List.length_append,List.flatMap_append,List.length_append,Nat.mul_add];simp only[List.flatMap_cons,List.flatMap_nil,List.append_nil];omega
 ·by_cases hc:t<A.length
  ·rw[List.getElem?_append_left hc]at ht;obtain⟨a,e,a1,a2,a3,a4⟩:=b6 t y ht;refine⟨a,e,?_,a2,by show e<=i'.l;omega,a0L a4 λpp p1 p2=>old2 pp (by omega) (by omega)⟩;rw[J2 λj hj=>old2 _ (by omega) (by omega)];exact a1
  ·have htl:t=A.length:=by
    have:=(List.getElem?_eq_some_iff.1 ht).1;simp at this;omega
   subst htl;simp at ht;subst ht;refine⟨p.i.l,i'.l,?_,by omega,Nat.le_refl _,w3⟩;rw[b1];refine b0z (λj hj=>?_) (by omega) (by omega);rw[Nat.add_assoc l 33];exact(old _ (by omega)).trans (v3 j hj)
theorem c5o(ha:V2 q rb rc (h+1) k b){p:C3}(hp:c4K q b c l h p k)(hj:p.j=k.n):∃ us,apd q b c l us p.i/\us.length<=102*((h+1+1)*k.its.length)/\a0E (bG p.i) (h+1) l p.i.l k.its k.B:=by
 obtain⟨us,u1,u2,u3,u4,A,B,b1,b2,b3,b4,b5,b6⟩:=hp;have hn:=u1.n;obtain⟨n1,n2,n3,n4,n5⟩:=ha.node
 have hABn:(A++B).length=k.n:=by
  have:=b3.of;unfold ndN at n2;rw[this,List.length_map]at n2;exact n2
 have hB:B=[]:=by
  rw[List.length_append]at hABn;exact List.length_eq_zero_iff.1 (by omega)
 subst hB;rw[List.append_nil]at b2 b3 hABn;have hcnt:=ha.tr.cnt;have m1:(h+1+1)*k.its.length=(h+1)*k.its.length+k.its.length:=by rw[Nat.add_mul (h+1),Nat.one_mul]
 rw[<-b2]at b5;have hn1:=ha.n
 have hch:∃ ks:List EK,ks.length=A.length/\∀ t x,A[t]? = some x->∃ kk,ks[t]? = some kk/\kk.its=x.its/\kk.B=x.B/\leN (bG p.i) (l+33+4*t) 4=(kk.a:Nat)/\l+33+4*k.n<=kk.a/\kk.e<=p.i.l/\a0E (bG p.i) h kk.a kk.e x.its x.B:=by
  clear b1 b2 b3 b4 b5 hABn hj
  have:∀(A:List Kid)(s:Nat),(∀ t x,A[t]? = some x->∃ a e,leN (bG p.i) (l+33+4*(s+t)) 4=(a:Nat)/\l+33+4*k.n<=a/\e<=p.i.l/\a0E (bG p.i) h a e x.its x.B)->
    ∃ ks:List EK,ks.length=A.length/\∀ t x,A[t]? = some x->∃ kk,ks[t]? = some kk/\kk.its=x.its/\kk.B=x.B/\leN (bG p.i) (l+33+4*(s+t)) 4=(kk.a:Nat)/\l+33+4*k.n<=kk.a/\kk.e<=p.i.l/\a0E (bG p.i) h kk.a kk.e x.its x.B:=by
   intro A
   induction A with
   | nil=>intro s _;exact⟨[],rfl,λt x ht=>by simp at ht⟩
   | cons x r ih =>
    intro s hs;obtain⟨a,e,c1,c2,c3,c4⟩:=hs 0 x rfl
    obtain⟨ks,d1,d2⟩:=ih (s+1) λt y ht=>by
     have:=hs (t+1) y (by simpa using ht);rw[show s+1+t=s+(t+1) by omega];exact this
    refine⟨⟨a,e,x.its,x.B⟩ :: ks,by simp[d1],λt y ht=>?_⟩
    cases t with
    | zero=>simp at ht;subst ht;exact⟨_,rfl,rfl,rfl,c1,c2,c3,c4⟩
    | succ t =>
     obtain⟨kk,f1,f2⟩:=d2 t y (by simpa using ht);rw[show s+1+t=s+(t+1) by omega]at f2;exact⟨kk,by simpa using f1,f2⟩
  obtain⟨ks,g1,g2⟩:=this A 0 λt x ht=>by rw[Nat.zero_add];exact b6 t x ht
  exact⟨ks,g1,λt x ht=>by have:=g2 t x ht;rw[Nat.zero_add]at this;exact this⟩
 obtain⟨ks,g1,g2⟩:=hch;refine⟨us,u1,by omega,u2,ha.tr.has,ks,?_,by rw[u3,g1,hABn],by rw[g1,hABn];omega,λt kk ht=>?_⟩
 ·rw[b2]
  have:∀(A:List Kid)(ks:List EK),ks.length=A.length->(∀(t:Nat)(x:Kid),A[t]? = some x->∃ kk:EK,ks[t]? = some kk/\kk.its=x.its)->A.flatMap (·.its)=ks.flatMap (·.its):=by
   intro A
   induction A with
   | nil=>intro ks hl _;cases ks with|nil=>rfl|cons a r=>simp at hl
   | cons x r ih =>
    intro ks hl hs
    cases ks with
    | nil=>simp at hl
    | cons kk rr =>
     obtain⟨k0,e1,e2⟩:=hs 0 x rfl;simp at e1;subst e1;simp only[List.flatMap_cons]
     rw[e2,ih rr (by simpa using hl) λt y ht=>by
      have:=hs (t+1) y (by simpa using ht)
      simpa using this]
  exact this A ks g1 λt x ht=>by obtain⟨kk,e1,e2,_⟩:=g2 t x ht;exact⟨kk,e1,e2⟩
 ·have htl:t<A.length:=by
   have:=(List.getElem?_eq_some_iff.1 ht).1;omega
  obtain⟨k0,e1,e2,e3,e4,e5,e6,e7⟩:=g2 t _ (List.getElem?_eq_getElem htl);rw[ht]at e1;cases e1;exact⟨e4,by rw[g1,hABn];exact e5,e6,by rw[e2,e3];exact e7⟩
end
end Go.Proofs.Tryz.Sx
