/- Parts of a proof, in order: what each says stands at its head. No conditions. -/
import Derived.Test.YtfhkmkhcofodmaaGreatM6
import Derived.Test.YtfhkmkhcofodmaaGreatM5
import Derived.Test.YtfhkmkhcofodmaaGreatM3
import Derived.Test.YtfhkmkhcofodmaaGreatM4
namespace Go.Proofs.Tryz.Sx
open Go Go.Sx Go.Proofs Go.Fl Go.Geo
set_option maxRecDepth 100000
noncomputable def b8Y(rb rc nb:Nat)(hh:Int)(i:DI)(r:Slots):Slots:=(0, .pb 0 rb rc) :: (1, .slb 0 i.b i.c i.l i.k) :: (2, .int .i64 hh) :: (7, .pb 0 nb 0) :: r
noncomputable def hdC(ts:List Nat)(q:RM)(rb rc b c l:Nat)(hh:Int):Nat×Fam:=(7,⟨DI,λi=>⟨155,b8Y rb rc (kb (q.F rb rc)) hh i [],[(0,rwO ts i.q)],1⟩,λi=>apd q b c l (hdL q rb rc) i,λ_=>0⟩)
noncomputable def c1L(ts:List Nat)(q:RM)(rb rc b c l:Nat)(hh:Int):O9:=⟨⟨C1,λp=>⟨155,b8Y rb rc (kb (q.F rb rc)) hh p.i [(8, .int .u8 p.w),(9, .int .i64 p.j)],[(0,rwO ts p.i.q)],1⟩,λp=>hh=0/\c1P q rb rc b c l p,λp=>ndN q (kb (q.F rb rc))-p.j⟩,λ_=>[]⟩
noncomputable def c2L(ts:List Nat)(q:RM)(rb rc b c l:Nat)(hh:Int):O9:=⟨⟨C1,λp=>⟨155,b8Y rb rc (kb (q.F rb rc)) hh p.i [(8, .int .u8 p.w),(11, .int .i64 p.j)],[(0,rwO ts p.i.q)],1⟩,λp=>hh=0/\c2P q rb rc b c l p,λp=>ndN q (kb (q.F rb rc))-p.j⟩,λ_=>[]⟩
noncomputable def c6L(q:RM)(rb rc:Nat)(g:Nat->Int):Ob:=⟨true,3, .ints .i64 (ndN q (kb (q.F rb rc))) g,1⟩
noncomputable def c3L(ts:List Nat)(q:RM)(rb rc b c l:Nat)(hh:Int):O9:=⟨⟨C3,λp=>⟨155,b8Y rb rc (kb (q.F rb rc)) hh p.i [(12, .slcc 1 (ndN q (kb (q.F rb rc)))),(13, .int .i64 p.j)],[(0,rwO ts p.i.q),(1,c6L q rb rc p.g)],2⟩,λp=>hh≠0/\c3P q rb rc b c l p,λp=>ndN q (kb (q.F rb rc))-p.j⟩,λ_=>[]⟩
noncomputable def c4L(ts:List Nat)(q:RM)(rb rc b c l:Nat)(hh:Int):O9:=⟨⟨C3,λp=>⟨155,b8Y rb rc (kb (q.F rb rc)) hh p.i [(12, .slcc 1 (ndN q (kb (q.F rb rc)))),(14, .int .i64 p.j)],[(0,rwO ts p.i.q),(1,c6L q rb rc p.g)],2⟩,λp=>hh≠0/\c4P q rb rc b c l (hh.toNat-1) p,λp=>ndN q (kb (q.F rb rc))-p.j⟩,λ_=>[]⟩
noncomputable def b2x(K:Nat):List SV->RRd DI
 | [.pb n rb rc, .slb n1 b c l kk, .int .i64 hh]=>.read n λo0=>(match G2 o0 with
  | some (ts,q)=>.ret ⟨[.pb 0 rb rc, .slb 0 b c l kk, .int .i64 hh],[(0,rwO ts q)],some (n=n1/\((0<=hh/\hh<(K:Int)/\hh<1000)/\b5K q rb rc b c l kk hh.toNat)),λi=>b2y q rb rc b c l hh.toNat i,λi=>⟨[],[], .slb 0 i.b i.c i.l i.k,[(0,rwO ts (i.q))],[],none⟩⟩
  | none=>.fail)
 | _=>.fail
noncomputable def GCb:Ctx:=⟨⟨tys,[]⟩,[(125,l8 b4D)]⟩
theorem gCb:v8 Tryz.prog GCb:=⟨⟨z6,FlatsOk.nil⟩,g8.cons (.pure c8f) g8.nil,by kernel_rfl⟩
noncomputable def X8(H:Nat):D7:=⟨GCb,[(122,l9 DI ⟨default⟩ (b2x H)),(121,l9 Unit ⟨()⟩ a8d),(126,l9 DI ⟨default⟩ a5e),(131,l9 DI ⟨default⟩ a9w)],[],[],[(185,0)]⟩
theorem x8(H:Nat)(ih:u6 Tryz.prog 122 (l9 DI ⟨default⟩ (b2x H))):y9 Tryz.prog (X8 H):=⟨gCb,q8.cons ih (q8.cons c0r (q8.cons b7z (q8.cons c5a q8.nil)))⟩
noncomputable def c2G(K:Nat):List SV->RRd (DI)
 | [.pb n rb rc, .slb n1 b c l kk, .int .i64 hh]=>.read n λo0=>(match G2 o0 with
  | some (ts,q)=>.ret ⟨[.pb 0 rb rc, .slb 0 b c l kk, .int .i64 hh],[(0,rwO ts q)],some (n=n1/\((0<=hh/\hh<(K:Int)/\hh<1000)/\b5K q rb rc b c l kk hh.toNat)),λi=>b2y q rb rc b c l hh.toNat i,λi=>⟨[],[], .slb 0 i.b i.c i.l i.k,[(0,rwO ts (i.q))],[],none⟩⟩
  | none=>.fail)
 | _=>.fail
theorem c0i(R:Option Ob->SV->Prop)(H:Nat)(ts:List Nat)(q:RM)(rb rc b c l kk:Nat)(hh:Int){T1}(t1:T1=(kb (q.3 rb rc))){T2}(t2:T2=λ(i:C3)=>(RM.mk (RM.D (p4R (RM.mk (RM.D (DI.q (C3.i i))) (RM.S (DI.q (C3.i i))) (RM.F (DI.q (C3.i i)))) (DI.b (C3.i i)) (DI.c (C3.i i)+Int.toNat (C3.g i (0+Int.toNat (↑(C3.j i):Int)*TI.size ty3)) *
 TI.size ty5) (IntKind.wrap IntKind.u32 (↑(DI.l (C3.i i)):Int)))) (DI.q (C3.i i)).2 (pB (pB (pB (pB (DI.q (C3.i i)).3 (DI.b (C3.i i)) (DI.c (C3.i i)+Int.toNat (i.3 (0+Int.toNat (↑(C3.j i):Int)*1))*1) (IntKind.wrap IntKind.u32 (↑(DI.l
 (C3.i i)):Int)) 0) (DI.b (C3.i i)) (DI.c (C3.i i)+Int.toNat (i.3 (0+Int.toNat (↑(C3.j i):Int)*1))*1) (IntKind.wrap IntKind.u32 (↑(DI.l (C3.i i)):Int)) 1) (DI.b (C3.i i)) (DI.c (C3.i i)+Int.toNat (i.3 (0+Int.toNat (↑(C3.j i):Int)
 * 1))*1) (IntKind.wrap IntKind.u32 (↑(DI.l (C3.i i)):Int)) 2) (DI.b (C3.i i)) (DI.c (C3.i i)+Int.toNat (i.3 (0+Int.toNat (↑(C3.j i):Int)*1))*1) (IntKind.wrap IntKind.u32 (↑(DI.l (C3.i i)):Int)) 3))){T3}(t3:T3=λ(i:C1)=>((DI.q (C1.i
 i)).3 T1 (1+Int.toNat (↑(C1.j i):Int)*5+0))){T4}(t4:T4=(True/\kb (q.3 rb rc)=kb (q.3 rb rc)/\0=0)){T5}(t5:T5=λ(i:C1)=>(DI.q (C1.i i))){T6}(t6:T6=λ(i:C3)=>(↑(C3.j i):Int)){T7}(t7:T7=(True/\rb=rb/\rc=rc)){T8}(t8:T8=fun
 (i:C3)=>(DI.q (C3.i i))){T9}(t9:T9=(I0 (q.3 rb (rc+0)))){T10}(t10:T10=λ(i:C1)=>(↑(C1.j i):Int)){T11}(t11:T11=λ(i:C1) (pq:C1)=>(True/\DI.b (C1.i i)=DI.b (C1.i pq)/\DI.c (C1.i i)=DI.c (C1.i pq)/\DI.l (C1.i i)=DI.l (C1.i pq)/\DI.k
 (C1.i i)=DI.k (C1.i pq))){T12}(t12:T12=λ(i:C1)=>(IntKind.wrap IntKind.u32 (m8 (I0 (T3 i))))){T13}(t13:T13=λ(i:C1) (pq:C1)=>(0=0/\0=0/\ts=ts/\(T5 i).3=(DI.q (C1.i pq)).3/\(T5 i).2=(DI.q (C1.i pq)).2/\RM.D (T5 i)=RM.D
 (DI.q (C1.i pq)))){T14}(t14:T14=λ(i:DI)=>(RM.mk (RM.D (DI.q i)) (DI.q i).2 (DI.q i).3)){T15}(t15:T15=λ(i:C3)=>(0+Int.toNat (T6 i)*1)){T16}(t16:T16=λ(pq:C3)=>(DI.q (C3.i pq))){T17}(t17:T17=λ(j:DI)=>((DI.q j).3 T1 0)){T18}(t18:T18=fun
 (i:DI)=>(byO (T14 i) (DI.b i) (DI.c i) (DI.l i) (DI.k i)/\DI.l i<=1000000000)){T19}(t19:T19=λ(pq:C1)=>(hh=(0:Int)/\c1P q rb rc b c l pq)){T20}(t20:T20=(True/\ndN q T1=ndN q T1)){T21}(t21:T21=λ(i:C3)=>((0<=(T6 i)/\(T6 i)<(↑(ndN q
 T1):Int))/\1<=ndN q T1)){T22}(t22:T22=λ(pq:C1)=>(DI.q (C1.i pq))){T23}(t23:T23=(hh-(1:Int))){T24}(t24:T24=λ(i:C1)=>((T5 i).1 T1/\0<(T5 i).2 T1/\A1 .i64 ((T5 i).3 T1 0))){T25}(t25:T25=λ(i:C3)=>((T8 i).1 T1/\0<(T8 i).2 T1/\
 A1 .i64 ((T8 i).3 T1 0))){T26}(t26:T26=λ(i:C3)=>(DI.b (C3.i i))){T27}(t27:T27=λ(i:C3)=>(DI.l (C3.i i))):J7 (X8 H) 1 [(10,c1L ts q rb rc b c l hh),(17,c2L ts q rb rc b c l hh),(23,c3L ts q rb rc b c l hh),(28,c4L ts q rb rc b c l hh)] [hdC ts q rb rc b c l hh] (j3 Tryz.f122) (q9 Tryz.f122.ntmps [.pb 0 rb rc, .slb 0 b c l kk, .int .i64 hh] [(0,rwO ts q)] 1) (r6 (X8 H).G.E.T Tryz.f122.results.toList λS v=>R (Go.Sx.look S.H 0) v)=(
 (q.1 rb/\rc+0<q.2 rb)/\(a1X 207 (q.3 rb (rc+0))/\a0J T9)/\((0:Int)<=0/\(0:Int)<2)/\(q.1 rb/\rc+1+0<q.2 rb/\u5 .f64 (q.3 rb (rc+1+0)))/\∀(i:DI),((byO (RM.mk (RM.D q) q.2 q.3) b c l kk/\l<=1000000000)/\j1
 (q.3 rb (rc+1+0))<18446744073709551616)/\(apd (RM.mk (RM.D q) q.2 q.3) b c l (byL (↑(j1 (q.3 rb (rc+1+0))):Int) 8) i->((0:Int)<=1/\(1:Int)<2)/\((DI.q i).1 rb/\rc+1+1<(DI.q i).2 rb/\u5 .f64 ((DI.q i).3 rb (rc+1 +
 1)))/\∀(i_1:DI),((T18 i)/\j1 ((DI.q i).3 rb (rc+1+1))<18446744073709551616)/\(apd (T14 i) (DI.b i) (DI.c i) (DI.l i) (byL (↑(j1 ((DI.q i).3 rb (rc+1+1))):Int) 8) i_1->((0:Int)<=0/\(0:Int)<(2:Int))/\((DI.q i_1).1 rb
 /\rc+3+0<(DI.q i_1).2 rb/\u5 .f64 ((DI.q i_1).3 rb (rc+3+0)))/\∀(i:DI),((byO (RM.mk (RM.D (DI.q i_1)) (DI.q i_1).2 (DI.q i_1).3) (DI.b i_1) (DI.c i_1) (DI.l i_1) (DI.k i_1)/\DI.l i_1<=1000000000)/\j1 ((DI.q i_1).3 rb (rc+3 +
 0))<18446744073709551616)/\(apd (RM.mk (RM.D (DI.q i_1)) (DI.q i_1).2 (DI.q i_1).3) (DI.b i_1) (DI.c i_1) (DI.l i_1) (byL (↑(j1 ((DI.q i_1).3 rb (rc+3+0))):Int) 8) i->((0:Int)<=1/\(1:Int)<2)/\((DI.q i).1 rb/\rc+3+1<(DI.q
 i).2 rb/\u5 .f64 ((DI.q i).3 rb (rc+3+1)))/\∀(i_2:DI),((T18 i)/\j1 ((DI.q i).3 rb (rc+3+1))<18446744073709551616)/\(apd (T14 i) (DI.b i) (DI.c i) (DI.l i) (byL (↑(j1 ((DI.q i).3 rb (rc+3+1))):Int) 8) i_2->(((DI.q
 i_2).1 (ptB T9)/\ptC T9+0<(DI.q i_2).2 (ptB T9)/\A1 .i64 ((DI.q i_2).3 (ptB T9) (ptC T9+0)))/\∀(i:ApI),appO (RM.D (DI.q i_2)) (DI.q i_2).2 1 1 (DI.b i_2) (DI.c i_2) (DI.l i_2) (DI.k i_2) 1/\(L9 (RM.D (DI.q i_2)) (DI.q i_2).2 (DI.q
 i_2).3 1 (DI.b i_2) (DI.c i_2) (DI.l i_2) (DI.k i_2) 1 [Value.int .u8 (IntKind.wrap .u8 (m8 ((DI.q i_2).3 (ptB T9) (ptC T9+0))))] i->∃(pq:DI),apd q b c l (hdL q rb rc) pq/\(T7/\(True/\i.1=DI.b pq/\i.2=DI.c pq/\DI.l i_2+1=DI.l pq
 /\i.3=DI.k pq)/\hh=hh/\(True/\ptB T9=kb (q.3 rb rc)/\ptC T9=0)/\True)/\True/\(0=0/\0=0/\ts=ts/\i.6=(DI.q pq).3/\i.5=(DI.q pq).2/\ApI.D i=RM.D (DI.q pq))/\True))/\∀(j:DI),apd q b c l (hdL q rb rc) j->((hh==(0 :
 Int))=true->(∃(pq:C1),(T19 pq)/\(T7/\(True/\DI.b j=DI.b (C1.i pq)/\DI.c j=DI.c (C1.i pq)/\DI.l j=DI.l (C1.i pq)/\DI.k j=DI.k (C1.i pq))/\hh=hh/\T4/\(1:Int)=C1.w pq/\0=(↑(C1.j pq):Int)/\True)/\True/\(0=0/\0=0
 /\ts=ts/\(DI.q j).3=(T22 pq).3/\(DI.q j).2=(T22 pq).2/\RM.D (DI.q j)=RM.D (T22 pq))/\True)/\∀(i:C1),hh=(0:Int)/\c1P q rb rc b c l i->(T24 i)/\(decide ((T10 i)<m8 ((T5 i).3 T1 0))=true->(0<=(T10 i)/\(T10 i)<(17 :
 Int))/\((T5 i).1 T1/\1+Int.toNat (T10 i)*5+0<(T5 i).2 T1)/\(a1X 3 (T3 i)/\A1 .i64 (I0 (T3 i)))/\(decide (C1.w i<nbI (T12 i))=true->∃(pq:C1),(T19 pq)/\ndN q T1-C1.j pq<ndN q T1-C1.j i/\(T7/\(T11 i pq)/\hh=hh/\
 T4/\nbI (T12 i)=C1.w pq/\IntKind.wrap .i64 ((T10 i)+(1:Int))=(↑(C1.j pq):Int)/\True)/\True/\(T13 i pq)/\True)/\(decide (C1.w i<nbI (T12 i))=false->∃(pq:C1),(T19 pq)/\ndN q T1-C1.j pq<ndN q T1-C1.j i/\(T7/\(T11 i pq)
 /\hh=hh/\T4/\C1.w i=C1.w pq/\IntKind.wrap .i64 ((T10 i)+1)=(↑(C1.j pq):Int)/\True)/\True/\(T13 i pq)/\True))/\(decide ((T10 i)<m8 ((T5 i).3 T1 0))=false->∀(i_3:ApI),appO (RM.D (T5 i)) (T5 i).2 1 1 (DI.b (C1.i i)) (DI.c
 (C1.i i)) (DI.l (C1.i i)) (DI.k (C1.i i)) 1/\(L9 (RM.D (T5 i)) (T5 i).2 (T5 i).3 1 (DI.b (C1.i i)) (DI.c (C1.i i)) (DI.l (C1.i i)) (DI.k (C1.i i)) 1 [Value.int .u8 (C1.w i)] i_3->(∃(pq:C1),(hh=(0:Int)/\c2P q rb rc b c l pq)/\(T7/\(True
 /\i_3.1=DI.b (C1.i pq)/\i_3.2=DI.c (C1.i pq)/\DI.l (C1.i i)+1=DI.l (C1.i pq)/\i_3.3=DI.k (C1.i pq))/\hh=hh/\T4/\C1.w i=C1.w pq/\(0:Int)=(↑(C1.j pq):Int)/\True)/\True/\(0=0/\0=0/\ts=ts/\i_3.6=(T22 pq).3/\i_3.5
 = (T22 pq).2/\ApI.D i_3=RM.D (T22 pq))/\True)/\∀(i:C1),hh=(0:Int)/\c2P q rb rc b c l i->(T24 i)/\(decide ((T10 i)<m8 ((T5 i).3 T1 0))=true->(0<=(T10 i)/\(T10 i)<17)/\((T5 i).1 T1/\1+Int.toNat (T10 i)*5+0<(T5 i).2
 T1)/\(a1X 3 (T3 i)/\A1 .i64 (I0 (T3 i)))/\∀(i_4:DI),((byO (RM.mk (RM.D (T5 i)) (T5 i).2 (T5 i).3) (DI.b (C1.i i)) (DI.c (C1.i i)) (DI.l (C1.i i)) (DI.k (C1.i i))/\DI.l (C1.i i)<=1000000000)/\((0:Int)<=IntKind.wrap IntKind.u32 (m8
 (I0 (T3 i)))/\IntKind.wrap IntKind.u32 (m8 (I0 (T3 i)))<(4294967296:Int))/\(C1.w i=(1:Int)∨C1.w i=(2:Int)∨C1.w i=(4:Int)))/\(apd (RM.mk (RM.D (T5 i)) (T5 i).2 (T5 i).3) (DI.b (C1.i i)) (DI.c (C1.i i)) (DI.l (C1.i i)) (byL
 (T12 i) (Int.toNat (C1.w i))) i_4->∃(pq:C1),(hh=(0:Int)/\c2P q rb rc b c l pq)/\ndN q T1-C1.j pq<ndN q T1-C1.j i/\(T7/\(True/\DI.b i_4=DI.b (C1.i pq)/\DI.c i_4=DI.c (C1.i pq)/\DI.l i_4=DI.l (C1.i pq)/\DI.k i_4=DI.k
 (C1.i pq))/\hh=hh/\T4/\C1.w i=C1.w pq/\IntKind.wrap .i64 ((T10 i)+1)=(↑(C1.j pq):Int)/\True)/\True/\(0=0/\0=0/\ts=ts/\(DI.q i_4).3=(T22 pq).3/\(DI.q i_4).2=(T22 pq).2/\RM.D (DI.q i_4)=RM.D (T22 pq))/\True))/\
 (decide ((T10 i)<m8 ((T5 i).3 T1 0))=false->R (Option.some (Ob.mk true 0 (a9.raw ts (RM.D (T5 i)) (T5 i).2 (T5 i).3) 0)) (SV.slb 0 (DI.b (C1.i i)) (DI.c (C1.i i)) (DI.l (C1.i i)) (DI.k (C1.i i)))))))/\((hh==(0:Int))=false->((DI.q
 j).1 T1/\0<(DI.q j).2 T1/\A1 .i64 (T17 j))/\(m8 (T17 j)=m8 (T17 j)/\(0:Int)<=m8 (T17 j)/\m8 (T17 j)<=(9223372036854775807:Int)/\m8 (T17 j)*(8:Int)<=140737488355328)/\(∃(pq:C3),(hh≠(0:Int)/\c3P q rb rc b c l
 pq)/\(T7/\(True/\DI.b j=DI.b (C3.i pq)/\DI.c j=DI.c (C3.i pq)/\DI.l j=DI.l (C3.i pq)/\DI.k j=DI.k (C3.i pq))/\hh=hh/\T4/\(True/\Int.toNat (m8 (T17 j))=ndN q T1)/\0=(↑(C3.j pq):Int)/\True)/\True/\(0=0/\0=0/\ts =
 ts/\(DI.q j).3=(T16 pq).3/\(DI.q j).2=(T16 pq).2/\RM.D (DI.q j)=RM.D (T16 pq))/\True/\(3=3/\1=1/\ndN q T1<=Int.toNat (m8 (T17 j))*1/\∀(i:Nat),i<ndN q T1->(0:Int)=pq.3 i)/\True)/\∀(i:C3),hh≠(0:Int)/\c3P q
 rb rc b c l i->(T25 i)/\(decide ((T6 i)<m8 ((T8 i).3 T1 0))=true->(T21 i)/\0+Int.toNat (T6 i)*1+1<=ndN q T1/\∀(i_3:ApI),appO (RM.D (T8 i)) (T8 i).2 1 1 (T26 i) (DI.c (C3.i i)) (T27 i) (DI.k (C3.i i)) 4/\(L9 (RM.D (T8 i)) (T8
 i).2 (T8 i).3 1 (T26 i) (DI.c (C3.i i)) (T27 i) (DI.k (C3.i i)) 4 [Value.int .u8 (0:Int),Value.int .u8 (0:Int),Value.int .u8 (0:Int),Value.int .u8 (0:Int)] i_3->∃(pq:C3),(hh≠(0:Int)/\c3P q rb rc b c l pq)/\ndN q T1-C3.j pq <
 ndN q T1-C3.j i/\(T7/\(True/\i_3.1=DI.b (C3.i pq)/\i_3.2=DI.c (C3.i pq)/\DI.l (C3.i i)+4=DI.l (C3.i pq)/\i_3.3=DI.k (C3.i pq))/\hh=hh/\T4/\T20/\IntKind.wrap .i64 ((T6 i)+1)=(↑(C3.j pq):Int)/\True)/\True/\(0=0/\0 =
 0/\ts=ts/\i_3.6=(T16 pq).3/\i_3.5=(T16 pq).2/\ApI.D i_3=RM.D (T16 pq))/\True/\(3=3/\1=1/\ndN q T1<=ndN q T1/\∀(i_4:Nat),i_4<ndN q T1->upd (C3.g i) (T15 i) (↑(T27 i):Int) i_4=pq.3 i_4)/\True))/\(decide ((T6 i)<m8
 ((T8 i).3 T1 0))=false->(∃(pq:C3),(hh≠(0:Int)/\c4P q rb rc b c l (Int.toNat hh-1) pq)/\(T7/\(True/\DI.b (C3.i i)=DI.b (C3.i pq)/\DI.c (C3.i i)=DI.c (C3.i pq)/\DI.l (C3.i i)=DI.l (C3.i pq)/\DI.k (C3.i i)=DI.k (C3.i pq))/\
 hh=hh/\T4/\T20/\0=(↑(C3.j pq):Int)/\True)/\True/\(0=0/\0=0/\ts=ts/\(T8 i).3=(T16 pq).3/\(T8 i).2=(T16 pq).2/\RM.D (T8 i)=RM.D (T16 pq))/\True/\(3=3/\1=1/\ndN q T1<=ndN q T1/\∀(i_3:Nat),i_3<ndN q T1->i.3
 i_3=pq.3 i_3)/\True)/\∀(i:C3),hh≠(0:Int)/\c4P q rb rc b c l (Int.toNat hh-1) i->(T25 i)/\(decide ((T6 i)<m8 ((T8 i).3 T1 0))=true->∀(_:Unit),(T21 i)/\0+Int.toNat (T6 i)*1+1<=ndN q T1/\((0:Int)<=i.3 (T15 i)/\
 Int.toNat (i.3 (T15 i))<=DI.l (C3.i i)/\Int.toNat (i.3 (T15 i))<DI.k (C3.i i))/\(((0:Int)<=IntKind.wrap IntKind.u32 (↑(T27 i):Int)/\IntKind.wrap IntKind.u32 (↑(T27 i):Int)<4294967296)/\(4<=DI.l (C3.i i)-Int.toNat (i.3 (T15 i))/\
 (T8 i).1 (T26 i)/\DI.c (C3.i i)+Int.toNat (i.3 (T15 i))*1+4<=(RM.mk (RM.D (T8 i)) (RM.S (T8 i)) (RM.F (T8 i))).2 (T26 i))/\A1 .u8 ((RM.mk (RM.D (T8 i)) (RM.S (T8 i)) (RM.F (T8 i))).3 (T26 i) (DI.c (C3.i i)+Int.toNat (i.3 (T15 i))*1 +
 3)))/\true=true/\(True->((0:Int)<=(T6 i)/\(T6 i)<17)/\∀(i_4:DI),(0=0/\((0:Int)<=IntKind.wrap .i64 T23/\IntKind.wrap .i64 T23<(↑H:Int)/\IntKind.wrap .i64 T23<(1000:Int))/\b5K (T2 i) T1 (1+Int.toNat (T6 i)*5) (T26
 i) (DI.c (C3.i i)) (T27 i) (DI.k (C3.i i)) (Int.toNat (IntKind.wrap .i64 T23)))/\(b2y (T2 i) T1 (1+Int.toNat (T6 i)*5) (T26 i) (DI.c (C3.i i)) (T27 i) (Int.toNat (IntKind.wrap .i64 T23)) i_4->∃(pq:C3),(hh≠(0:Int)/\c4P q rb rc b c l
 (Int.toNat hh-1) pq)/\ndN q T1-C3.j pq<ndN q T1-C3.j i/\(T7/\(True/\DI.b i_4=DI.b (C3.i pq)/\DI.c i_4=DI.c (C3.i pq)/\DI.l i_4=DI.l (C3.i pq)/\DI.k i_4=DI.k (C3.i pq))/\hh=hh/\T4/\T20/\IntKind.wrap .i64 ((T6 i)+1) =
 (↑(C3.j pq):Int)/\True)/\True/\(0=0/\0=0/\ts=ts/\(DI.q i_4).3=(T16 pq).3/\(DI.q i_4).2=(T16 pq).2/\RM.D (DI.q i_4)=RM.D (T16 pq))/\True/\(3=3/\1=1/\ndN q T1<=ndN q T1/\∀(i_5:Nat),i_5<ndN q T1->i.3 i_5=pq.3
 i_5)/\True)))/\(decide ((T6 i)<m8 ((T8 i).3 T1 0))=false->R (Option.some (Ob.mk true 0 (a9.raw ts (RM.D (T8 i)) (T8 i).2 (T8 i).3) 0)) (SV.slb 0 (T26 i) (DI.c (C3.i i)) (T27 i) (DI.k (C3.i i))))))))))):=by subst t1 t2 t3 t4 t5 t6 t7 t8 t9 t10 t11 t12 t13 t14 t15 t16 t17 t18 t19 t20 t21 t22 t23 t24 t25 t26 t27;kernel_rfl
theorem c9J(H:Nat)(ih:u6 Tryz.prog 122 (l9 DI ⟨default⟩ (b2x H))):u6 Tryz.prog 122 (l9 (DI) ⟨default⟩ (c2G (H+1))):=by
 refine A7 (x8 H ih) Tryz.func122 rfl (by kernel_rfl) λargs=>?_
 unfold c2G;split
 ·rename_i n rb rc n1 b c l kk hh;intro o0;try dsimp only
  split
  ·rename_i ts q hm0;intro ho;replace ho:n=n1/\((0<=hh/\hh<((H+1):Int)/\hh<1000)/\b5K q rb rc b c l kk hh.toNat):=ho;obtain⟨heq0,ho⟩:=ho;subst heq0;refine⟨?_,Nat.succ_pos _,ts,λ(i:DI)=>i.q,λ(i:DI)=>.slb 0 i.b i.c i.l i.k,λ_=>rfl,?_,_,_,(c0i (G6 1 ts (λ(i:DI)=>b2y q rb rc b c l hh.toNat i) (λ(i:DI)=>i.q) (λ(i:DI)=>.slb 0 i.b i.c i.l i.k)) H ts q rb rc b c l kk hh rfl rfl rfl rfl rfl rfl rfl rfl rfl rfl rfl rfl rfl rfl rfl rfl rfl rfl rfl rfl rfl rfl rfl rfl rfl rfl rfl).mpr ?_⟩
   ·refine g9 rfl ⟨λ_=>rfl,?_,⟨trivial,z9 hm0,trivial⟩⟩;simp[j9,o8,p8,o9,p7,nth,a8]
   ·intro i _;rfl
   ·obtain⟨⟨hh0,hhK,hh1000⟩,hO,k,ha,hbd⟩:=ho;obtain⟨n1,n2,n3,n4,n5⟩:=ha.node;obtain⟨f1,f2,f3,f4⟩:=n4.facts;have hS:=ha.S;have hN86:=n1.S;have hle1:=hO.le;have hpos:=ha.tr.cnt;have hn1:=ha.n
    have hbig:l+102*k.its.length<=100000000:=by
     have:(hh.toNat+1)*k.its.length=hh.toNat*k.its.length+k.its.length:=by rw[Nat.add_mul,Nat.one_mul]
     omega
    simp only[true_and,and_true,eq_self,Int.toNat_natCast,Nat.mul_one,decide_eq_true_eq,decide_eq_false_iff_not,true_implies,Int.reduceLE,Int.reduceLT,Int.le_refl];simp only[Nat.add_zero,f3,f4,n3];obtain⟨x0,x1,x2,x3⟩:=ha.box;refine⟨⟨ha.D,by omega⟩,⟨f1,f2⟩,⟨ha.D,by omega,x0.flt⟩,λi1=>⟨⟨⟨hO,by omega⟩,x0.bits⟩,λp1=>?_⟩⟩;obtain⟨⟨a1,a2,a3⟩,a4,a5,a6⟩:=ha.off p1;have l1:=p1.n;rw[C9]at l1;simp only[a6];refine⟨⟨a4,by omega,x1.flt⟩,λi2=>⟨⟨⟨p1.o,by omega⟩,x1.bits⟩,λp2=>?_⟩⟩;have p12:=p1.trans p2;obtain⟨⟨b1,b2,b3⟩,b4,b5,b6⟩:=ha.off p12;have l2:=p2.n;rw[C9]at l2;simp only[b6]
    refine⟨⟨b4,by omega,x2.flt⟩,λi3=>⟨⟨⟨p2.o,by omega⟩,x2.bits⟩,λp3=>?_⟩⟩;have p123:=p12.trans p3;obtain⟨⟨c1,c2,c3⟩,c4,c5,c6⟩:=ha.off p123;have l3:=p3.n;rw[C9]at l3;simp only[c6];refine⟨⟨c4,by omega,x3.flt⟩,λi4=>⟨⟨⟨p3.o,by omega⟩,x3.bits⟩,λp4=>?_⟩⟩;have p1234:=p123.trans p4;obtain⟨⟨d1,d2,d3⟩,d4,d5,d6⟩:=ha.off p1234;obtain⟨e1,e2⟩:=ha.cnt p1234;have l4:=p4.n;rw[C9]at l4;simp only[e2];refine⟨⟨⟨d1,by omega,by rw[e1];rfl⟩,λi5=>⟨I3 p4.o (by omega) (by omega),λhp=>?_⟩⟩,?_⟩
    ·have hw:IntKind.wrap .u8 ((k.n:Nat):Int)=((k.n:Nat):Int):=by rw[a5k];omega
     rw[hw]at hp;have p5:=H2 p4.o (us:=[((k.n:Nat):Int)]) rfl (by intro x hx;simp at hx;omega) rfl hp;have p6:=p1234.trans p5
     have hh:apd q b c l (hdL q rb rc) ⟨⟨i5.D,i5.S,i5.F⟩,i5.b,i5.c,i4.l+1,i5.k⟩:=by
      have:hdL q rb rc=byL (j1 (q.F rb (rc+1)):Nat) 8++byL (j1 (q.F rb (rc+2)):Nat) 8++byL (j1 (q.F rb (rc+3)):Nat) 8++byL (j1 (q.F rb (rc+4)):Nat) 8++[((k.n:Nat):Int)]:=by
       unfold hdL;rw[n3,n2]
      rw[this];exact p6
     exact⟨_,hh,(by and_intros <;> first|trivial|rfl|(rw[j5 (by omega) (by omega)];first|rfl|omega))⟩
    clear e1 e2 p1 p2 p3 p4 p12 p123 p1234 a1 a2 a3 a4 a5 a6 b1 b2 b3 b4 b5 b6 c1 c2 c3 c4 c5 c6 d1 d2 d3 d4 d5 d6 l1 l2 l3 l4;intro j hj;have hjn:=hj.n;rw[Q3]at hjn;obtain⟨⟨a1,a2,a3⟩,a4,a5,a6⟩:=ha.off hj;obtain⟨e1,e2⟩:=ha.cnt hj;have e0:m8 (q.F k.b 0)=(k.n:Nat):=by rw[n1.n];show ((ndN q k.b:Nat):Int)=_;rw[n2]
    refine⟨λh0=>?_,λh0=>?_⟩
    ·have h0:hh=0:=by simpa using h0
     subst h0;have ha0:V2 q rb rc 0 k b:=ha;have hkl:k.n=k.its.length:=ha0.tr.2.1
     have item:∀ t,t<k.n->∃ it,k.its[t]? = some it/\q.F k.b (1+t*5)=.iface 3 (.int .i64 it.1)/\itI q k.b t=it.1/\0<=it.1/\it.1<4294967296:=λt ht=>by
      have hg:=List.getElem?_eq_getElem (by omega:t<k.its.length);obtain⟨g1,g2⟩:=b3r ha0 hg;rw[Nat.mul_comm]at g1;exact⟨_,hg,g1,g2,ha0.it _ (List.mem_of_getElem? hg)⟩
     have hw32:∀ v:Int,0<=v->v<4294967296->IntKind.wrap .u32 v=v:=λv v0 v1=>by
      show v % 4294967296=v;omega
     refine⟨⟨⟨j,0,1⟩,⟨rfl,hj,Nat.zero_le _, .inl rfl,λt ht=>absurd ht (Nat.not_lt_zero t)⟩,(by and_intros <;> first|trivial|rfl|(rw[j5 (by omega) (by omega)];first|rfl|omega))⟩,?_⟩;rintro p ⟨_,p1,p2,p3,p4⟩;obtain⟨⟨b1,b2,b3⟩,b4,b5,b6⟩:=ha.off p1;obtain⟨g1,g2⟩:=ha.cnt p1;have hpn:=p1.n;rw[Q3]at hpn;rw[n3]at p2 p4;rw[n2]at p2;simp only[b3,e0,n2];refine⟨⟨b1,by omega,by rw[n1.n];rfl⟩,λhlt=>?_,λhge=>?_⟩
     ·obtain⟨it,i1,i2,i3,i4,i5⟩:=item p.j (by omega);have hj1:p.j+1<=ndN q (kb (q.F rb rc)):=by rw[n3,n2];omega
      simp only[i2,I0,m8,hw32 _ i4 i5];refine⟨⟨by omega,by omega⟩,⟨b1,by omega⟩,⟨rfl,rfl⟩,λhw=>⟨⟨p.i,p.j+1,nbI it.1⟩,⟨trivial,p1,hj1,b1r _,λt ht=>?_⟩,?_,(by and_intros <;> first|trivial|rfl|(rw[j5 (by omega) (by omega)];first|rfl|omega))⟩,λhw=>⟨⟨p.i,p.j+1,p.w⟩,⟨trivial,p1,hj1,p3,λt ht=>?_⟩,?_,(by and_intros <;> first|trivial|rfl|(rw[j5 (by omega) (by omega)];first|rfl|omega))⟩⟩
      ·rw[n3];show nbI (itI q k.b t)<=nbI it.1;rcases Nat.lt_or_ge t p.j with c|c
       ·have:=p4 t c;omega
       ·have:t=p.j:=by have ht:t<p.j+1:=ht;omega
        subst this;rw[i3];exact Int.le_refl _
      ·show k.n-(p.j+1)<k.n-p.j;omega
      ·rw[n3];show nbI (itI q k.b t)<=p.w;rcases Nat.lt_or_ge t p.j with c|c
       ·exact p4 t c
       ·have:t=p.j:=by have ht:t<p.j+1:=ht;omega
        subst this;rw[i3];omega
      ·show k.n-(p.j+1)<k.n-p.j;omega
     ·have hpj:p.j=k.n:=by omega
      refine λi3=>⟨I3 p1.o (by omega) (by omega),λhp=>⟨?_,?_⟩⟩
      ·have p5:=H2 p1.o (us:=[p.w]) rfl (by intro x hx;simp at hx;subst hx;exact p3.r) rfl hp;have p6:=p1.trans p5;refine⟨⟨⟨⟨i3.D,i3.S,i3.F⟩,i3.b,i3.c,p.i.l+1,i3.k⟩,0,p.w⟩,⟨trivial,?_,Nat.zero_le _,p3,λt ht=>?_⟩,(by and_intros <;> first|trivial|rfl|(rw[j5 (by omega) (by omega)];first|rfl|omega))⟩
       ·simpa using p6
       ·rw[n3];rw[n3,n2]at ht;exact p4 t (by omega)
      rintro p' ⟨_,q1,q2,q3,q4⟩;obtain⟨⟨b1,b2,b3⟩,b4,b5,b6⟩:=ha.off q1;obtain⟨g1,g2⟩:=ha.cnt q1;have hpn:=q1.n;have hfl:((List.range p'.j).flatMap λt=>byL (itI q (kb (q.F rb rc)) t) p'.w.toNat).length=p'.w.toNat*p'.j:=U6 (λt=>C9 _ _) p'.j;rw[List.length_append,List.length_append,Q3,hfl]at hpn;have hw4:p'.w.toNat<=4:=by unfold wOk at q3;omega
      have hmul:p'.w.toNat*p'.j<=4*p'.j:=Nat.mul_le_mul_right _ hw4;rw[n3,n2]at q2;simp only[List.length_cons,List.length_nil]at hpn;simp only[b3,e0];refine⟨⟨b1,by omega,by rw[n1.n];rfl⟩,λhlt=>?_,λhge=>?_⟩
      ·obtain⟨it,i1,i2,i3,i4,i5⟩:=item p'.j (by omega);have hj1:p'.j+1<=ndN q (kb (q.F rb rc)):=by rw[n3,n2];omega
       simp only[i2,I0,m8,hw32 _ i4 i5];refine⟨⟨by omega,by omega⟩,⟨b1,by omega⟩,⟨rfl,rfl⟩,λi4'=>⟨⟨⟨q1.o,by omega⟩,⟨i4,i5⟩,q3⟩,λhp=>⟨⟨i4',p'.j+1,p'.w⟩,⟨trivial,?_,hj1,q3,q4⟩,?_,(by and_intros <;> first|trivial|rfl|(rw[j5 (by omega) (by omega)];first|rfl|omega))⟩⟩⟩
       ·have:=q1.trans hp;rw[List.range_succ,List.flatMap_append];simp only[List.flatMap_cons,List.flatMap_nil,List.append_nil];rw[n3]at this ⊢;rw[i3,<-List.append_assoc];exact this
       ·show k.n-(p'.j+1)<k.n-p'.j;omega
      ·have hpj2:p'.j=ndN q (kb (q.F rb rc)):=by rw[n3,n2];omega
       refine⟨p'.i,λk2 ha2 hb2=>b7D ha2 ⟨q1,by rw[hpj2];exact Nat.le_refl _,q3,q4⟩ hpj2,rfl,⟨trivial,rfl,rfl,rfl,rfl⟩⟩
    ·have h0:hh≠0:=by simpa using h0
     obtain⟨h,rfl⟩:∃ h:Nat,hh=((h+1:Nat):Int):=⟨hh.toNat-1,by omega⟩;have ha1:V2 q rb rc (h+1) k b:=ha;have hbd1:l+102*((h+2)*k.its.length)<=100000000:=hbd;have hw:IntKind.i64.wrap (((h+1:Nat):Int)-1)=((h:Nat):Int):=by rw[j5 (by omega) (by omega)];omega
     simp only[hw,Int.toNat_natCast,Nat.add_sub_cancel,a3,e0,n2];refine⟨⟨a1,by omega,by rw[n1.n];rfl⟩,⟨by omega,by omega,by omega⟩,⟨⟨j,0,λ_=>0⟩,⟨h0,by simpa using hj,Nat.zero_le _,λt ht=>absurd ht (Nat.not_lt_zero t)⟩,?_⟩,?_⟩
     ·and_intros <;> first|trivial|rfl|(rw[n3];exact n2.symm)|(rw[n3,n2];omega)|(intro i hi;rfl)|skip
      exact Nat.le_refl _
     rintro p ⟨_,p1,p2,p3⟩;obtain⟨⟨b1,b2,b3⟩,b4,b5,b6⟩:=ha.off p1;have hpn:=p1.n;rw[List.length_append,Q3,List.length_replicate]at hpn;rw[n3,n2]at p2;simp only[b3,e0];refine⟨⟨b1,by omega,by rw[n1.n];rfl⟩,λhlt=>?_,λhge=>?_⟩
     ·refine⟨⟨⟨by omega,by omega⟩,by omega⟩,by omega,λi3=>⟨I3 p1.o (by omega) (by omega),λhp=>?_⟩⟩;have p5:=H2 p1.o (us:=[0,0,0,0]) rfl (by decide) rfl hp;have p6:=p1.trans p5;refine⟨⟨⟨⟨i3.D,i3.S,i3.F⟩,i3.b,i3.c,p.i.l+4,i3.k⟩,p.j+1,upd p.g (0+p.j) (p.i.l:Nat)⟩,⟨h0,?_,by show p.j+1<=_;rw[n3,n2];omega,λt ht=>?_⟩,by show k.n-(p.j+1)<k.n-p.j;omega,⟨⟨rfl,rfl,rfl,rfl⟩,?_⟩,⟨rfl,rfl,rfl⟩,Nat.le_refl _,λi hi=>rfl⟩
      ·have:hdL q rb rc++List.replicate (4*(p.j+1)) 0=hdL q rb rc++List.replicate (4*p.j) 0++[0,0,0,0]:=by
        rw[List.append_assoc,Nat.mul_add,<-List.replicate_append_replicate];rfl
       show apd q b c l (hdL q rb rc++List.replicate (4*(p.j+1)) 0) _;rw[this];exact p6
      ·have ht:t<p.j+1:=ht;show upd p.g (0+p.j) (p.i.l:Nat) t=_;rw[Nat.zero_add];by_cases c:t=p.j
       ·subst c;unfold upd;simp;omega
       ·have:=p3 t (by omega);unfold upd;simp[c];omega
      ·rw[j5 (by omega) (by omega)];rfl
     ·have hpj:p.j=k.n:=by omega
      refine⟨⟨⟨p.i,0,p.g⟩,⟨h0,Nat.zero_le _,λt ht=>p3 t (by rw[n3,n2]at ht;omega),λk2 ha2 _=>b7y ha2 p1 ?_ rfl rfl⟩,⟨⟨rfl,rfl,rfl,rfl⟩,rfl⟩,⟨rfl,rfl,rfl⟩,Nat.le_refl _,λi hi=>rfl⟩,?_⟩
      ·obtain⟨_,m2,m3,_⟩:=ha2.node;rw[hpj,<-n2,<-m2,<-n3,<-m3]
      rintro p' ⟨_,q1,q2,q3⟩;have hK:=q3 k ha1 hbd1;obtain⟨us,u1,_⟩:=id hK;obtain⟨⟨b1,b2,b3⟩,b4,b5,b6⟩:=ha.off u1;rw[n3,n2]at q1 q2;simp only[b3,e0];refine⟨⟨b1,by omega,by rw[n1.n];rfl⟩,λhlt=>?_,λhge=>?_⟩
      ·obtain⟨s1,s2,s3,s4,s5⟩:=b4j ha1 hbd1 hK (by omega);have s6:=s3.le;have s7:=s3.S;have hg:=q2 p'.j (by omega)
       have hu:IntKind.wrap .u32 ((p'.i.l:Nat):Int)=((p'.i.l:Nat):Int):=by
        show ((p'.i.l:Nat):Int) % 4294967296=_;omega
       have hby:=(s3.is (l+(33+4*p'.j)+3) (by omega)).i;rw[<-Nat.add_assoc]at hby;have t1:(0:Int)<=(p'.j:Int)/\(p'.j:Int)<(k.n:Int):=by omega
       have t2:(0:Int)<=(p'.j:Int)/\(p'.j:Int)<17:=by omega
       simp only[Nat.zero_add,hg,hu,Int.toNat_natCast];refine λ_=>⟨⟨t1,by omega⟩,by omega,⟨by omega,by omega,by omega⟩,⟨⟨by omega,by omega⟩,⟨by omega,s3.D,by omega⟩,hby⟩,t2,λi4=>⟨⟨⟨by omega,by omega,by omega⟩,s4⟩,λhc=>⟨⟨i4,p'.j+1,p'.g⟩,⟨h0,by show p'.j+1<=_;rw[n3,n2];omega,by rw[n3,n2];exact q2,λk2 ha2 hb2=>(b4j ha2 hb2 (q3 k2 ha2 hb2) ?_).2.2.2.2 i4 ?_⟩,by show k.n-(p'.j+1)<k.n-p'.j;omega,⟨⟨rfl,rfl,rfl,rfl⟩,?_⟩,⟨rfl,rfl,rfl⟩,Nat.le_refl _,λi hi=>rfl⟩⟩⟩
       ·obtain⟨_,m2,m3,_⟩:=ha2.node;rw[<-m2,<-m3,n3,n2];omega
       ·obtain⟨_,m2,m3,_⟩:=ha2.node;rw[<-m3,n3];exact hc
       ·rw[j5 (by omega) (by omega)];rfl
      ·have hpj2:p'.j=k.n:=by omega
       refine⟨p'.i,λk2 ha2 hb2=>c5o ha2 (q3 k2 ha2 hb2) ?_,rfl,⟨trivial,rfl,rfl,rfl,rfl⟩⟩;obtain⟨_,m2,m3,_⟩:=ha2.node;rw[<-m2,<-m3,n3,n2];exact hpj2
  ·trivial
 ·trivial
theorem b9e:u6 Tryz.prog 122 (l9 DI ⟨default⟩ (b2x 0)):=by
 refine a1H x0 Tryz.func122 rfl (by kernel_rfl) λargs=>?_
 unfold b2x;split
 ·rename_i n rb rc n1 b c l kk hh;intro o0;try dsimp only
  split
  ·intro ho;exfalso;obtain⟨_,⟨h1,h2,_⟩,_⟩:=ho;omega
  ·trivial
 ·trivial
theorem b8z:∀ H,u6 Tryz.prog 122 (l9 DI ⟨default⟩ (b2x H))
 | 0=>b9e
 | H+1=>c9J H (b8z H)
structure a2C (q:RM) (tb tc b l:Nat) (fp:List Nat) (its:List (Int×Bx)):Prop where
 t:isRT q tb tc fp its
 bf:b∉fp
 bt:b≠tb
 le:its.length<=100
 l:l<=1000
 it:∀ x∈its,0<=x.1/\x.1<4294967296
def a3R(q:RM)(tb tc b c l:Nat)(i:DI):Prop:=∀ fp its,a2C q tb tc b l fp its->∃ us,apd q b c l us i/\i.l<=2000000/\(its=[]->us=[])/\
 (its≠[]->∃ h its' B,its'.Perm its/\h<=100/\bG i l=((h:Nat):Int)/\l+1<=i.l/\a0E (bG i) h (l+1) i.l its' B)
noncomputable def X9:D7:=⟨G0,[(122,l9 DI ⟨default⟩ (b2x 200))],[],[],[(185,0)]⟩
theorem x9:y9 Tryz.prog X9:=⟨g0,q8.cons (b8z 200) q8.nil⟩
theorem c0c{q:RM}{b c l k:Nat}(hO:byO q b c l k):apd q b c l [] ⟨q,b,c,l,k⟩ :=
 ⟨hO,rfl,λ_ _=>rfl,λj x hx=>by simp at hx,λx hx=>⟨hx,rfl,λ_ _=>rfl⟩, .inl rfl⟩
section
variable {q:RM} {tb tc b c l kk:Nat} {fp:List Nat} {its:List (Int×Bx)}
theorem c0N(hp:a2C q tb tc b l fp its):q.D tb/\tc+8<=q.S tb/\a7Y (q.F tb (tc+1)):=by
 rcases hp.t with⟨_,_,h1,h2,_,h4,_⟩|⟨_,k,ha,_⟩
 ·exact⟨h1,h2, .inl h4⟩
 ·exact⟨ha.D,ha.S, .inr ⟨_,_,ha.ref⟩⟩
theorem c0q(hO:byO q b c l kk)(hn:O1 (q.F tb (tc+1))=true):a3R q tb tc b c l ⟨q,b,c,l,kk⟩:=by
 intro fp its hp;rcases hp.t with⟨h1,_⟩|⟨_,k,ha,_⟩
 ·exact⟨[],c0c hO,by have:=hp.l;show l<=2000000;omega,λ_=>rfl,λh=>absurd h1 h⟩
 ·rw[ha.ref]at hn;exact absurd hn (λe=>nomatch e)
theorem b3A(hp:a2C q tb tc b l fp its)(hn:O1 (q.F tb (tc+1))=false):∃(h:Nat)(k:Kid),q.F tb tc=.int .i64 (h:Nat)/\h<=100/\V2 q tb (tc+1) h k b/\k.its.Perm its/\k.its.length<=100/\its≠[]:=by
 rcases hp.t with⟨_,_,_,_,_,t4,_⟩|⟨h',k,ha,hk,rfl,hpm,hh,hc⟩
 ·rw[t4]at hn;exact absurd hn (λe=>nomatch e)
 ·have hl:=hpm.length_eq;have hle:=hp.le;have hS:=ha.S;have hcnt:=ha.tr.cnt;refine⟨h',k,ha.hgt,by omega,⟨ha.D,by omega,ha.ref,ha.box,ha.tr,hk.1,λe=>ha.tfp (e▸ha.tr.fp0),ha.nd,hp.bt,hp.bf,λx hx=>hp.it x (hpm.mem_iff.1 hx)⟩,hpm,by omega,λe=>?_⟩;have h0:its.length=0:=by rw[e];rfl
  omega
theorem b0v{h:Nat}{k:Kid}(hp:a2C q tb tc b l fp its)(hh:h<=100)(hk:k.its.length<=100):l+1+102*((h+1)*k.its.length)<=2000000:=by
 have h1:(h+1)*k.its.length<=101*100:=Nat.mul_le_mul (by omega) hk;have:=hp.l;omega
theorem b9F{h:Nat}(hh:q.F tb tc=.int .i64 (h:Nat))(hn:O1 (q.F tb (tc+1))=false){i1 i:DI}(h1:apd q b c l [((h:Nat):Int)] i1)(h2:b2y i1.q tb (tc+1) i1.b i1.c (l+1) h i):a3R q tb tc b c l i:=by
 intro fp its hp;obtain⟨h',k,e1,e2,e3,e4,e5,e6⟩:=b3A hp hn
 have e:h=h':=by
  rw[e1]at hh;simp only[Value.int.injEq,true_and,Int.natCast_inj]at hh;exact hh.symm
 subst e;have hb:=b0v hp e2 e5;obtain⟨us,u1,u2,u3⟩:=h2 k (e3.keep h1) (by omega);have hl1:i1.l=l+1:=h1.n;have hall:=h1.trans (i':=i) (us':=us) (by rw[hl1];exact u1);have hn2:=u1.n;refine⟨_,hall,by omega,λe=>absurd e e6,λ_=>⟨h,k.its,k.B,e4,e2,?_,by omega,u3⟩⟩;have:=a0m hall (j:=0) (x:=((h:Nat):Int)) rfl;simpa using this
end
noncomputable def b1P:List SV->RRd (DI)
 | [.pb n tb tc, .slb n1 b c l kk]=>.read n λo0=>(match G2 o0 with
  | some (ts,q)=>.ret ⟨[.pb 0 tb tc, .slb 0 b c l kk],[(0,rwO ts q)],some (n=n1/\(byO q b c l kk/\∃ fp its,a2C q tb tc b l fp its)),λi=>a3R q tb tc b c l i,λi=>⟨[],[], .slb 0 i.b i.c i.l i.k,[(0,rwO ts (i.q))],[],none⟩⟩
  | none=>.fail)
 | _=>.fail
theorem b7n(R:Option Ob->SV->Prop)(ts:List Nat)(q:RM)(tb tc b c l kk:Nat){T1}(t1:T1=λ(i:ApI)=>(i.6 tb (tc+0))):J7 X9 1 [] [] (j3 Tryz.f116) (q9 Tryz.f116.ntmps [.pb 0 tb tc, .slb 0 b c l kk] [(0,rwO ts q)] 1) (r6 X9.G.E.T Tryz.f116.results.toList λS v=>R (Go.Sx.look S.H 0) v)=(
 (q.1 tb/\tc+1+0<q.2 tb)/\a7Y (q.3 tb (tc+1+0))/\(O1 (q.3 tb (tc+1+0))=true->R (Option.some (Ob.mk true 0 (a9.raw ts (RM.D q) q.2 q.3) 0)) (SV.slb 0 b c l kk))/\(O1 (q.3 tb (tc+1+0))=false->(q.1 tb/\tc+0<q.2 tb
 /\A1 .i64 (q.3 tb (tc+0)))/\∀(i:ApI),appO (RM.D q) q.2 1 1 b c l kk 1/\(L9 (RM.D q) q.2 q.3 1 b c l kk 1 [Value.int .u8 (IntKind.wrap .u8 (m8 (q.3 tb (tc+0))))] i->∀(i_1:DI),(i.4 tb/\tc+0<i.5 tb/\A1 .i64 (T1 i))/\(0 =
 0/\((0:Int)<=m8 (T1 i)/\m8 (T1 i)<(200:Int)/\m8 (T1 i)<(1000:Int))/\b5K (RM.mk (ApI.D i) i.5 i.6) tb (tc+1) i.1 i.2 (l+1) i.3 (Int.toNat (m8 (T1 i))))/\true=true/\(b2y (RM.mk (ApI.D i) i.5 i.6) tb (tc+1) i.1 i.2 (l
 + 1) (Int.toNat (m8 (T1 i))) i_1->R (Option.some (Ob.mk true 0 (a9.raw ts (RM.D (DI.q i_1)) (DI.q i_1).2 (DI.q i_1).3) 0)) (SV.slb 0 (DI.b i_1) (DI.c i_1) (DI.l i_1) (DI.k i_1)))))):=by subst t1;kernel_rfl
theorem c6t:u6 Tryz.prog 116 (l9 (DI) ⟨default⟩ b1P):=by
 refine A7 x9 Tryz.func116 rfl (by kernel_rfl) λargs=>?_
 unfold b1P;split
 ·rename_i n tb tc n1 b c l kk;intro o0;try dsimp only
  split
  ·rename_i ts q hm0;intro ho;replace ho:n=n1/\(byO q b c l kk/\∃ fp its,a2C q tb tc b l fp its):=ho;obtain⟨heq0,ho⟩:=ho;subst heq0;refine⟨?_,Nat.succ_pos _,ts,λ(i:DI)=>i.q,λ(i:DI)=>.slb 0 i.b i.c i.l i.k,λ_=>rfl,?_,_,_,(b7n (G6 1 ts (λ(i:DI)=>a3R q tb tc b c l i) (λ(i:DI)=>i.q) (λ(i:DI)=>.slb 0 i.b i.c i.l i.k)) ts q tb tc b c l kk rfl).mpr ?_⟩
   ·refine g9 rfl ⟨λ_=>rfl,?_,⟨trivial,z9 hm0,trivial⟩⟩;simp[j9,o8,o9,p7,nth,a8]
   ·intro i _;rfl
   ·obtain⟨hO,fp,its,hp⟩:=ho;obtain⟨r1,r2,r3⟩:=c0N hp;simp only[true_and,eq_self];simp only[Nat.add_zero];refine⟨⟨r1,by omega⟩,r3,λhn=>⟨⟨q,b,c,l,kk⟩,c0q hO hn,rfl,⟨trivial,rfl,rfl,rfl,rfl⟩⟩,λhn=>?_⟩;obtain⟨h,k,e1,e2,e3,e4,e5,e6⟩:=b3A hp hn;have hl:=hp.l;have e7:m8 (q.F tb tc)=(h:Nat):=by rw[e1];rfl
    have e8:IntKind.wrap .u8 ((h:Nat):Int)=((h:Nat):Int):=by rw[a5k];omega
    simp only[e7,e8];refine⟨⟨r1,by omega,by rw[e1];rfl⟩,λi=>⟨I3 hO (by omega) (by omega),λha=>?_⟩⟩;have p1:=H2 hO (us:=[((h:Nat):Int)]) rfl (by intro x hx;simp at hx;omega) rfl ha;obtain⟨k1,k2,k3⟩:=p1.keep _ r1;have k4:i.F tb tc=.int .i64 (h:Nat):=(k3 (Ne.symm hp.bt) tc).trans e1;have k5:m8 (i.F tb tc)=(h:Nat):=by rw[k4];rfl
    have k1:i.D tb:=k1;have k2:i.S tb=q.S tb:=k2;have hb:=b0v hp e2 e5;simp only[k5,Int.toNat_natCast];refine λi'=>⟨⟨k1,by omega,by rw[k4];rfl⟩,⟨⟨by omega,by omega,by omega⟩,⟨p1.o,k,e3.keep p1,by omega⟩⟩,λhc=>⟨i',b9F e1 hn p1 hc,rfl,⟨trivial,rfl,rfl,rfl,rfl⟩⟩⟩
  ·trivial
 ·trivial
def a3r:a9->Option (Bool×Bool×Bool×Int×Nat×Nat×Nat×Nat×Nm×Nat)
 | .cells [a,b,c, .int .u8 k, .nili, .flt .f64 x, .flt .f64 y, .flt .f64 z, .flt .f64 w, .slcc p n]=>match a.toB with
  | some a=>match b.toB with
   | some b=>match c.toB with
    | some c=>some (a,b,c,k,x,y,z,w,p,n)
    | none=>none
   | none=>none
  | none=>none
 | _=>none
def a0G(cl cw cv:Bool)(k:Int)(x y z w:Nat)(p:Nm)(n:Nat):a9:=.cells [.bool cl, .bool cw, .bool cv, .int .u8 k, .nili, .flt .f64 x, .flt .f64 y, .flt .f64 z, .flt .f64 w, .slcc p n]
theorem O6{σ:Sig}{c:a9}{cl cw cv:Bool}{k:Int}{x y z w:Nat}{p q:Nm}{n:Nat}(h:a3r c=some (cl,cw,cv,k,x,y,z,w,p,n))(hs:K3 (σ q) p):H6 σ c (a0G cl cw cv k x y z w q n):=by
 unfold a3r at h;split at h
 ·split at h
  ·rename_i ha;split at h
   ·rename_i hb;split at h
    ·rename_i hc;simp only[Option.some.injEq,Prod.mk.injEq]at h;obtain⟨rfl,rfl,rfl,rfl,rfl,rfl,rfl,rfl,rfl,rfl⟩:=h;show j9 σ _ _;simp[j9,o8,p8,r8,C7 ha,C7 hb,C7 hc,hs]
    ·cases h
   ·cases h
  ·cases h
 ·cases h
noncomputable def a5m:List SV->RdM
 | [.ptr s 0]=>.read s λo0=>(match a3r o0.c with
  | some (cl,cw,cv,k,x,y,z,w,p,n)=>.read p λo1=>(match r7 .f64 o1.c with
  | some (m1,g)=>.ret ⟨[.ptr 0 0],[(0,⟨false,150,a0G cl cw cv k x y z w 1 n,0⟩),(1,⟨false,100, .flts .f64 m1 g,0⟩)], .tup [],[],[],some (m1=2*n/\k=0)⟩
  | none=>.fail)
  | none=>.fail)
 | _=>.fail
theorem b2F(cl cw cv:Bool)(k:Int)(x y z w:Nat)(_:Nm)(n:Nat)(g:Nat->Nat){w9:HC}(e9:w9=⟨[.ptr 0 0],[(0,⟨false,150,a0G cl cw cv k x y z w 1 n,0⟩),(1,⟨false,100, .flts .f64 (2*n) g,0⟩)], .tup [],[],[],some (2*n=2*n/\k=0)⟩):z7 G0 2 [] [] (j3 Tryz.f103) (q9 Tryz.f103.ntmps w9.args w9.heap 2) (r6 G0.E.T Tryz.f103.results.toList λS v=>w0 2 w9 S v)=(
 ((k==(1:Int))=true->False)/\((k==(1:Int))=false->((k==(2:Int))=true->False)/\((k==(2:Int))=false->True/\True))):=by subst e9;kernel_rfl
theorem c0R:q7 Tryz.prog 103 (p9 a5m):=by
 refine j8 g0 Tryz.func103 rfl (by kernel_rfl) λargs=>?_
 unfold a5m;split
 ·rename_i s;intro o0;try dsimp only
  split
  ·rename_i cl cw cv k x y z w p n hm0;intro o1;try dsimp only
   split
   ·rename_i m1 g hm1;intro ho;replace ho:m1=2*n/\k=0:=ho;obtain⟨hsz1,ho⟩:=ho;subst hsz1;refine⟨?_,_,_,(b2F cl cw cv k x y z w p n g rfl).mpr ?_⟩
    ·refine g9 rfl ⟨?_,⟨trivial,O6 hm0 a8,⟨trivial,(r9 hm1).1,trivial⟩⟩⟩;simp[j9,o8,o9,p7,nth,a8]
    ·exact⟨λh=>by simp[ho]at h,λ_=>⟨λh=>by simp[ho]at h,λ_=>⟨trivial,trivial⟩⟩⟩
   ·trivial
  ·trivial
 ·trivial
noncomputable def a3b:List SV->RdM
 | []=>.ret ⟨[],[], .ptr 0 0,[],[(0,⟨true,148, .cells [.int .u8 2, .int .i64 64],0⟩)],some (True)⟩
 | _=>.fail
theorem b3b{w9:HC}(e9:w9=⟨[],[], .ptr 0 0,[],[(0,⟨true,148, .cells [.int .u8 2, .int .i64 64],0⟩)],some (True)⟩):z7 G0 0 [] [] (j3 Tryz.f97) (q9 Tryz.f97.ntmps w9.args w9.heap 0) (r6 G0.E.T Tryz.f97.results.toList λS v=>w0 0 w9 S v)=(
 (True/\0=0)/\True/\(148=148/\0=0/\(2:Int)=2/\(64:Int)=64/\True)/\True):=by subst e9;kernel_rfl
theorem b3Z:q7 Tryz.prog 97 (p9 a3b):=by
 refine j8 g0 Tryz.func97 rfl (by kernel_rfl) λargs=>?_
 unfold a3b;split
 ·skip
  intro ho;replace ho:True:=ho;refine⟨?_,_,_,(b3b rfl).mpr ?_⟩
  ·refine g9 rfl ⟨?_,trivial⟩;simp[j9]
  ·simp
 ·trivial
noncomputable def GMS:Ctx:=⟨⟨tys,[]⟩,[(102,p9 a9o),(103,p9 a5m),(97,p9 a3b)]⟩
theorem gMS:v8 Tryz.prog GMS:=⟨⟨z6,FlatsOk.nil⟩,g8.cons c2k (g8.cons c0R (g8.cons b3Z g8.nil)),by kernel_rfl⟩
def a4C:a9->Option (Int×Int)
 | .cells [.int .u8 k, .int .i64 m]=>some (k,m)
 | _=>none
def a4c(k m:Int):a9:=.cells [.int .u8 k, .int .i64 m]
theorem O5{σ:Sig}{c:a9}{k m:Int}(h:a4C c=some (k,m)):H6 σ c (a4c k m):=by
 unfold a4C at h;split at h
 ·simp only[Option.some.injEq,Prod.mk.injEq]at h;obtain⟨rfl,rfl⟩:=h;show j9 σ _ _;simp[j9,o8,p8]
 ·cases h
def b3n(len:Nat)(cl:Bool)(g:Nat->Nat)(p:Nm)(k:Int):List SV :=
 [.bool cl, .bool (j4 len cl&&fGt .f64 (cwF g len len) 0), .bool (j4 len cl && !(dcF g len len).2), .int .u8 k, .nili, .flt .f64 (pick (j4 len cl) (rlo g 0 len)), .flt .f64 (pick (j4 len cl) (rlo g 1 len)), .flt .f64 (pick (j4 len cl) (rhi g 0 len)), .flt .f64 (pick (j4 len cl) (rhi g 1 len)), .slcc p len]
noncomputable def a8Y:List SV->RdM
 | [.slcc n len, .tt,v, .ptr o 0]=>.read n λo0=>(match r7 .f64 o0.c with
  | some (m0,g)=>.read o λo1=>(match a4C o1.c with
  | some (k,m)=>(match v.toB with
  | some cl=>.ret ⟨[.slcc 0 len, .tt, .bool cl, .ptr 1 0],[(0,⟨false,100, .flts .f64 m0 g,0⟩),(1,⟨false,148,a4c k m,0⟩)], .agg (b3n len cl g 2 0),[],[(2,⟨true,100, .flts .f64 (2*len) g,2⟩)],some (m0=2*len/\k=0/\len<=1000000/\(j4 len cl=true->ppOk g len))⟩
  | none=>.fail)
  | none=>.fail)
  | none=>.fail)
 | _=>.fail
theorem b5x(len:Nat)(cl:Bool)(m:Int)(k:Int)(g:Nat->Nat){w9:HC}(e9:w9=⟨[.slcc 0 len, .tt, .bool cl, .ptr 1 0],[(0,⟨false,100, .flts .f64 (2*len) g,0⟩),(1,⟨false,148,a4c k m,0⟩)], .agg (b3n len cl g 2 0),[],[(2,⟨true,100, .flts .f64 (2*len) g,2⟩)],some (2*len=2*len/\k=0/\len
 <=1000000/\(j4 len cl=true->ppOk g len))⟩){T1}(t1:T1=(j4 len cl)){T2}(t2:T2=(100=100/\2=2/\2*len<=Int.toNat (↑len:Int)*2/\∀ (i:Nat),i<2*len->g i=g i)){T3}(t3:T3=(j4 len cl&&fGt .f64 (cwF g len len) 0))
 {T4}(t4:T4=(↑len:Int)) {T5}(t5:T5=(j4 len cl && !(dcF g len len).2)) {T6}(t6:T6=(rlo g 0 len)) {T7}(t7:T7=(rlo g 1 len)) {T8}(t8:T8=(rhi g 0 len)) {T9}(t9:T9=(rhi g 1 len)) {T10}(t10:T10=(True/\Int.toNat T4=len)):z7 GMS 2 [] [] (j3 Tryz.f92) (q9 Tryz.f92.ntmps w9.args w9.heap 2) (r6 GMS.E.T Tryz.f92.results.toList λS v=>w0 2 w9 S v)=(
 (T4=T4/\0<=T4/\T4<=9223372036854775807/\T4*16<=(140737488355328:Int))/\(len=Int.toNat T4/\Int.toNat T4*2=Int.toNat T4*2/\2*len=Int.toNat T4*2)/\(2*len=2*len/\len<=1000000/\(j4 len cl=true->ppOk g len))/\
 ((m != (0:Int))=true->(decide (m<=T4)=true->(Int.toNat T4*2=2*Int.toNat T4/\k=(0:Int))/\(cl=cl/\T3=T3/\T5=T5/\k=(0:Int)/\True/\pick T1 T6=pick T1 T6/\pick T1 T7=pick T1 T7/\pick T1 T8=pick T1 T8/\pick T1
 T9=pick T1 T9/\T10/\True)/\True/\T2/\True)/\(decide (m<=T4)=false->(cl=cl/\T3=T3/\T5=T5/\(0:Int)=0/\True/\pick T1 T6=pick T1 T6/\pick T1 T7=pick T1 T7/\pick T1 T8=pick T1 T8/\pick T1 T9=pick T1 T9/\T10/\True)/\
 True/\T2/\True))/\((m != (0:Int))=false->(cl=cl/\T3=T3/\(j4 len cl && !Prod.snd (dcF g len len))=T5/\(0:Int)=0/\True/\pick T1 T6=pick T1 T6/\pick T1 T7=pick T1 T7/\pick T1 T8=pick T1 T8/\pick T1 T9=pick T1 T9/\
 T10/\True)/\True/\T2/\True)):=by subst e9 t1 t2 t3 t4 t5 t6 t7 t8 t9 t10;kernel_rfl
theorem c5r:q7 Tryz.prog 92 (p9 a8Y):=by
 refine j8 gMS Tryz.func92 rfl (by kernel_rfl) λargs=>?_
 unfold a8Y;split
 ·rename_i n len v o;intro o0;try dsimp only
  split
  ·rename_i m0 g hm0;intro o1;try dsimp only
   split
   ·rename_i k m hm1;try dsimp only
    split
    ·rename_i cl hcl;intro ho;replace ho:m0=2*len/\k=0/\len<=1000000/\(j4 len cl=true->ppOk g len):=ho;obtain⟨hsz0,ho⟩:=ho;subst hsz0;refine⟨?_,_,_,(b5x len cl m k g rfl rfl rfl rfl rfl rfl rfl rfl rfl rfl rfl).mpr ?_⟩
     ·refine g9 rfl ⟨?_,⟨trivial,(r9 hm0).1,⟨trivial,O5 hm1,trivial⟩⟩⟩;simp[j9,o8,o9,p7,nth,a8,C7 hcl]
     ·obtain⟨hk,hl,hok⟩:=ho;have e:len*2=2*len:=by omega
      have l1:(0:Int)<=len:=by omega
      have l2:(len:Int)<=9223372036854775807:=by omega
      have l3:(len:Int)*16<=140737488355328:=by omega
      subst hk;simp[e,l1,l2,l3,hl];exact hok
    ·trivial
   ·trivial
  ·trivial
 ·trivial
noncomputable def GNL:Ctx:=⟨⟨tys,[]⟩,[(92,p9 a8Y)]⟩
theorem gNL:v8 Tryz.prog GNL:=⟨⟨z6,FlatsOk.nil⟩,g8.cons c5r g8.nil,by kernel_rfl⟩
noncomputable def a6E:List SV->RdM
 | [.slcc n len, .ptr o 0]=>.read n λo0=>(match r7 .f64 o0.c with
  | some (m0,g)=>.read o λo1=>(match a4C o1.c with
  | some (k,m)=>.ret ⟨[.slcc 0 len, .ptr 1 0],[(0,⟨false,100, .flts .f64 m0 g,0⟩),(1,⟨false,148,a4c k m,0⟩)], .ptr 2 0,[],[(2,⟨true,152, .cells (b3n len false g 3 0),0⟩),(3,⟨true,100, .flts .f64 (2*len) g,2⟩)],some (m0=2*len/\k=0/\len<=1000000/\(j4 len false=true->ppOk g len))⟩
  | none=>.fail)
  | none=>.fail)
 | _=>.fail
theorem b2h(len:Nat)(m:Int)(k:Int)(g:Nat->Nat){w9:HC}(e9:w9=⟨[.slcc 0 len, .ptr 1 0],[(0,⟨false,100, .flts .f64 (2*len) g,0⟩),(1,⟨false,148,a4c k m,0⟩)], .ptr 2 0,[],[(2,⟨true,152, .cells (b3n len false g 3 0),0⟩),(3,⟨true,100, .flts .f64 (2*len) g,2⟩)],some (2*len =
 2*len/\k=0/\len<=1000000/\(j4 len false=true->ppOk g len))⟩){T1}(t1:T1=(j4 len false)){T2}(t2:T2=(j4 len false&&fGt .f64 (cwF g len len) 0)):z7 GNL 2 [] [] (j3 Tryz.f73) (q9 Tryz.f73.ntmps w9.args w9.heap 2) (r6 GNL.E.T Tryz.f73.results.toList λS v=>w0 2 w9 S v)=(
 (2*len=2*len/\k=(0:Int)/\len<=1000000/\(j4 len false=true->ppOk g len))/\(True/\0=0)/\True/\(152=152/\0=0/\false=false/\T2=T2/\(j4 len false && !(dcF g len len).2)=(j4 len false && !(dcF g len len).2)/\
 (0:Int)=0/\True/\pick T1 (rlo g 0 len)=pick T1 (rlo g 0 len)/\pick T1 (rlo g 1 len)=pick T1 (rlo g 1 len)/\pick T1 (rhi g 0 len)=pick T1 (rhi g 0 len)/\pick T1 (rhi g 1 len)=pick T1 (rhi g 1 len)/\(True/\len=len)/\True)/\True/\
 (100=100/\2=2/\2*len<=2*len/\∀(i:Nat),i<2*len->g i=g i)/\True):=by subst e9 t1 t2;kernel_rfl
theorem b9W:q7 Tryz.prog 73 (p9 a6E):=by
 refine j8 gNL Tryz.func73 rfl (by kernel_rfl) λargs=>?_
 unfold a6E;split
 ·rename_i n len o;intro o0;try dsimp only
  split
  ·rename_i m0 g hm0;intro o1;try dsimp only
   split
   ·rename_i k m hm1;intro ho;replace ho:m0=2*len/\k=0/\len<=1000000/\(j4 len false=true->ppOk g len):=ho;obtain⟨hsz0,ho⟩:=ho;subst hsz0;refine⟨?_,_,_,(b2h len m k g rfl rfl rfl).mpr ?_⟩
    ·refine g9 rfl ⟨?_,⟨trivial,(r9 hm0).1,⟨trivial,O5 hm1,trivial⟩⟩⟩;simp[j9,o8,o9,p7,nth,a8]
    ·obtain⟨hk,hl,hok⟩:=ho;simp[hk,hl];exact hok
   ·trivial
  ·trivial
 ·trivial
def c2E(cl cw cv:Bool)(k:Int)(d:Nm)(m:Nat)(x y z w:Nat)(p:Nm)(n:Nat):a9:=.cells [.bool cl, .bool cw, .bool cv, .int .u8 k, .ifc 185 (.slcc d m), .flt .f64 x, .flt .f64 y, .flt .f64 z, .flt .f64 w, .slcc p n]
def byG(q:RM)(b c j:Nat):Int:=m8 (q.F b (c+j))
theorem b7R{q:RM}{b c l kk:Nat}(hO:byO q b c l kk)(v:Int):∀ j,j<l->E7 ((p4R q b (c+1) v).F b (c+j)):=λj hj=>by
 show E7 (pB _ _ _ _ _ b (c+j));unfold pB;by_cases h4:j=4
 ·subst h4;rw[show c+4=c+1+3 by omega,v9];exact E7.mk' (S7 _ _)
 rw[b8 (by omega)];by_cases h3:j=3
 ·subst h3;rw[show c+3=c+1+2 by omega,v9];exact E7.mk' (S7 _ _)
 rw[b8 (by omega)];by_cases h2:j=2
 ·subst h2;rw[show c+2=c+1+1 by omega,v9];exact E7.mk' (S7 _ _)
 rw[b8 (by omega)];by_cases h1:j=1
 ·subst h1;rw[show c+1=c+1+0 by omega,v9];exact E7.mk' (S7 _ _)
 rw[b8 (by omega)];exact hO.is j hj
noncomputable def X10:D7:=⟨G0,[(121,l9 Unit ⟨()⟩ a8d)],[],[],[]⟩
theorem x10:y9 Tryz.prog X10:=⟨g0,q8.cons c0r q8.nil⟩
noncomputable def b9t:List SV->RRd (Unit)
 | [.ptr s 0, .slb nn b c l kk]=>.read nn λo0=>(match G2 o0 with
  | some (ts,q)=>.read s λo1=>(match a0O o1 150 0 with
  | true=>(match a3r o1.c with
  | some (cl,cw,cv,k,x,y,z,w,p,n)=>.read p λo2=>(match r7 .f64 o2.c with
  | some (m2,g)=>.ret ⟨[.ptr 1 0, .slb 0 b c l kk],[(0,rwO ts q),(1,⟨true,150,a0G cl cw cv k x y z w 2 n,0⟩),(2,⟨false,100, .flts .f64 m2 g,0⟩)],some (m2=2*n/\(byO q b c l kk/\5<=l/\l<=2000000)),λ_i=>True,λ_i=>⟨[],[], .tup [],[(0,rwO ts (p4R q b (c+1) (l:Nat))),(1,⟨true,150,c2E cl cw cv k 3 l x y z w 2 n,0⟩)],[(3,⟨true,5, .ints .u8 l (byG (p4R q b (c+1) (l:Nat)) b c),1⟩)],none⟩⟩
  | none=>.fail)
  | none=>.fail)
  | false=>.fail)
  | none=>.fail)
 | _=>.fail
theorem c0o(ts:List Nat)(q:RM)(b c l kk:Nat)(cl cw cv:Bool)(k:Int)(x y z w:Nat)(_:Nm)(n:Nat)(g:Nat->Nat){T1}(t1:T1=(IntKind.wrap IntKind.u32 (↑l:Int))){T2}(t2:T2=(↑l:Int)){T3}(t3:T3=(pB (pB (pB q.3 b (c+1) T1 0) b (c+1) T1 1) b (c+1) T1 2)){T4}(t4:T4=(RM.mk (RM.D q) (RM.S q) (RM.F q))){T5}(t5:T5=(p4R T4 b (c+Int.toNat (1:Int)*TI.size
 ty5) T1)):J7 X10 3 [] [] (j3 Tryz.f115) (q9 Tryz.f115.ntmps [.ptr 1 0, .slb 0 b c l kk] [(0,rwO ts q),(1,⟨true,150,a0G cl cw cv k x y z w 2 n,0⟩),(2,⟨false,100, .flts .f64 (2*n) g,0⟩)] 3) (r6 X10.G.E.T Tryz.f115.results.toList λS v=>∃ _i:Unit,True/\w0 3 ⟨[],[], .tup [],[(0,rwO ts (p4R q b (c+1) (l:Nat))),(1,⟨true,150,c2E cl cw cv k 3 l x y z w 2 n,0⟩)],[(3,⟨true,5, .ints .u8 l (byG (p4R q b (c+1) (l:Nat)) b c),1⟩)],none⟩ S v)=(
 ∀(_:Unit),((0:Int)<=1/\1<=l/\1<kk)/\(((0:Int)<=IntKind.wrap IntKind.u32 T2/\IntKind.wrap IntKind.u32 T2<4294967296)/\(4<=l-1/\q.1 b/\c+1+4<=T4.2 b)/\A1 .u8 (T4.3 b (c+1+3)))/\true=true/\(True->(T2=T2/\(0
 : Int)<=T2/\T2<=9223372036854775807/\T2*1<=(140737488355328:Int))/\(l=Int.toNat T2/\Int.toNat T2*1=Int.toNat T2*1/\0<Int.toNat T2*1/\q.1 b/\c+Int.toNat T2*1<=T5.2 b/\∀(j:Nat),j<Int.toNat T2*1->A1 .u8 (pB T3
 b (c+1) T1 3 b (c+j)))/\∃(_:Unit),True/\True/\True/\(0=0/\0=0/\ts=ts/\pB T3 b (c+1) T1 3=pB (pB (pB (pB q.3 b (c+1) T2 0) b (c+1) T2 1) b (c+1) T2 2) b (c+1) T2 3/\q.2=q.2/\RM.D T5=RM.D (p4R q b (c+1) T2))/\
 True/\(150=150/\0=0/\cl=cl/\cw=cw/\cv=cv/\k=k/\(True/\Int.toNat T2=l)/\x=x/\y=y/\z=z/\w=w/\(True/\n=n)/\True)/\True/\(5=5/\1=1/\l<=Int.toNat T2*1/\∀(i:Nat),i<l->m8 (pB T3 b (c+1) T1 3 b (c
 + i))=byG (p4R q b (c+1) T2) b c i)/\True)):=by subst t1 t2 t3 t4 t5;kernel_rfl
theorem d0W:u6 Tryz.prog 115 (l9 (Unit) ⟨()⟩ b9t):=by
 refine I6 x10 Tryz.func115 rfl (by kernel_rfl) λargs=>?_
 unfold b9t;split
 ·rename_i s nn b c l kk;intro o0;try dsimp only
  split
  ·rename_i ts q hm0;intro o1;try dsimp only
   split
   ·rename_i hrw1;try dsimp only
    split
    ·rename_i cl cw cv k x y z w p n hm1;intro o2;try dsimp only
     split
     ·rename_i m2 g hm2;intro ho;replace ho:m2=2*n/\(byO q b c l kk/\5<=l/\l<=2000000):=ho;obtain⟨hsz2,ho⟩:=ho;subst hsz2;refine⟨?_,_,_,(c0o ts q b c l kk cl cw cv k x y z w p n g rfl rfl rfl rfl rfl).mpr ?_⟩
      ·refine g9 rfl ⟨λ_=>rfl,?_,⟨trivial,z9 hm0,⟨trivial,K5 hrw1 (O6 hm1 a8),⟨trivial,(r9 hm2).1,trivial⟩⟩⟩⟩;simp[j9,o8,o9,p7,nth,a8]
      ·obtain⟨hO,h5,hl⟩:=ho
       have hu:IntKind.wrap .u32 ((l:Nat):Int)=((l:Nat):Int):=by
        show ((l:Nat):Int) % 4294967296=_;omega
       have hk:=hO.le;have hS:=hO.S;have hb4:=(hO.is 4 (by omega)).i;have hby:=b7R hO ((l:Nat):Int);simp only[true_and,and_true,eq_self,Int.toNat_natCast,Nat.mul_one,true_implies,Int.reduceLE];simp only[hu];refine λ_=>⟨⟨by omega,by omega⟩,⟨⟨by omega,by omega⟩,⟨by omega,hO.D,by show c+1+4<=q.S b;omega⟩,hb4⟩,⟨by omega,by omega,by omega⟩,⟨by omega,hO.D,by show c+l<=q.S b;omega,λj hj=>(hby j hj).i⟩,(),?_⟩
       exact⟨⟨trivial,rfl⟩,Nat.le_refl _,λi hi=>rfl⟩
     ·trivial
    ·trivial
   ·trivial
  ·trivial
 ·trivial
end Go.Proofs.Tryz.Sx

namespace Go.Fl
open Go Go.Sx Ieee
def FU(x:Nat)(n:Int)(u:Nat):Prop:=Fin x/\V x=n*2 ^ u
theorem FU.up{x:Nat}{n:Int}{u v k:Nat}(h:FU x n v)(hu:v=u+k):FU x (n*2 ^ k) u:=by
 refine⟨h.1,?_⟩;rw[h.2,hu,Int.pow_add,Int.mul_comm (2 ^ u:Int),<-Int.mul_assoc]
theorem a7l(neg:Bool){mag k u:Nat}{place:Int}(hu:u<=2000)(hp : -1074<=place)(hk0:k≠0)(hk:k<2 ^ 53)(h:mag*2 ^ (place+1074).toNat=k*2 ^ u) :
  FU (double.nearest neg mag place) (if neg then -(k:Int)else(k:Int)) u:=by
 have hkl:k.log2<=52:=by
  have:=(Nat.log2_lt hk0).2 hk;omega
 by_cases hs:(place+1074).toNat<=u
 ·have e:mag=k*2 ^ (u-(place+1074).toNat):=by
   have e1:u=(u-(place+1074).toNat)+(place+1074).toNat:=by omega
   have h':=h;rw[e1,Nat.pow_add,<-Nat.mul_assoc]at h';have:=Nat.eq_of_mul_eq_mul_right (Nat.two_pow_pos _) h';exact this
  subst e;obtain⟨h1,h2⟩:=K4 neg hk0 hk (sh:=u-(place+1074).toNat) (place:=place) (by omega) (by omega);refine⟨h1,?_⟩;rw[h2];have e2:(place+((u-(place+1074).toNat:Nat):Int)+1074).toNat=u:=by omega
  rw[e2,Int.natCast_mul,Int.natCast_pow];cases neg <;> simp[Int.neg_mul]
 ·have e:k=mag*2 ^ ((place+1074).toNat-u):=by
   have e1:(place+1074).toNat=((place+1074).toNat-u)+u:=by omega
   rw[e1,Nat.pow_add,<-Nat.mul_assoc]at h;exact(Nat.eq_of_mul_eq_mul_right (Nat.two_pow_pos _) h).symm
  have hm0:mag≠0:=λe0=>hk0 (by rw[e,e0,Nat.zero_mul])
  have hle:mag<=k:=by rw[e];exact Nat.le_mul_of_pos_right _ (Nat.two_pow_pos _)
  have hlog:k.log2=mag.log2+((place+1074).toNat-u):=by
   conv=>lhs;rw[e]
   rw[a0t hm0]
  obtain⟨h1,h2⟩:=K4 neg hm0 (Nat.lt_of_le_of_lt hle hk) (sh:=0) (place:=place) (by omega) (by omega);rw[Nat.pow_zero,Nat.mul_one]at h1 h2;refine⟨h1,?_⟩;rw[h2];have e2:(place+(0:Nat)+1074).toNat=((place+1074).toNat-u)+u:=by omega
  rw[e2,Nat.pow_add,<-Nat.mul_assoc,<-e,Int.natCast_mul,Int.natCast_pow];cases neg <;> simp[Int.neg_mul]
theorem c4F{s t:Bool}{m n:Nat}{i j:Int}{a b:Int}{u:Nat}(hu:u<=2000)(hi : -1074<=i)(hj : -1074<=j)(h1:signed s m (i+1074).toNat=a*2 ^ u)(h2:signed t n (j+1074).toNat=b*2 ^ u)
  (hab:(a+b).natAbs<2 ^ 53):∃ d,Datum.sum (.number s m i) (.number t n j)=some d/\FU (double.write d) (a+b) u:=by
 refine⟨_,rfl,?_⟩;simp only[Format.write];generalize htot:signed s m (i-min i j).toNat+signed t n (j-min i j).toNat=tot;have e1:(i+1074).toNat=(i-min i j).toNat+(min i j+1074).toNat:=by omega
 have e2:(j+1074).toNat=(j-min i j).toNat+(min i j+1074).toNat:=by omega
 have hkey:tot*2 ^ (min i j+1074).toNat=(a+b)*2 ^ u:=by
  rw[Int.add_mul,<-h1,<-h2,e1,e2,I5,I5,<-Int.add_mul,htot]
 have hpos:∀ k:Nat,(2:Int) ^ k≠0:=λk=>Int.ne_of_gt (C6 k)
 by_cases h0:tot=0
 ·have:a+b=0:=by
   rw[h0,Int.zero_mul]at hkey;rcases Int.mul_eq_zero.1 hkey.symm with h|h
   ·exact h
   ·exact absurd h (hpos _)
  rw[this];have hz:tot.natAbs=0:=by rw[h0];rfl
  unfold Format.nearest;rw[if_pos hz];exact⟨(J5 _).1,by rw[(J5 _).2];simp⟩
 ·have hab0:a+b≠0:=by
   intro e;rw[e,Int.zero_mul]at hkey;rcases Int.mul_eq_zero.1 hkey with h|h
   ·exact h0 h
   ·exact absurd h (hpos _)
  have hk:tot.natAbs*2 ^ (min i j+1074).toNat=(a+b).natAbs*2 ^ u:=by
   have:=congrArg Int.natAbs hkey;rw[Int.natAbs_mul,Int.natAbs_mul,A0,A0]at this;exact this
  rw[if_neg h0];have:=a7l (decide (tot<0)) hu (by omega) (by omega:(a+b).natAbs≠0) hab hk
  have hsign:tot<0↔a+b<0:=by
   have hp1:=C6 (min i j+1074).toNat;have hp2:=C6 u;constructor
   ·intro h;have h3:tot*2 ^ (min i j+1074).toNat<0:=Int.mul_neg_of_neg_of_pos h hp1;rw[hkey]at h3;rcases Int.lt_or_le (a+b) 0 with h4|h4
    ·exact h4
    ·have:=Int.mul_nonneg h4 (Int.le_of_lt hp2);omega
   ·intro h;have h3:(a+b)*2 ^ u<0:=Int.mul_neg_of_neg_of_pos h hp2;rw[<-hkey]at h3;rcases Int.lt_or_le tot 0 with h4|h4
    ·exact h4
    ·have:=Int.mul_nonneg h4 (Int.le_of_lt hp1);omega
  have hval:(if decide (tot<0)then -((a+b).natAbs:Int)else((a+b).natAbs:Int))=a+b:=by
   by_cases h:tot<0
   ·simp only[h,decide_true,if_true];have:=hsign.1 h;omega
   ·simp only[h,decide_false,Bool.false_eq_true,if_false];have:=mt hsign.2 h;omega
  rw[hval]at this;exact this
theorem c5l{x y:Nat}{a b:Int}{u:Nat}(hu:u<=2000)(hx:FU x a u)(hy:FU y b u)(h:(a+b).natAbs<2 ^ 53):∃ r,double.add x y=some r/\FU r (a+b) u:=by
 obtain⟨s,m,i,h1,h2,h3,_⟩:=y5 hx.1;obtain⟨t,n,j,h4,h5,h6,_⟩:=y5 hy.1;rw[hx.2]at h3;rw[hy.2]at h6;obtain⟨d,hd,hr⟩:=c4F hu h2 h5 h3 h6 h;refine⟨_,?_,hr⟩;unfold Format.add;rw[h1,h4,hd];rfl
end Go.Fl

namespace Go.Fl
open Go Go.Sx Ieee
theorem a6h:double.read 4611686018427387904=.number false (2 ^ 52) (-51):=by decide
theorem c0z{x r:Nat}{a:Int}{u:Nat}(hu:1000<=u)(hu2:u<=1900)(hx:FU x a (u+1))(ha:a.natAbs<2 ^ 53)(h:A2 .f64 x 4611686018427387904 r):FU r a u:=by
 obtain⟨s,m,i,h1,h2,h3,hm⟩:=y5 hx.1;rw[hx.2]at h3
 have hma:m*2 ^ (i+1074).toNat=a.natAbs*2 ^ (u+1):=by
  have:=congrArg Int.natAbs h3;rw[A5,Int.natAbs_mul,A0]at this;exact this
 have hpos:∀ k:Nat,(2:Nat) ^ k≠0:=λk=>Nat.ne_of_gt (Nat.two_pow_pos _)
 by_cases ha0:a=0
 ·have hm0:m=0:=by
   rw[ha0,Int.natAbs_zero,Nat.zero_mul]at hma;rcases Nat.mul_eq_zero.1 hma with h|h
   ·exact h
   ·exact absurd h (hpos _)
  subst hm0
  have hdiv:double.div x 4611686018427387904=some (double.word (s ^^ false) 0):=by
   unfold Format.div;rw[h1,a6h];simp only[Datum.quotient,hpos 52,if_false,Option.map_some,Format.write,Nat.zero_shiftLeft,Nat.zero_div,Nat.zero_mod,bne_self_eq_false,Bool.toNat_false,Nat.mul_zero,Nat.add_zero];unfold Format.nearest;simp
  have:floatBits .quo .f64 x 4611686018427387904=some (double.word (s ^^ false) 0):=hdiv;unfold A2 at h;rw[this]at h;subst h;exact⟨(J5 _).1,by rw[(J5 _).2,ha0];simp⟩
 ·have hm0:m≠0:=λe=>by
   rw[e,Nat.zero_mul]at hma;rcases Nat.mul_eq_zero.1 hma.symm with h|h
   ·exact ha0 (Int.natAbs_eq_zero.1 h)
   ·exact hpos _ h
  have hlm:m.log2<=52:=by
   have:=(Nat.log2_lt hm0).2 hm;omega
  have hi:(u:Int)-1127<i:=by
   rcases Int.lt_or_le ((u:Int)-1127) i with hc|hc
   ·exact hc
   ·exfalso;have e1:(i+1074).toNat+53<=u+1:=by omega
    have e2:m*2 ^ (i+1074).toNat<2 ^ 53*2 ^ (i+1074).toNat:=Nat.mul_lt_mul_of_pos_right hm (Nat.two_pow_pos _);rw[<-Nat.pow_add]at e2;have e3:2 ^ (53+(i+1074).toNat)<=2 ^ (u+1):=Nat.pow_le_pow_right (by decide) (by omega);have e4:1*2 ^ (u+1)<=a.natAbs*2 ^ (u+1):=Nat.mul_le_mul_right _ (by omega);omega
  have hmo:∃ y6,y6=54+(2 ^ 52).log2-m.log2/\54<=y6/\y6<=106:=by
   have:(2 ^ 52:Nat).log2=52:=by decide
   exact⟨_,rfl,by omega,by omega⟩
  obtain⟨y6,hmore,hm1,hm2⟩:=hmo
  have hq:m*2 ^ y6=m*2 ^ (y6-52)*2 ^ 52:=by
   rw[Nat.mul_assoc,<-Nat.pow_add];congr 2;omega
  have hdiv:double.div x 4611686018427387904=some (double.nearest (s ^^ false) (2*(m*2 ^ (y6-52))) (i-(-51)-y6-1)):=by
   unfold Format.div;rw[h1,a6h];simp only[Datum.quotient,hpos 52,if_false,frb,Option.map_some,Format.write];rw[show (52+2)+(2 ^ 52:Nat).log2-m.log2=y6 from hmore.symm,Nat.shiftLeft_eq,hq,Nat.mul_div_cancel _ (Nat.two_pow_pos 52),Nat.mul_mod_left];simp
  have:floatBits .quo .f64 x 4611686018427387904=some (double.nearest (s ^^ false) (2*(m*2 ^ (y6-52))) (i-(-51)-y6-1)):=hdiv;unfold A2 at h;rw[this]at h;subst h
  have hk:2*(m*2 ^ (y6-52))*2 ^ (i-(-51)-y6-1+1074).toNat=a.natAbs*2 ^ u:=by
   have e1:2*(m*2 ^ (y6-52))*2 ^ (i-(-51)-y6-1+1074).toNat*2=m*2 ^ (i+1074).toNat:=by
    have e2:1+(y6-52)+(i-(-51)-y6-1+1074).toNat+1=(i+1074).toNat:=by omega
    rw[<-e2,Nat.pow_add,Nat.pow_add,Nat.pow_add,Nat.pow_one]
    ac_rfl
   rw[hma,Nat.pow_succ]at e1;have e3:a.natAbs*(2 ^ u*2)=a.natAbs*2 ^ u*2:=by rw[Nat.mul_assoc]
   rw[e3]at e1;exact Nat.eq_of_mul_eq_mul_right (show 0<2 by decide) e1
  have hn:=a7l (s ^^ false) (u:=u) (by omega) (place:=i-(-51)-y6-1) (by omega) (by omega:a.natAbs≠0) ha hk
  have hsg:=a9a h3 (by
   intro e;rcases Int.mul_eq_zero.1 e with e|e
   ·exact ha0 e
   ·exact absurd e (Int.ne_of_gt (C6 _)))
  have hp:=C6 (u+1)
  have e:(if (s ^^ false)=true then -((a.natAbs:Nat):Int)else((a.natAbs:Nat):Int))=a:=by
   rw[Bool.xor_false,hsg];by_cases hneg:a<0
   ·have:a*2 ^ (u+1)<0:=Int.mul_neg_of_neg_of_pos hneg hp;simp only[this,decide_true,if_true];omega
   ·have:¬a*2 ^ (u+1)<0:=by
     have:=Int.mul_nonneg (show 0<=a by omega) (Int.le_of_lt hp);omega
    simp only[this,decide_false,Bool.false_eq_true,if_false];omega
  rw[e]at hn;exact hn
end Go.Fl

namespace Go.Proofs.Tryz.Sx
open Go Go.Sx Go.Proofs Go.Fl Go.Geo
set_option maxRecDepth 100000
def mid(x y:Nat):Nat:=fdiv (fop .add .f64 x y) 4611686018427387904
def midOk(x y:Nat):Prop:=fok .add .f64 x y/\b1Q (fop .add .f64 x y) 4611686018427387904
structure Q4 where
 x0:Nat
 y0:Nat
 x1:Nat
 y1:Nat
def qb0(q:Q4)(k:Int):Nat:=if k=0∨k=2 then q.x0 else mid q.x0 q.x1
def qb1(q:Q4)(k:Int):Nat:=if k=0∨k=1 then mid q.y0 q.y1 else q.y0
def qb2(q:Q4)(k:Int):Nat:=if k=0∨k=2 then mid q.x0 q.x1 else q.x1
def qb3(q:Q4)(k:Int):Nat:=if k=0∨k=1 then q.y1 else mid q.y0 q.y1
def qbV(q:Q4)(k:Int):Q4:=⟨qb0 q k,qb1 q k,qb2 q k,qb3 q k⟩
def cqV(q r:Q4):Int :=
 if fLt .f64 r.x1 (mid q.x0 q.x1)=true then(if fLt .f64 r.y1 (mid q.y0 q.y1)=true then 2 else if fLt .f64 r.y0 (mid q.y0 q.y1)=true then -1 else 0)
 else if fLt .f64 r.x0 (mid q.x0 q.x1)=true then -1 else if fLt .f64 r.y1 (mid q.y0 q.y1)=true then 3 else if fLt .f64 r.y0 (mid q.y0 q.y1)=true then -1 else 1
def b4c:PF:=fun
 | [.agg [.flt .f64 a, .flt .f64 b, .flt .f64 c, .flt .f64 d], .int .i64 k]=>some (.agg [.flt .f64 (qbV ⟨a,b,c,d⟩ k).x0, .flt .f64 (qbV ⟨a,b,c,d⟩ k).y0, .flt .f64 (qbV ⟨a,b,c,d⟩ k).x1, .flt .f64 (qbV ⟨a,b,c,d⟩ k).y1],some ((midOk a c/\midOk b d)/\0<=k/\k<4))
 | _=>none
theorem c0P(R:SV->Prop)(a b c d:Nat)(k:Int){T1}(t1:T1=(fop BinOp.add .f64 b d)){T2}(t2:T2=(fop BinOp.add .f64 a c)):z7 G0 0 [] [] (j3 Tryz.f124) (q9 Tryz.f124.ntmps [.agg [.flt .f64 a, .flt .f64 b, .flt .f64 c, .flt .f64 d], .int .i64 k] [] 0) (r6 G0.E.T Tryz.f124.results.toList λ_ v=>R v)=(
 ((k==(0:Int))=true->fok BinOp.add .f64 b d/\∀(r:Nat),A2 .f64 T1 4611686018427387904 r->fok BinOp.add .f64 a c/\∀(r_1:Nat),A2 .f64 T2 4611686018427387904 r_1->R (SV.agg [SV.flt .f64 a,SV.flt .f64 r,SV.flt .f64 r_1,SV.flt
 .f64 d]))/\((k==(0:Int))=false->((k==(1:Int))=true->fok BinOp.add .f64 a c/\∀(r:Nat),A2 .f64 T2 4611686018427387904 r->fok BinOp.add .f64 b d/\∀(r_1:Nat),A2 .f64 T1 4611686018427387904 r_1->R (SV.agg [SV.flt .f64 r,
 SV.flt .f64 r_1,SV.flt .f64 c,SV.flt .f64 d]))/\((k==(1:Int))=false->((k==(2:Int))=true->fok BinOp.add .f64 a c/\∀(r:Nat),A2 .f64 T2 4611686018427387904 r->fok BinOp.add .f64 b d/\∀(r_1:Nat),A2 .f64 T1
 4611686018427387904 r_1->R (SV.agg [SV.flt .f64 a,SV.flt .f64 b,SV.flt .f64 r,SV.flt .f64 r_1]))/\((k==(2:Int))=false->((k==(3:Int))=true->fok BinOp.add .f64 a c/\∀(r:Nat),A2 .f64 T2 4611686018427387904 r->fok BinOp.add
 .f64 b d/\∀(r_1:Nat),A2 .f64 T1 4611686018427387904 r_1->R (SV.agg [SV.flt .f64 r,SV.flt .f64 b,SV.flt .f64 c,SV.flt .f64 r_1]))/\((k==(3:Int))=false->R (SV.agg [SV.flt .f64 0,SV.flt .f64 0,SV.flt .f64 0,SV.flt .f64 0])))))):=by subst t1 t2;kernel_rfl
theorem c8E:y7 Tryz.prog 124 b4c:=by
 refine v7 g0 Tryz.func124 rfl (by kernel_rfl) ?_;intro args v p h hp;unfold b4c at h;split at h
 ·rename_i a b c d k;injection h with h;injection h with h1 h2;subst h1;subst h2
  have hp:(midOk a c/\midOk b d)/\0<=k/\k<4:=hp;refine⟨rfl,_,_,(c0P _ a b c d k rfl rfl).mpr ?_⟩;obtain⟨⟨⟨h1,h2⟩,⟨h3,h4⟩⟩,h5,h6⟩:=hp;have hk:k=0∨k=1∨k=2∨k=3:=by omega
  rcases hk with rfl|rfl|rfl|rfl
  ·refine⟨λ_=>⟨h3,λr hr=>⟨h1,λr1 hr1=>?_⟩⟩,λh=>absurd h (by decide)⟩;rw[Q6 hr h4,Q6 hr1 h2];simp[qbV,qb0,qb1,qb2,qb3,eqv,a0I,r8,mid]
  ·refine⟨λh=>absurd h (by decide),λ_=>⟨λ_=>⟨h1,λr hr=>⟨h3,λr1 hr1=>?_⟩⟩,λh=>absurd h (by decide)⟩⟩;rw[Q6 hr h2,Q6 hr1 h4];simp[qbV,qb0,qb1,qb2,qb3,eqv,a0I,r8,mid]
  ·refine⟨λh=>absurd h (by decide),λ_=>⟨λh=>absurd h (by decide),λ_=>⟨λ_=>⟨h1,λr hr=>⟨h3,λr1 hr1=>?_⟩⟩,λh=>absurd h (by decide)⟩⟩⟩;rw[Q6 hr h2,Q6 hr1 h4];simp[qbV,qb0,qb1,qb2,qb3,eqv,a0I,r8,mid]
  ·refine⟨λh=>absurd h (by decide),λ_=>⟨λh=>absurd h (by decide),λ_=>⟨λh=>absurd h (by decide),λ_=>⟨λ_=>⟨h1,λr hr=>⟨h3,λr1 hr1=>?_⟩⟩,λh=>absurd h (by decide)⟩⟩⟩⟩;rw[Q6 hr h2,Q6 hr1 h4];simp[qbV,qb0,qb1,qb2,qb3,eqv,a0I,r8,mid]
 ·cases h
noncomputable def c1q:List SV->RRd (Unit)
 | [.pb n b c, .agg [.flt .f64 x0, .flt .f64 y0, .flt .f64 x1, .flt .f64 y1], .agg [.flt .f64 r0, .flt .f64 r1, .flt .f64 r2, .flt .f64 r3]]=>.read n λo0=>(match G2 o0 with
  | some (ts,q)=>.ret ⟨[.pb 0 b c, .agg [.flt .f64 x0, .flt .f64 y0, .flt .f64 x1, .flt .f64 y1], .agg [.flt .f64 r0, .flt .f64 r1, .flt .f64 r2, .flt .f64 r3]],[(0,rwO ts q)],some ((midOk x0 x1/\midOk y0 y1)),λ_i=>True,λ_i=>⟨[],[], .int .i64 (cqV ⟨x0,y0,x1,y1⟩ ⟨r0,r1,r2,r3⟩),[(0,rwO ts (q))],[],none⟩⟩
  | none=>.fail)
 | _=>.fail
theorem c5k(R:Option Ob->SV->Prop)(ts:List Nat)(q:RM)(b c:Nat)(x0 y0 x1 y1 r0 r1 r2 r3:Nat){T1}(t1:T1=(Option.some (Ob.mk true 0 (a9.raw ts (RM.D q) q.2 q.3) 0))){T2}(t2:T2=(SV.int .i64 (-1:Int))):J7 X0 1 [] [] (j3 Tryz.f123) (q9 Tryz.f123.ntmps [.pb 0 b c, .agg [.flt .f64 x0, .flt .f64 y0, .flt .f64 x1, .flt .f64 y1], .agg [.flt .f64 r0, .flt .f64 r1, .flt .f64 r2, .flt .f64 r3]] [(0,rwO ts q)] 1) (r6 X0.G.E.T Tryz.f123.results.toList λS v=>R (Go.Sx.look S.H 0) v)=(
 fok BinOp.add .f64 x0 x1/\∀(r:Nat),A2 .f64 (fop BinOp.add .f64 x0 x1) 4611686018427387904 r->fok BinOp.add .f64 y0 y1/\∀(r_1:Nat),A2 .f64 (fop BinOp.add .f64 y0 y1) 4611686018427387904 r_1->(fLt .f64 r2 r=true->(fLt .f64 r3 r_1
 = true->R T1 (SV.int .i64 (2:Int)))/\(fLt .f64 r3 r_1=false->(fLt .f64 r1 r_1=true->R T1 T2)/\(fLt .f64 r1 r_1=false->R T1 (SV.int .i64 (0:Int)))))/\(fLt .f64 r2 r=false->(fLt .f64 r0 r=true->R T1 T2)/\(fLt .f64 r0 r=false->
 (fLt .f64 r3 r_1=true->R T1 (SV.int .i64 (3:Int)))/\(fLt .f64 r3 r_1=false->(fLt .f64 r1 r_1=true->R T1 T2)/\(fLt .f64 r1 r_1=false->R T1 (SV.int .i64 (1:Int))))))):=by subst t1 t2;kernel_rfl
theorem rCq:u6 Tryz.prog 123 (l9 (Unit) ⟨()⟩ c1q):=by
 refine A7 x0 Tryz.func123 rfl (by kernel_rfl) λargs=>?_
 unfold c1q;split
 ·rename_i n b c x0 y0 x1 y1 r0 r1 r2 r3;intro o0;try dsimp only
  split
  ·rename_i ts q hm0;intro ho;replace ho:(midOk x0 x1/\midOk y0 y1):=ho;refine⟨?_,Nat.succ_pos _,ts,λ(_i:Unit)=>q,λ(_i:Unit)=>.int .i64 (cqV ⟨x0,y0,x1,y1⟩ ⟨r0,r1,r2,r3⟩),λ_=>rfl,?_,_,_,(c5k (G6 1 ts (λ(_i:Unit)=>True) (λ(_i:Unit)=>q) (λ(_i:Unit)=>.int .i64 (cqV ⟨x0,y0,x1,y1⟩ ⟨r0,r1,r2,r3⟩))) ts q b c x0 y0 x1 y1 r0 r1 r2 r3 rfl rfl).mpr ?_⟩
   ·refine g9 rfl ⟨λ_=>rfl,?_,⟨trivial,z9 hm0,trivial⟩⟩;simp[j9,o8,r8,o9,p7,nth,a8]
   ·intro _i _;rfl
   ·obtain⟨⟨h1,h2⟩,⟨h3,h4⟩⟩:=ho;refine⟨h1,λr hr=>⟨h3,λr' hr'=>?_⟩⟩;obtain rfl:r=mid x0 x1:=Q6 hr h2;obtain rfl:r'=mid y0 y1:=Q6 hr' h4;have hR:∀ i:Int,i=cqV ⟨x0,y0,x1,y1⟩ ⟨r0,r1,r2,r3⟩->G6 1 ts (λ_i:Unit=>True) (λ_i=>q) (λ_i=>.int .i64 (cqV ⟨x0,y0,x1,y1⟩ ⟨r0,r1,r2,r3⟩)) (some ⟨true,0, .raw ts q.D q.S q.F,0⟩) (.int .i64 i):=λi hi=>⟨(),trivial,rfl,by rw[hi];simp[o8,p8]⟩
    generalize G6 1 ts (λ_i:Unit=>True) (λ_i=>q) (λ_i=>.int .i64 (cqV ⟨x0,y0,x1,y1⟩ ⟨r0,r1,r2,r3⟩)) (some ⟨true,0, .raw ts q.D q.S q.F,0⟩)=R at hR ⊢;unfold cqV at hR;refine⟨λa1=>⟨λa2=>hR _ ?_,λa2=>⟨λa3=>hR _ ?_,λa3=>hR _ ?_⟩⟩,λa1=>⟨λa2=>hR _ ?_,λa2=>⟨λa3=>hR _ ?_,λa3=>⟨λa4=>hR _ ?_,λa4=>hR _ ?_⟩⟩⟩⟩
    all_goals simp_all
  ·trivial
 ·trivial
theorem d0G:q7 Tryz.prog 123 (a1f (l9 Unit ⟨()⟩ c1q) ()):=a9L rCq () λ_=>rfl
open Ieee in
theorem b9R{x:Nat}(hx:Fl.Fin x):b1Q x 4611686018427387904:=by
 obtain⟨s,m,i,h1,_⟩:=y5 hx;show (Format.div double x 4611686018427387904).isSome=true;unfold Format.div;rw[h1,a6h];simp only[Datum.quotient,Nat.ne_of_gt (Nat.two_pow_pos 52),if_false];rfl
theorem b7I{x y:Nat}(h:b1Q x y):A2 .f64 x y (fdiv x y):=by
 unfold b1Q at h;unfold A2 fdiv
 cases hq:floatBits .quo .f64 x y with
 | none=>rw[hq]at h;cases h
 | some v=>rfl
theorem c5H{x y:Nat}{a b:Int}{u:Nat}(hu:1000<=u)(hu2:u<=1899)(hx:FU x a (u+1))(hy:FU y b (u+1))(h:(a+b).natAbs<2 ^ 53):midOk x y/\FU (mid x y) (a+b) u:=by
 obtain⟨r,h1,h2⟩:=c5l (by omega) hx hy h;have e1:floatBits .add .f64 x y=some r:=h1;have e2:fop .add .f64 x y=r:=by unfold fop;rw[e1];rfl
 have e3:fok .add .f64 x y:=by unfold fok;rw[e1];rfl
 have e4:b1Q (fop .add .f64 x y) 4611686018427387904:=by rw[e2];exact b9R h2.1
 refine⟨⟨e3,e4⟩,?_⟩;exact c0z hu (by omega) (by rw[<-e2]at h2;exact h2) h (b7I e4)
def a3Y:PF:=fun
 | [.agg [.flt .f64 a, .flt .f64 b, .flt .f64 c, .flt .f64 d]]=>some (.agg [.flt .f64 a, .flt .f64 b, .flt .f64 c, .flt .f64 d],none)
 | _=>none
theorem b9C(R:SV->Prop)(a b c d:Nat):z7 G0 0 [] [] (j3 Tryz.f198) (q9 Tryz.f198.ntmps [.agg [.flt .f64 a, .flt .f64 b, .flt .f64 c, .flt .f64 d]] [] 0) (r6 G0.E.T Tryz.f198.results.toList λ_ v=>R v)=(
 R (SV.agg [SV.flt .f64 a,SV.flt .f64 b,SV.flt .f64 c,SV.flt .f64 d])):=by kernel_rfl
theorem b3T:y7 Tryz.prog 198 a3Y:=by
 refine v7 g0 Tryz.func198 rfl (by kernel_rfl) ?_;intro args v p h hp;unfold a3Y at h;split at h
 ·rename_i a b c d;injection h with h;injection h with h1 h2;subst h1;subst h2
  clear hp;refine⟨rfl,_,_,(b9C _ a b c d).mpr ?_⟩;simp[eqv,a0I,r8]
 ·cases h
noncomputable def b4a:List SV->RdM
 | [.int .i64 k, .int .i64 m]=>.ret ⟨[.int .i64 k, .int .i64 m],[], .ptr 0 0,[],[(0,⟨true,148, .cells [.int .u8 (IntKind.u8.wrap k), .int .i64 m],0⟩)],some (True)⟩
 | _=>.fail
theorem c1t(k m:Int){w9:HC}(e9:w9=⟨[.int .i64 k, .int .i64 m],[], .ptr 0 0,[],[(0,⟨true,148, .cells [.int .u8 (IntKind.u8.wrap k), .int .i64 m],0⟩)],some (True)⟩):z7 G0 0 [] [] (j3 Tryz.f64) (q9 Tryz.f64.ntmps w9.args w9.heap 0) (r6 G0.E.T Tryz.f64.results.toList λS v=>w0 0 w9 S v)=(
 (True/\0=0)/\True/\(148=148/\0=0/\IntKind.wrap .u8 k=IntKind.wrap .u8 k/\m=m/\True)/\True):=by subst e9;kernel_rfl
theorem c6X:q7 Tryz.prog 64 (p9 b4a):=by
 refine j8 g0 Tryz.func64 rfl (by kernel_rfl) λargs=>?_
 unfold b4a;split
 ·rename_i k m;intro ho;replace ho:True:=ho;refine⟨?_,_,_,(c1t k m rfl).mpr ?_⟩
  ·refine g9 rfl ⟨?_,trivial⟩;simp[j9,o8,p8]
  ·simp
 ·trivial
def GPT:Ctx:=⟨⟨tys,[]⟩,[(75,l8 ptF)]⟩
theorem gPT:v8 Tryz.prog GPT:=⟨⟨z6,FlatsOk.nil⟩,g8.cons (.pure pt) g8.nil,by kernel_rfl⟩
def fI(g:Nat->Int)(j:Nat):Nat:=ofI .f64 (g j)
def d0N(len:Nat)(g:Nat->Int):Fam:=⟨Nat,λi =>
 ⟨19,[(3, .slcc 1 i),(6, .slcc 0 len),(7, .int .i64 len),(8, .int .i64 i)],[(0,⟨false,23, .ints .i64 (2*len) g,0⟩),(1,⟨true,100, .flts .f64 (2*i) (fI g),2⟩)],2⟩,λi=>i<=len,λi=>len-i⟩
theorem b5j{i:Nat}{g:Nat->Nat}{x y:Nat}(hx:x=g (2*i))(hy:y=g (2*i+1)):∀ j,j<2*(i+1)->y6 (2*i) g [x,y] 0 j=g j:=by
 intro j hj;subst hx hy;unfold y6;split
 ·rfl
 ·have:j=2*i∨j=2*i+1:=by omega
  rcases this with rfl|rfl <;> simp
noncomputable def b6Y:List SV->RdM
 | [.slcc n len]=>.read n λo0=>(match o7 .i64 o0.c with
  | some (m0,g)=>.ret ⟨[.slcc 0 len],[(0,⟨false,23, .ints .i64 m0 g,0⟩)], .slcc 1 len,[],[(1,⟨true,100, .flts .f64 (2*len) (fI g),2⟩)],some (m0=2*len/\len<=1000000)⟩
  | none=>.fail)
 | _=>.fail
theorem c4w(len:Nat)(g:Nat->Int){w9:HC}(e9:w9=⟨[.slcc 0 len],[(0,⟨false,23, .ints .i64 (2*len) g,0⟩)], .slcc 1 len,[],[(1,⟨true,100, .flts .f64 (2*len) (fI g),2⟩)],some (2*len=2*len/\len<=1000000)⟩){T1}(t1:T1=(↑len:Int)){T2}(t2:T2=λ(i:Nat)=>(↑i:Int))
 {T3}(t3:T3=λ(i:Nat)=>(2*len<=2*len/\∀(i:Nat),i<2*len->g i=g i)):z7 GPT 1 [(3,d0N len g)] [] (j3 Tryz.f74) (q9 Tryz.f74.ntmps w9.args w9.heap 1) (r6 GPT.E.T Tryz.f74.results.toList λS v=>w0 1 w9 S v)=(
 (∃(i:Nat),i<=len/\(i=0/\(True/\len=len)/\T1=T1/\0=(T2 i)/\True)/\True/\(T3 i)/\True/\2*i=0/\True)/\∀(i:Nat),i<=len->(decide ((T2 i)<T1)=true->((0<=(T2 i)/\(T2 i)<T1)/\1<=2*len)/\0+Int.toNat (T2 i) *
 2+2<=2*len/\(2*i=i*2/\(i+1)*16<=140737488355328/\i+1<=9223372036854775807)/\∃(i':Nat),i'<=len/\len-i'<len-i/\((True/\i+1=i')/\(True/\len=len)/\T1=T1/\IntKind.wrap .i64 ((T2 i)+1)=(↑i':Int)/\
 True)/\True/\(T3 i)/\True/\(100=100/\2=2/\2*i'<=2*i+List.length [ofI .f64 (g (0+Int.toNat (T2 i)*2)),ofI .f64 (g (0+Int.toNat (T2 i)*2+1))]/\∀(i_1:Nat),i_1<2*i'->y6 (2*i) (fI g) [ofI .f64 (g (0+Int.toNat
 (T2 i)*2)),ofI .f64 (g (0+Int.toNat (T2 i)*2+1))] 0 i_1=fI g i_1)/\True)/\(decide ((T2 i)<T1)=false->(True/\i=len)/\True/\(100=100/\2=2/\2*len<=2*i/\∀(i:Nat),i<2*len->fI g i=fI g i)/\True)):=by subst e9 t1 t2 t3;kernel_rfl
theorem pts:q7 Tryz.prog 74 (p9 b6Y):=by
 refine j8 gPT Tryz.func74 rfl (by kernel_rfl) λargs=>?_
 unfold b6Y;split
 ·rename_i n len;intro o0;try dsimp only
  split
  ·rename_i m0 g hm0;intro ho;replace ho:m0=2*len/\len<=1000000:=ho;obtain⟨hsz0,ho⟩:=ho;subst hsz0;refine⟨?_,_,_,(c4w len g rfl rfl rfl rfl).mpr ?_⟩
   ·refine g9 rfl ⟨?_,⟨trivial,(o5 hm0).1,trivial⟩⟩;simp[j9,o8,o9,p7,nth,a8]
   ·refine⟨⟨0,by omega,by simp⟩,λi hi=>?_⟩;have e:i*2=2*i:=by omega
    simp only[Int.toNat_natCast,Nat.zero_add,e,true_and,and_true,implies_true,Nat.le_refl];refine⟨λh=>?_,λh=>?_⟩
    ·have h:=of_decide_eq_true h;have hw:IntKind.i64.wrap ((i:Int)+1)=((i+1:Nat):Int):=by rw[j5 (by omega) (by omega)];omega
     refine⟨by omega,by omega,by omega,i+1,by omega,by omega,⟨rfl,hw⟩,?_,b5j rfl rfl⟩;show 2*(i+1)<=2*i+2;omega
    ·have h:=of_decide_eq_false h;omega
  ·trivial
 ·trivial
def crn(g:Nat->Int)(len:Nat)(i:Int)(k:Nat):Int:=if i<len then g (2*i.toNat+k)else 0
noncomputable def a5j:List SV->RdM
 | [.agg [.int .i64 k, .slcc n len, .nils], .int .i64 i]=>.read n λo0=>(match o7 .i64 o0.c with
  | some (m0,g)=>.ret ⟨[.agg [.int .i64 k, .slcc 0 len, .nils], .int .i64 i],[(0,⟨false,23, .ints .i64 m0 g,0⟩)], .agg [.int .i64 (crn g len i 0), .int .i64 (crn g len i 1)],[],[],some (m0=2*len/\0<=i)⟩
  | none=>.fail)
 | _=>.fail
theorem b5q(k:Int)(len:Nat)(i:Int)(g:Nat->Int){w9:HC}(e9:w9=⟨[.agg [.int .i64 k, .slcc 0 len, .nils], .int .i64 i],[(0,⟨false,23, .ints .i64 (2*len) g,0⟩)], .agg [.int .i64 (crn g len i 0), .int .i64 (crn g len i 1)],[],[],some (2*len=2*len/\0<=i)⟩):z7 G0 1 [] [] (j3 Tryz.f72) (q9 Tryz.f72.ntmps w9.args w9.heap 1) (r6 G0.E.T Tryz.f72.results.toList λS v=>w0 1 w9 S v)=(
 (decide (i<(↑len:Int))=true->(((0:Int)<=i/\i<(↑len:Int))/\1<=2*len)/\0+Int.toNat i*2+2<=2*len/\(g (0+Int.toNat i*2)=crn g len i 0/\g (0+Int.toNat i*2+1)=crn g len i 1/\True)/\True)/\(decide (i<(↑len :
 Int))=false->((0:Int)=crn g len i 0/\(0:Int)=crn g len i 1/\True)/\True)):=by subst e9;kernel_rfl
theorem b7G:q7 Tryz.prog 72 (p9 a5j):=by
 refine j8 g0 Tryz.func72 rfl (by kernel_rfl) λargs=>?_
 unfold a5j;split
 ·rename_i k n len i;intro o0;try dsimp only
  split
  ·rename_i m0 g hm0;intro ho;replace ho:m0=2*len/\0<=i:=ho;obtain⟨hsz0,ho⟩:=ho;subst hsz0;refine⟨?_,_,_,(b5q k len i g rfl).mpr ?_⟩
   ·refine g9 rfl ⟨?_,⟨trivial,(o5 hm0).1,trivial⟩⟩;simp[j9,o8,p8,o9,p7,nth,a8]
   ·have e:0+i.toNat*2=2*i.toNat:=by omega
    refine⟨λh=>?_,λh=>?_⟩
    ·have h:=of_decide_eq_true h;rw[e];simp[crn,h];omega
    ·have h:=of_decide_eq_false h;simp[crn,h]
  ·trivial
 ·trivial
noncomputable def GSH:Ctx:=⟨⟨tys,[]⟩,[(72,p9 a5j),(75,l8 ptF),(68,l8 a4S),(74,p9 b6Y),(73,p9 a6E)]⟩
theorem gSH:v8 Tryz.prog GSH:=⟨⟨z6,FlatsOk.nil⟩,g8.cons b7G (g8.cons (.pure pt) (g8.cons (.pure b8k) (g8.cons pts (g8.cons b9W g8.nil)))),by kernel_rfl⟩
def fcr(g:Nat->Int)(len:Nat)(i:Int)(k:Nat):Nat:=ofI .f64 (crn g len i k)
noncomputable def a5u:List SV->RdM
 | [.agg [.int .i64 1, .slcc n len, .nils], .ptr o 0]=>.read n λo0=>(match o7 .i64 o0.c with
  | some (m0,g)=>.read o λo1=>(match a4C o1.c with
  | some (km,mm)=>.ret ⟨[.agg [.int .i64 1, .slcc 0 len, .nils], .ptr 1 0],[(0,⟨false,23, .ints .i64 m0 g,0⟩),(1,⟨false,148,a4c km mm,0⟩)], .ifc 102 (.agg [.flt .f64 (fcr g len 0 0), .flt .f64 (fcr g len 0 1), .flt .f64 (fcr g len 1 0), .flt .f64 (fcr g len 1 1)]),[],[],some (m0=2*len/\True)⟩
  | none=>.fail)
  | none=>.fail)
 | _=>.fail
theorem b1v(len:Nat)(km mm:Int)(g:Nat->Int){w9:HC}(e9:w9=⟨[.agg [.int .i64 1, .slcc 0 len, .nils], .ptr 1 0],[(0,⟨false,23, .ints .i64 (2*len) g,0⟩),(1,⟨false,148,a4c km mm,0⟩)], .ifc 102 (.agg [.flt .f64 (fcr g len 0 0), .flt .f64 (fcr g len 0 1), .flt .f64 (fcr g len 1 0), .flt
 .f64 (fcr g len 1 1)]),[],[],some (2*len=2*len/\True)⟩):z7 GSH 2 [] [] (j3 Tryz.f63) (q9 Tryz.f63.ntmps w9.args w9.heap 2) (r6 GSH.E.T Tryz.f63.results.toList λS v=>w0 2 w9 S v)=(
 (true=true->(2*len=2*len/\(0:Int)<=0)/\(2*len=2*len/\(0:Int)<=1)/\true=true/\(ofI .f64 (crn g len (0:Int) 0)=fcr g len (0:Int) 0/\ofI .f64 (crn g len (0:Int) 1)=fcr g len (0:Int) 1/\ofI .f64 (crn g len (1 :
 Int) 0)=fcr g len (1:Int) 0/\ofI .f64 (crn g len (1:Int) 1)=fcr g len (1:Int) 1/\True)/\True)/\(true=false->(false=true->(2*len=2*len/\len<=1000000)/\(2*len=2*len/\km=(0:Int)/\len<=1000000/\(j4 len false
 = true->ppOk (fI g) len))/\False/\True)/\(false=false->(false=true->False)/\(false=false->(2*len=2*len/\(0:Int)<=0)/\False/\True)))):=by subst e9;kernel_rfl
theorem c0D:q7 Tryz.prog 63 (p9 a5u):=by
 refine j8 gSH Tryz.func63 rfl (by kernel_rfl) λargs=>?_
 unfold a5u;split
 ·rename_i n len o;intro o0;try dsimp only
  split
  ·rename_i m0 g hm0;intro o1;try dsimp only
   split
   ·rename_i km mm hm1;intro ho;replace ho:m0=2*len/\True:=ho;obtain⟨hsz0,ho⟩:=ho;subst hsz0;refine⟨?_,_,_,(b1v len km mm g rfl).mpr ?_⟩
    ·refine g9 rfl ⟨?_,⟨trivial,(o5 hm0).1,⟨trivial,O5 hm1,trivial⟩⟩⟩;simp[j9,o8,p8,o9,p7,nth,a8]
    ·simp[fcr]
   ·trivial
  ·trivial
 ·trivial
def toL(len:Nat)(g:Nat->Int):Fam:=⟨Nat,λi =>
 ⟨18,[(3, .slcc 1 i),(6, .slcc 0 len),(7, .int .i64 len),(8, .int .i64 i)],[(0,⟨false,28, .ints .i64 (2*len) g,0⟩),(1,⟨true,23, .ints .i64 (2*i) g,2⟩)],2⟩,λi=>i<=len,λi=>len-i⟩
noncomputable def b1y:List SV->RdM
 | [.slcc n len]=>.read n λo0=>(match o7 .i64 o0.c with
  | some (m0,g)=>.ret ⟨[.slcc 0 len],[(0,⟨false,28, .ints .i64 m0 g,0⟩)], .slcc 1 len,[],[(1,⟨true,23, .ints .i64 (2*len) g,2⟩)],some (m0=2*len/\len<=1000000)⟩
  | none=>.fail)
 | _=>.fail
theorem b7w(len:Nat)(g:Nat->Int){w9:HC}(e9:w9=⟨[.slcc 0 len],[(0,⟨false,28, .ints .i64 (2*len) g,0⟩)], .slcc 1 len,[],[(1,⟨true,23, .ints .i64 (2*len) g,2⟩)],some (2*len=2*len/\len<=1000000)⟩){T1}(t1:T1=(↑len:Int)){T2}(t2:T2=λ(i:Nat)=>(↑i:Int))
 {T3}(t3:T3=λ(i:Nat)=>(2*len<=2*len/\∀(i:Nat),i<2*len->g i=g i)):z7 G0 1 [(3,toL len g)] [] (j3 Tryz.f34) (q9 Tryz.f34.ntmps w9.args w9.heap 1) (r6 G0.E.T Tryz.f34.results.toList λS v=>w0 1 w9 S v)=(
 (∃(i:Nat),i<=len/\(i=0/\(True/\len=len)/\T1=T1/\0=(T2 i)/\True)/\True/\(T3 i)/\True/\2*i=0/\True)/\∀(i:Nat),i<=len->(decide ((T2 i)<T1)=true->((0<=(T2 i)/\(T2 i)<T1)/\1<=2*len)/\0+Int.toNat (T2 i) *
 2+2<=2*len/\(2*i=i*2/\(i+1)*16<=140737488355328/\i+1<=9223372036854775807)/\∃(i':Nat),i'<=len/\len-i'<len-i/\((True/\i+1=i')/\(True/\len=len)/\T1=T1/\IntKind.wrap .i64 ((T2 i)+1)=(↑i':Int)/\
 True)/\True/\(T3 i)/\True/\(23=23/\2=2/\2*i'<=2*i+List.length [g (0+Int.toNat (T2 i)*2),g (0+Int.toNat (T2 i)*2+1)]/\∀(i_1:Nat),i_1<2*i'->y6 (2*i) g [g (0+Int.toNat (T2 i)*2),g (0+Int.toNat (T2 i)*2
 + 1)] (0:Int) i_1=g i_1)/\True)/\(decide ((T2 i)<T1)=false->(True/\i=len)/\True/\(23=23/\2=2/\2*len<=2*i/\∀(i:Nat),i<2*len->g i=g i)/\True)):=by subst e9 t1 t2 t3;kernel_rfl
theorem c6U:q7 Tryz.prog 34 (p9 b1y):=by
 refine j8 g0 Tryz.func34 rfl (by kernel_rfl) λargs=>?_
 unfold b1y;split
 ·rename_i n len;intro o0;try dsimp only
  split
  ·rename_i m0 g hm0;intro ho;replace ho:m0=2*len/\len<=1000000:=ho;obtain⟨hsz0,ho⟩:=ho;subst hsz0;refine⟨?_,_,_,(b7w len g rfl rfl rfl rfl).mpr ?_⟩
   ·refine g9 rfl ⟨?_,⟨trivial,(o5 hm0).1,trivial⟩⟩;simp[j9,o8,o9,p7,nth,a8]
   ·refine⟨⟨0,by simp⟩,λi hi=>⟨λh=>?_,λh=>?_⟩⟩
    ·have h:=of_decide_eq_true h;have e:0+(i:Int).toNat*2=2*i:=by omega
     refine⟨by omega,by omega,by omega,i+1,by omega,by omega,⟨⟨trivial,rfl⟩,⟨trivial,rfl⟩,rfl,?_,trivial⟩,trivial,⟨Nat.le_refl _,λ_ _=>rfl⟩,trivial,⟨rfl,rfl,?_,?_⟩,trivial⟩
     ·rw[j5 (by omega) (by omega)];omega
     ·show 2*(i+1)<=2*i+2;omega
     ·exact b0r (by rw[e]) (by rw[e])
    ·have h:=of_decide_eq_false h;have:i=len:=by omega
     subst this;exact⟨⟨trivial,rfl⟩,trivial,⟨rfl,rfl,Nat.le_refl _,λ_ _=>rfl⟩,trivial⟩
  ·trivial
 ·trivial
def GIG:Ctx:=⟨⟨tys,[]⟩,[(19,p9 a8p)]⟩
theorem gIG:v8 Tryz.prog GIG:=⟨⟨z6,FlatsOk.nil⟩,g8.cons c1T g8.nil,by kernel_rfl⟩
noncomputable def a6c:List SV->RdM
 | [.slcc n len]=>.read n λo0=>(match o7 .i64 o0.c with
  | some (m0,g)=>.ret ⟨[.slcc 0 len],[(0,⟨false,28, .ints .i64 m0 g,0⟩)], .bool (decide (len<=40)&&F6 (2*len) g),[],[],some (m0=2*len/\True)⟩
  | none=>.fail)
 | _=>.fail
theorem b1L(len:Nat)(g:Nat->Int){w9:HC}(e9:w9=⟨[.slcc 0 len],[(0,⟨false,28, .ints .i64 (2*len) g,0⟩)], .bool (decide (len<=40)&&F6 (2*len) g),[],[],some (2*len=2*len/\True)⟩):z7 GIG 1 [] [] (j3 Tryz.f18) (q9 Tryz.f18.ntmps w9.args w9.heap 1) (r6 GIG.E.T Tryz.f18.results.toList λS v=>w0 1 w9 S v)=(
 (decide ((↑len:Int)<=40)=true->(2*len=2*len/\len<=1000000)/\F6 (2*len) g=(decide (len<=40)&&F6 (2*len) g)/\True)/\(decide ((↑len:Int)<=40)=false->(decide (len<=40)&&F6 (2*len) g)=false/\True)):=by subst e9;kernel_rfl
theorem c0d:q7 Tryz.prog 18 (p9 a6c):=by
 refine j8 gIG Tryz.func18 rfl (by kernel_rfl) λargs=>?_
 unfold a6c;split
 ·rename_i n len;intro o0;try dsimp only
  split
  ·rename_i m0 g hm0;intro ho;replace ho:m0=2*len/\True:=ho;obtain⟨hsz0,ho⟩:=ho;subst hsz0;refine⟨?_,_,_,(b1L len g rfl).mpr ?_⟩
   ·refine g9 rfl ⟨?_,⟨trivial,(o5 hm0).1,trivial⟩⟩;simp[j9,o8,o9,p7,nth,a8]
   ·simp;exact⟨λh=>⟨by omega,λ_=>by omega⟩,λh h2=>by omega⟩
  ·trivial
 ·trivial
noncomputable def a8S:List SV->RdM
 | [.slcc n len,v]=>.read n λo0=>(match o7 .i64 o0.c with
  | some (m0,g)=>(match v.toB with
  | some cl=>.ret ⟨[.slcc 0 len, .bool cl],[(0,⟨false,28, .ints .i64 m0 g,0⟩)], .bool (decide (len<2∨cl=true/\len<3)),[],[],some (True)⟩
  | none=>.fail)
  | none=>.fail)
 | _=>.fail
theorem b5Q(len:Nat)(cl:Bool)(m0:Nat)(g:Nat->Int){w9:HC}(e9:w9=⟨[.slcc 0 len, .bool cl],[(0,⟨false,28, .ints .i64 (m0) g,0⟩)], .bool (decide (len<2∨cl=true/\len<3)),[],[],some (True)⟩):z7 G0 1 [] [] (j3 Tryz.f26) (q9 Tryz.f26.ntmps w9.args w9.heap 1) (r6 G0.E.T Tryz.f26.results.toList λS v=>w0 1 w9 S v)=(
 (decide ((↑len:Int)<2)=true->decide (len<2∨cl=true/\len<3)=true/\True)/\(decide ((↑len:Int)<2)=false->(cl=true->decide ((↑len:Int)<3)=decide (len<2∨cl=true/\len<3)/\True)/\(cl=false->decide (len<2∨
 cl=true/\len<3)=false/\True))):=by subst e9;kernel_rfl
theorem c3V:q7 Tryz.prog 26 (p9 a8S):=by
 refine j8 g0 Tryz.func26 rfl (by kernel_rfl) λargs=>?_
 unfold a8S;split
 ·rename_i n len v;intro o0;try dsimp only
  split
  ·rename_i m0 g hm0;try dsimp only
   split
   ·rename_i cl hcl;intro ho;replace ho:True:=ho;refine⟨?_,_,_,(b5Q len cl m0 g rfl).mpr ?_⟩
    ·refine g9 rfl ⟨?_,⟨trivial,(o5 hm0).1,trivial⟩⟩;simp[j9,o8,o9,p7,nth,a8,C7 hcl]
    ·simp;refine⟨λh=>.inl (by omega),λh=>⟨λhc=>?_,λhc=>⟨by omega,λh=>by simp[hc]at h⟩⟩⟩;subst hc;rw[Bool.true_and];by_cases h3:len<3 <;> simp[h3] <;> omega
   ·trivial
  ·trivial
 ·trivial
def pq4(a b c d:Int)(j:Nat):Int:=[a,b,c,d].getD j 0
noncomputable def GTO:Ctx:=⟨⟨tys,[]⟩,[(34,p9 b1y)]⟩
theorem gTO:v8 Tryz.prog GTO:=⟨⟨z6,FlatsOk.nil⟩,g8.cons c6U g8.nil,by kernel_rfl⟩
noncomputable def a9E:List SV->RdM
 | [.agg [.int .i64 a, .int .i64 b, .int .i64 c, .int .i64 d]]=>.ret ⟨[.agg [.int .i64 a, .int .i64 b, .int .i64 c, .int .i64 d]],[], .agg [.int .i64 1, .slcc 0 2, .nils],[],[(0,⟨true,23, .ints .i64 4 (pq4 a b c d),2⟩)],some (True)⟩
 | _=>.fail
theorem b5w(a b c d:Int){w9:HC}(e9:w9=⟨[.agg [.int .i64 a, .int .i64 b, .int .i64 c, .int .i64 d]],[], .agg [.int .i64 1, .slcc 0 2, .nils],[],[(0,⟨true,23, .ints .i64 4 (pq4 a b c d),2⟩)],some (True)⟩):z7 GTO 0 [] [] (j3 Tryz.f25) (q9 Tryz.f25.ntmps w9.args w9.heap 0) (r6 GTO.E.T Tryz.f25.results.toList λS v=>w0 0 w9 S v)=(
 (((0:Int)<=0/\(0:Int)<2)/\True)/\(((0:Int)<=1/\(1:Int)<2)/\True)/\(List.length [a,b,c,d]=4/\2<=1000000)/\((1:Int)=1/\(True/\2=2)/\True/\True)/\True/\(23=23/\2=2/\4<=4/\∀(i:Nat),i<4->List.getD [a,
 b,c,d] i (0:Int)=pq4 a b c d i)/\True):=by subst e9;kernel_rfl
theorem c3T:q7 Tryz.prog 25 (p9 a9E):=by
 refine j8 gTO Tryz.func25 rfl (by kernel_rfl) λargs=>?_
 unfold a9E;split
 ·rename_i a b c d;intro ho;replace ho:True:=ho;refine⟨?_,_,_,(b5w a b c d rfl).mpr ?_⟩
  ·refine g9 rfl ⟨?_,trivial⟩;simp[j9,o8,p8]
  ·simp[pq4]
 ·trivial
noncomputable def a8B:List SV->RdM
 | [.slcc n len]=>.read n λo0=>(match o7 .i64 o0.c with
  | some (m0,g)=>.ret ⟨[.slcc 0 len],[(0,⟨false,28, .ints .i64 m0 g,0⟩)], .agg [.int .i64 2, .slcc 1 len, .nils],[],[(1,⟨true,23, .ints .i64 (2*len) g,2⟩)],some (m0=2*len/\len<=1000000)⟩
  | none=>.fail)
 | _=>.fail
theorem b5u(len:Nat)(g:Nat->Int){w9:HC}(e9:w9=⟨[.slcc 0 len],[(0,⟨false,28, .ints .i64 (2*len) g,0⟩)], .agg [.int .i64 2, .slcc 1 len, .nils],[],[(1,⟨true,23, .ints .i64 (2*len) g,2⟩)],some (2*len=2*len/\len<=1000000)⟩):z7 GTO 1 [] [] (j3 Tryz.f28) (q9 Tryz.f28.ntmps w9.args w9.heap 1) (r6 GTO.E.T Tryz.f28.results.toList λS v=>w0 1 w9 S v)=(
 (2*len=2*len/\len<=1000000)/\((2:Int)=2/\(True/\len=len)/\True/\True)/\True/\(23=23/\2=2/\2*len<=2*len/\∀(i:Nat),i<2*len->g i=g i)/\True):=by subst e9;kernel_rfl
theorem c4h:q7 Tryz.prog 28 (p9 a8B):=by
 refine j8 gTO Tryz.func28 rfl (by kernel_rfl) λargs=>?_
 unfold a8B;split
 ·rename_i n len;intro o0;try dsimp only
  split
  ·rename_i m0 g hm0;intro ho;replace ho:m0=2*len/\len<=1000000:=ho;obtain⟨hsz0,ho⟩:=ho;subst hsz0;refine⟨?_,_,_,(b5u len g rfl).mpr ?_⟩
   ·refine g9 rfl ⟨?_,⟨trivial,(o5 hm0).1,trivial⟩⟩;simp[j9,o8,o9,p7,nth,a8]
   ·simp[ho]
  ·trivial
 ·trivial
theorem c4E{g:Nat->Int}{m:Nat}(h:∀ j,j<m->j7 (g j)):Whl (fI g) g m:=λj hj=>⟨fi (h j hj),by have:=h j hj;unfold j7 at this;omega⟩
theorem b2k{len:Nat}{cl:Bool}(h:j4 len cl=true):2<=len:=(of_decide_eq_true h).1
theorem b4b{z:Nat->Int}{k:Nat}:∀ {i:Nat},0<i->loZ z k i=mn z k i
 | 0,h=>by omega
 | 1,_=>by simp[loZ,mn,a7f]
 | i+2,_=>by
  show (if i+1=0∨z (2*(i+1)+k)<loZ z k (i+1)then z (2*(i+1)+k)else loZ z k (i+1))=a7f (mn z k (i+1)) (z (2*(i+1)+k));rw[b4b (i:=i+1) (by omega)];unfold a7f;by_cases h:z (2*(i+1)+k)<mn z k (i+1)
  ·rw[if_pos (.inr h),if_pos h]
  ·rw[if_neg (by omega),if_neg h]
theorem b8v{z:Nat->Int}{k i:Nat}(h:0<i):loZ z k i<=hiZ z k i:=Int.le_trans (Y5 (j:=0) h) (a0h h)
theorem b3q{z:Nat->Int}{k:Nat}:∀ {i:Nat},0<i->hiZ z k i=mx z k i
 | 0,h=>by omega
 | 1,_=>by simp[hiZ,mx,a7h]
 | i+2,_=>by
  have hl:=b8v (z:=z) (k:=k) (i:=i+1) (by omega);show (if i+1=0 then z (2*(i+1)+k)else if z (2*(i+1)+k)<loZ z k (i+1)then hiZ z k (i+1)else if hiZ z k (i+1)<z (2*(i+1)+k)then z (2*(i+1)+k)else hiZ z k (i+1))=a7h (mx z k (i+1)) (z (2*(i+1)+k));rw[<-b3q (i:=i+1) (by omega),if_neg (by omega)];unfold a7h;by_cases h:hiZ z k (i+1)<z (2*(i+1)+k)
  ·rw[if_neg (by omega),if_pos h]
  ·rw[if_neg h];split <;> rfl
def W1(x:Nat):Prop:=FI x (wh x)/\j7 (wh x)
def SmF(g:Nat->Nat)(m:Nat):Prop:=∀ j,j<m->W1 (g j)
noncomputable def wz(g:Nat->Nat)(j:Nat):Int:=wh (g j)
theorem W1.abs{x:Nat}(h:W1 x):(wh x).natAbs<=2 ^ 22:=by have:=h.2;unfold j7 at this;omega
theorem c7l{a b c d x y:Nat}(ha:W1 a)(hb:W1 b)(hc:W1 c)(hd:W1 d)(hx:W1 x)(hy:W1 y):PW a b c d x y :=
 ⟨ha.1,hb.1,hc.1,hd.1,hx.1,hy.1,ha.abs,hb.abs,hc.abs,hd.abs,hx.abs,hy.abs⟩
theorem c4C{a b c d x y z w:Nat}(ha:W1 a)(hb:W1 b)(hc:W1 c)(hd:W1 d)(hx:W1 x)(hy:W1 y)(hz:W1 z)(hw:W1 w):P8 a b c d x y z w (wh a) (wh b) (wh c) (wh d) (wh x) (wh y) (wh z) (wh w) :=
 ⟨ha.1,hb.1,hc.1,hd.1,hx.1,hy.1,hz.1,hw.1,⟨ha.2,hb.2,hc.2,hd.2⟩,hx.2,hy.2,hz.2,hw.2⟩
theorem H5{n:Int}(h:j7 n):W1 (ofI .f64 n)/\wh (ofI .f64 n)=n:=by
 have e:=a6s h;exact⟨⟨by rw[e];exact fi h,by rw[e];exact h⟩,e⟩
def a2K:Nat:=18442240474082181120
theorem b4S:Ieee.Format.read Ieee.double a2K=.infinity true:=by decide
theorem b1B{x:Nat}(hx:Fl.Fin x):FloatKind.f64.format.order x a2K=some .gt:=by
 obtain⟨s,m,i,h1,_⟩:=y5 hx;show (Ieee.Format.read Ieee.double x).order (Ieee.Format.read Ieee.double a2K)=_;rw[h1,b4S];rfl
theorem b6v{x:Nat}(hx:Fl.Fin x):fLt .f64 x a2K=false:=by unfold fLt;rw[b1B hx];rfl
theorem b6U{x:Nat}(hx:Fl.Fin x):fGt .f64 x Y6=false:=by unfold fGt;rw[a7w hx];rfl
def b7f:PF:=fun
 | [.int .i64 s]=>some (.flt .f64 (if s<0 then a2K else Y6),none)
 | _=>none
theorem c0j(R:SV->Prop)(s:Int):z7 GM 0 [] [] (j3 Tryz.f100) (q9 Tryz.f100.ntmps [.int .i64 s] [] 0) (r6 GM.E.T Tryz.f100.results.toList λ_ v=>R v)=(
(decide ((0:Int)<=s)=true->R (SV.flt .f64 9218868437227405312))/\(decide ((0:Int)<=s)=false->R (SV.flt .f64 18442240474082181120))):=by kernel_rfl
theorem d0m:y7 Tryz.prog 100 b7f:=by
 refine v7 gM Tryz.func100 rfl (by kernel_rfl) ?_;intro args v p h hp;unfold b7f at h;split at h
 ·rename_i s;injection h with h;injection h with h1 h2;subst h1;subst h2
  clear hp;refine⟨rfl,_,_,(c0j _ s).mpr ?_⟩;refine⟨λh=>?_,λh=>?_⟩
  ·have h:=of_decide_eq_true h;rw[if_neg (by omega)];rfl
  ·have h:=of_decide_eq_false h;rw[if_pos (by omega)];rfl
 ·cases h
def bxB:a9->Option Bool
 | .cells [v]=>v.toB
 | _=>none
def G4(b:Bool):a9:=.cells [.bool b]
theorem I7{σ:Sig}{c:a9}{b:Bool}(h:bxB c=some b):H6 σ c (G4 b):=by
 unfold bxB at h;split at h
 ·show j9 σ _ _;simp[j9,C7 h]
 ·cases h
def bxI:a9->Option Int
 | .cells [.int .i64 n]=>some n
 | _=>none
def V0(n:Int):a9:=.cells [.int .i64 n]
theorem a1c{σ:Sig}{c:a9}{n:Int}(h:bxI c=some n):H6 σ c (V0 n):=by
 unfold bxI at h;split at h
 ·simp only[Option.some.injEq]at h;subst h;show j9 σ _ _;simp[j9,o8,p8]
 ·cases h
def bxP:a9->Option (Nat×Nat)
 | .cells [.flt .f64 x, .flt .f64 y]=>some (x,y)
 | _=>none
def b5f(x y:Nat):a9:=.cells [.flt .f64 x, .flt .f64 y]
theorem b1f{σ:Sig}{c:a9}{x y:Nat}(h:bxP c=some (x,y)):H6 σ c (b5f x y):=by
 unfold bxP at h;split at h
 ·simp only[Option.some.injEq,Prod.mk.injEq]at h;obtain⟨rfl,rfl⟩:=h;show j9 σ _ _;simp[j9,o8,r8]
 ·cases h
def bx4:a9->Option (Nat×Nat×Nat×Nat)
 | .cells [.flt .f64 x, .flt .f64 y, .flt .f64 z, .flt .f64 w]=>some (x,y,z,w)
 | _=>none
def b5y(x y z w:Nat):a9:=.cells [.flt .f64 x, .flt .f64 y, .flt .f64 z, .flt .f64 w]
theorem b0C{σ:Sig}{c:a9}{x y z w:Nat}(h:bx4 c=some (x,y,z,w)):H6 σ c (b5y x y z w):=by
 unfold bx4 at h;split at h
 ·simp only[Option.some.injEq,Prod.mk.injEq]at h;obtain⟨rfl,rfl,rfl,rfl⟩:=h;show j9 σ _ _;simp[j9,o8,r8]
 ·cases h
def nsg(cl:Bool)(n:Nat)(z:Nat->Int):Nat:=if cl=true then(if n<3 then 0 else if z (2*(n-1))=z 0/\z (2*(n-1)+1)=z 1 then n-1 else n)else n-1
def FP:Flats:=[(100,[true,true])]
theorem a5X:FlatsOk Tryz.prog FP:=FlatsOk.cons b1O FlatsOk.nil
def GPF:Ctx:=⟨⟨tys,FP⟩,[]⟩
theorem gPF:v8 Tryz.prog GPF:=⟨⟨z6,a5X⟩,g8.nil,by kernel_rfl⟩
noncomputable def b4C:List SV->RdM
 | [.ptr s 0, .int .i64 i]=>.read s λo0=>(match a3r o0.c with
  | some (cl,cw,cv,k,x,y,z,w,p,n)=>.read p λo1=>(match r7 .f64 o1.c with
  | some (m1,g)=>.ret ⟨[.ptr 0 0, .int .i64 i],[(0,⟨false,150,a0G cl cw cv k x y z w 1 n,0⟩),(1,⟨false,100, .flts .f64 m1 g,0⟩)], .agg [.flt .f64 (g (2*i.toNat)), .flt .f64 (g (2*i.toNat+1)), .flt .f64 (g (2*nx n i.toNat)), .flt .f64 (g (2*nx n i.toNat+1))],[],[],some (m1=2*n/\0<=i/\i<n/\n<=1000000)⟩
  | none=>.fail)
  | none=>.fail)
 | _=>.fail
theorem c0L(cl cw cv:Bool)(k:Int)(x y z w:Nat)(_:Nm)(n:Nat)(i:Int)(g:Nat->Nat){w9:HC}(e9:w9=⟨[.ptr 0 0, .int .i64 i],[(0,⟨false,150,a0G cl cw cv k x y z w 1 n,0⟩),(1,⟨false,100, .flts .f64 (2*n) g,0⟩)], .agg [.flt .f64 (g (2*i.toNat)), .flt .f64 (g (2*i.toNat+1)), .flt .f64 (g (2*nx n i.toNat)), .flt .f64
 (g (2*nx n i.toNat+1))],[],[],some (2*n=2*n/\0<=i/\i<n/\n<=1000000)⟩){T1}(t1:T1=(IntKind.wrap .i64 (i+(1:Int)))){T2}(t2:T2=(i==IntKind.wrap .i64 ((↑n:Int)-1))):z7 GPF 2 [] [] (j3 Tryz.f112) (q9 Tryz.f112.ntmps w9.args w9.heap 2) (r6 GPF.E.T Tryz.f112.results.toList λS v=>w0 2 w9 S v)=(
 (((0:Int)<=i/\i<(↑n:Int))/\1<=2*n)/\0+Int.toNat i*2+2<=2*n/\(T2=true->(((0:Int)<=0/\0<(↑n:Int))/\1<=2*n)/\2<=2*n/\(g (0+Int.toNat i*2)=g (2*Int.toNat i)/\g (0+Int.toNat i*2+1)=g (2 *
 Int.toNat i+1)/\g 0=g (2*nx n (Int.toNat i))/\g 1=g (2*nx n (Int.toNat i)+1)/\True)/\True)/\(T2=false->(((0:Int)<=IntKind.wrap .i64 (i+(1:Int))/\IntKind.wrap .i64 (i+(1:Int))<(↑n:Int))/\1<=2*n)/\0+Int.toNat
 T1*2+2<=2*n/\(g (0+Int.toNat i*2)=g (2*Int.toNat i)/\g (0+Int.toNat i*2+1)=g (2*Int.toNat i+1)/\g (0+Int.toNat T1*2)=g (2*nx n (Int.toNat i))/\g (0+Int.toNat T1*2+1)=g (2*nx n (Int.toNat i)+1)/\
 True)/\True)):=by subst e9 t1 t2;kernel_rfl
theorem c7H:q7 Tryz.prog 112 (p9 b4C):=by
 refine j8 gPF Tryz.func112 rfl (by kernel_rfl) λargs=>?_
 unfold b4C;split
 ·rename_i s i;intro o0;try dsimp only
  split
  ·rename_i cl cw cv k x y z w p n hm0;intro o1;try dsimp only
   split
   ·rename_i m1 g hm1;intro ho;replace ho:m1=2*n/\0<=i/\i<n/\n<=1000000:=ho;obtain⟨hsz1,ho⟩:=ho;subst hsz1;refine⟨?_,_,_,(c0L cl cw cv k x y z w p n i g rfl rfl rfl).mpr ?_⟩
    ·refine g9 rfl ⟨?_,⟨trivial,O6 hm0 a8,⟨trivial,(r9 hm1).1,trivial⟩⟩⟩;simp[j9,o8,p8,o9,p7,nth,a8]
    ·obtain⟨h0,h1,hn⟩:=ho;have hw:IntKind.i64.wrap ((n:Int)-1)=n-1:=j5 (by omega) (by omega);have hw1:IntKind.i64.wrap (i+1)=i+1:=j5 (by omega) (by omega);have e:0+i.toNat*2=2*i.toNat:=by omega
     rw[hw,hw1,e];refine⟨by omega,by omega,λh=>?_,λh=>?_⟩
     ·have h:i=n-1:=by simpa using h
      have e2:nx n i.toNat=0:=by unfold nx;rw[if_pos (by omega)]
      rw[e2];refine⟨by omega,by omega,?_⟩;simp
     ·have h:¬i=n-1:=by simpa using h
      have e2:nx n i.toNat=i.toNat+1:=by unfold nx;rw[if_neg (by omega)]
      have e3:0+(i+1).toNat*2=2*(i.toNat+1):=by omega
      rw[e2,e3];refine⟨by omega,by omega,?_⟩;simp
   ·trivial
  ·trivial
 ·trivial
def c6H(r:Q4):Prop:=Fl.Fin r.x0/\Fl.Fin r.y0/\Fl.Fin r.x1/\Fl.Fin r.y1
def inQ(Q r:Q4):Prop:=V Q.x0<=V r.x0/\V Q.y0<=V r.y0/\V r.x1<=V Q.x1/\V r.y1<=V Q.y1
def FUB(d x:Nat):Prop:=∃ n:Int,FU x n (1058+d)/\n.natAbs*2 ^ d<=2 ^ 38
def QB(d:Nat)(Q:Q4):Prop:=FUB d Q.x0/\FUB d Q.y0/\FUB d Q.x1/\FUB d Q.y1
theorem FUB.down{d x:Nat}(h:FUB (d+1) x):FUB d x:=by
 obtain⟨n,h1,h2⟩:=h;refine⟨n*2,?_,?_⟩
 ·have:=h1.up (u:=1058+d) (k:=1) (by omega)
  rwa [Int.pow_succ,Int.pow_zero,Int.one_mul]at this
 ·rw[Int.natAbs_mul,Nat.mul_assoc,show (2:Int).natAbs*2 ^ d=2 ^ (d+1) by rw[Nat.pow_succ,Nat.mul_comm];rfl];exact h2
theorem c8Z{a b p:Nat}(hp:0<p)(ha:a*(p*2)<=2 ^ 38)(hb:b*(p*2)<=2 ^ 38):(a+b)*p<=2 ^ 38/\a+b<2 ^ 53:=by
 have h1:(a+b)*p<=2 ^ 38:=by
  rw[Nat.add_mul];rw[<-Nat.mul_assoc]at ha hb;omega
 have h2:a+b<=(a+b)*p:=Nat.le_mul_of_pos_right _ hp;exact⟨h1,by omega⟩
theorem FUB.mid{d x y:Nat}(hd:d<=15)(hx:FUB (d+1) x)(hy:FUB (d+1) y):midOk x y/\FUB d (mid x y):=by
 obtain⟨a,a1,a2⟩:=hx;obtain⟨b,b1,b2⟩:=hy;have hab:=Int.natAbs_add_le a b;rw[Nat.pow_succ]at a2 b2;obtain⟨h1,h2⟩:=c8Z (Nat.two_pow_pos d) a2 b2;obtain⟨h3,h4⟩:=c5H (u:=1058+d) (by omega) (by omega) a1 b1 (by omega);exact⟨h3,_,h4,Nat.le_trans (Nat.mul_le_mul_right _ hab) h1⟩
theorem FUB.fin{d x:Nat}(h:FUB d x):Fl.Fin x:=h.choose_spec.1.1
theorem FI.fub{x:Nat}{n:Int}(h:FI x n)(hn:n.natAbs<=4194304):FUB 16 x:=⟨n,⟨h.1,h.2⟩,by
 have:(2:Nat) ^ 38=4194304*2 ^ 16:=by decide
 rw[this]
 exact Nat.mul_le_mul_right _ hn⟩
theorem QB.midOk{d:Nat}{Q:Q4}(hd:d<=15)(h:QB (d+1) Q):midOk Q.x0 Q.x1/\midOk Q.y0 Q.y1:=⟨(h.1.mid hd h.2.2.1).1,(h.2.1.mid hd h.2.2.2).1⟩
theorem QB.sub{d:Nat}{Q:Q4}(hd:d<=15)(h:QB (d+1) Q)(k:Int):QB d (qbV Q k):=by
 obtain⟨h1,h2,h3,h4⟩:=h;have m1:=(h1.mid hd h3).2;have m2:=(h2.mid hd h4).2;refine⟨?_,?_,?_,?_⟩ <;> simp only[qbV,qb0,qb1,qb2,qb3] <;> split
 all_goals first|exact h1.down|exact h2.down|exact h3.down|exact h4.down|exact m1|exact m2
theorem b4e{d:Nat}{Q r:Q4}(hd:d<=15)(h:QB (d+1) Q)(hr:c6H r)(hi:inQ Q r):cqV Q r = -1∨((0<=cqV Q r/\cqV Q r<4)/\inQ (qbV Q (cqV Q r)) r):=by
 obtain⟨h1,h2,h3,h4⟩:=h;have m1:=(h1.mid hd h3).2.fin;have m2:=(h2.mid hd h4).2.fin;obtain⟨r1,r2,r3,r4⟩:=hr;obtain⟨i1,i2,i3,i4⟩:=hi;unfold cqV;simp only[b1k r1 m1,b1k r3 m1,b1k r2 m2,b1k r4 m2,decide_eq_true_eq]
 repeat' split
 all_goals first|exact .inl rfl|refine .inr ⟨⟨by decide,by decide⟩,?_⟩
 all_goals simp[inQ,qbV,qb0,qb1,qb2,qb3]
 all_goals omega
structure isU (q:RM) (v:Value) (E:List Nat):Prop where
 sl:isSlN v
 n:slL v=E.length
 le:slL v<=slK v
 D:0<slK v->q.D (slB v)/\slC v+slK v<=q.S (slB v)
 c:∀(j x:Nat),E[j]? = some x->q.F (slB v) (slC v+j)=.int .u32 (x:Nat)
def fpU(v:Value):List Nat:=if 0<slK v then [slB v]else []
structure QK where
 b:Nat
 fp:List Nat
 its:List Nat
def a6Z:Option QK->Value
 | none=>.pointer none
 | some k=>.pointer (some ⟨k.b,0,none⟩)
def kfp:Option QK->List Nat
 | none=>[]
 | some k=>k.fp
def M1:Option QK->List Nat
 | none=>[]
 | some k=>k.its
structure qnA (q:RM) (b:Nat) (sp:Bool) (v:Value) (E:List Nat) (ks:List (Option QK)):Prop where
 D:q.D b
 S:q.S b=6
 s0:q.F b 0=.bool sp
 s1:q.F b 1=v
 u:isU q v E
 kl:ks.length=4
 k:∀(j:Nat)(o:Option QK),ks[j]? = some o->q.F b (2+j)=a6Z o
def nok:List (Option QK):=[none,none,none,none]
def a1u(R:Nat->Q4)(m:Nat)(Q:Q4)(x:Nat):Prop:=x<m/\c6H (R x)/\inQ Q (R x)
def kne(ks:List (Option QK)):Prop:=∀(j:Nat)(x:QK),ks[j]? = some (some x)->1<=x.its.length
def b1t(c:Nat)(ks:List (Option QK)):Prop:=∀(j:Nat)(x:QK),j≠c->ks[j]? = some (some x)->1<=x.its.length
def isQT(q:RM)(R:Nat->Q4)(m:Nat):Nat->Q4->QK->Prop
 | 0,Q,k=>∃ v E,qnA q k.b false v E nok/\k.fp=k.b :: fpU v/\k.its=E/\∀ x∈E,a1u R m Q x
 | d+1,Q,k=>∃ sp v E ks,qnA q k.b sp v E ks/\(sp=false->ks=nok/\E.length<=32)/\k.fp=k.b :: (fpU v++ks.flatMap kfp)/\k.its=E++ks.flatMap M1/\(∀ x∈E,a1u R m Q x)/\
   (∀(j:Nat)(x:QK),ks[j]? = some (some x)->isQT q R m d (qbV Q (j:Int)) x)/\kne ks
def rcF(g:Nat->Nat)(n i:Nat):Q4:=⟨C0 (g (2*i)) (g (2*nx n i)),C0 (g (2*i+1)) (g (2*nx n i+1)),B8 (g (2*i)) (g (2*nx n i)),B8 (g (2*i+1)) (g (2*nx n i+1))⟩
structure qiA (q:RM) (g:Nat->Nat) (n b:Nat) (Q:Q4) (d:Nat) (k:QK):Prop where
 t:isQT q (rcF g n) n d Q k
 b:k.b=b
 nd:k.fp.Nodup
 le:k.its.length<=1000
def a0Y(q:RM)(b:Nat):Nat:=if W9 (q.F b 0)=true then 0 else 1
def frQ(W:Nat->Prop)(q q':RM):Prop:=∀ x,q.D x->q'.D x/\(¬W x->q'.S x=q.S x/\∀ c,q'.F x c=q.F x c)
theorem frQ.refl(W:Nat->Prop)(q:RM):frQ W q q:=λ_ h=>⟨h,λ_=>⟨rfl,λ_=>rfl⟩⟩
theorem frQ.trans{W W' W'':Nat->Prop}{q q' q'':RM}(h:frQ W q q')(h':frQ W' q' q'')(h1:∀ x,q.D x->W x->W'' x)(h2:∀ x,q.D x->W' x->W'' x):frQ W'' q q'':=λx hx=>by
 obtain⟨a1,a2⟩:=h x hx;obtain⟨b1,b2⟩:=h' x a1;refine⟨b1,λhn=>?_⟩;obtain⟨c1,c2⟩:=a2 λhw=>hn (h1 x hx hw)
 obtain⟨d1,d2⟩:=b2 λhw=>hn (h2 x hx hw)
 exact⟨d1.trans c1,λc=>(d2 c).trans (c2 c)⟩
theorem frQ.mono{W W':Nat->Prop}{q q':RM}(h:frQ W q q')(h1:∀ x,q.D x->W x->W' x):frQ W' q q':=λx hx=>⟨(h x hx).1,λhn=>(h x hx).2 λhw=>hn (h1 x hx hw)⟩
theorem a9N{v:Value}{x:Nat}(h:x∈fpU v):0<slK v/\x=slB v:=by
 unfold fpU at h;split at h
 ·rename_i hk;simp at h;exact⟨hk,h⟩
 ·simp at h
theorem a6b{v:Value}(h:0<slK v):slB v∈fpU v:=by unfold fpU;rw[if_pos h];simp
theorem b6J(v:Value):(fpU v).Nodup:=by unfold fpU;split <;> simp
theorem isU.D'{q:RM}{v:Value}{E:List Nat}(h:isU q v E):∀ x∈fpU v,q.D x:=λx hx=>by
 obtain⟨h1,rfl⟩:=a9N hx;exact(h.D h1).1
theorem isU.pos{q:RM}{v:Value}{E:List Nat}(h:isU q v E){j x:Nat}(hj:E[j]? = some x):0<slK v:=by
 have:=(List.getElem?_eq_some_iff.1 hj).1;have h1:=h.n;have h2:=h.le;omega
theorem isU.same{q q':RM}{v:Value}{E:List Nat}(h:isU q v E)(hs:∀ x∈fpU v,q'.D x/\q'.S x=q.S x/\∀ c,q'.F x c=q.F x c):isU q' v E where
 sl:=h.sl
 n:=h.n
 le:=h.le
 D:=λh0=>by
  obtain⟨h1,h2,h3⟩:=hs _ (a6b h0);exact⟨h1,by rw[h2];exact(h.D h0).2⟩
 c:=λj x hj=>by rw[(hs _ (a6b (h.pos hj))).2.2];exact h.c j x hj
theorem isU.nil(q:RM):isU q (.slice none 0 0) [] where
 sl:=.inl rfl
 n:=rfl
 le:=Nat.le_refl _
 D:=λh=>absurd h (by decide)
 c:=λj x hj=>by simp at hj
theorem isU.uniq{q:RM}{v:Value}{E E':List Nat}(h:isU q v E)(h':isU q v E'):E=E':=by
 refine List.ext_getElem? λj=>?_
 by_cases hj:j<E.length
 ·have e1:=List.getElem?_eq_getElem hj;have hj':j<E'.length:=by rw[<-h'.n,h.n];exact hj
  have e2:=List.getElem?_eq_getElem hj';have h1:=h.c _ _ e1;have h2:=h'.c _ _ e2;rw[h1]at h2;simp only[Value.int.injEq,true_and,Int.natCast_inj]at h2;rw[e1,e2,h2]
 ·have hj':¬j<E'.length:=by rw[<-h'.n,h.n];exact hj
  rw[List.getElem?_eq_none (by omega),List.getElem?_eq_none (by omega)]
theorem isU.appO{q:RM}{v:Value}{E:List Nat}(h:isU q v E)(hl:E.length<=1000):isSlN v/\Go.Sx.appO q.D q.S 1 4 (slB v) (slC v) (slL v) (slK v) 1:=by
 have h1:=h.n;have h2:=h.le;refine⟨h.sl,λhk=>?_,λhk=>?_,by omega,by simp only[maxLen];omega⟩
 ·obtain⟨d1,d2⟩:=h.D (by omega);exact⟨d1,by omega⟩
 ·obtain⟨d1,d2⟩:=h.D (by omega);exact⟨d1,by omega⟩
theorem isU.app{q:RM}{v:Value}{E:List Nat}(h:isU q v E){x:Nat}{i:ApI}(hp:L9 q.D q.S q.F 1 (slB v) (slC v) (slL v) (slK v) 1 [.int .u32 (x:Nat)] i) :
  isU ⟨i.D,i.S,i.F⟩ (.slice (some ⟨i.b,i.c,none⟩) (slL v+1) i.k) (E++[x])/\(∀ y∈fpU (.slice (some ⟨i.b,i.c,none⟩) (slL v+1) i.k),y∈fpU v∨¬q.D y)/\frQ (·∈fpU v) q ⟨i.D,i.S,i.F⟩:=by
 have hn:=h.n
 have get:∀ j y,(E++[x])[j]? = some y->(j<E.length/\E[j]? = some y)∨(j=E.length/\y=x):=λj y hj=>by
  by_cases hc:j<E.length
  ·rw[List.getElem?_append_left hc]at hj;exact .inl ⟨hc,hj⟩
  ·have hjl:j=E.length:=by
    have:=(List.getElem?_eq_some_iff.1 hj).1;simp at this;omega
   subst hjl;simp at hj;exact .inr ⟨rfl,hj.symm⟩
 rcases hp with⟨h1,h2,h3,h4,h5,h6,h7⟩|⟨h1,h2,h3,h4,h5,h6,h7,z,h8⟩
 ·have hk:0<slK v:=by omega
  rw[h2,h3,h4,h5,h6,h7];refine⟨⟨.inr rfl,by simp[slL];exact hn,by simp only[slL,slK];exact h1,λ_=>h.D hk,λj y hj=>?_⟩,λy hy=>.inl ?_,λy hy=>⟨hy,λhw=>⟨rfl,λc=>?_⟩⟩⟩
  ·show a3p _ _ _ _ (slB v) (slC v+j)=_;rcases get j y hj with⟨g1,g2⟩|⟨rfl,rfl⟩
   ·rw[a0c (by omega)];exact h.c j y g2
   ·rw[a2L,if_pos ⟨rfl,by omega,by simp only[List.length_cons,List.length_nil];omega⟩];rw[show slC v+E.length-(slC v+slL v*1)=0 by omega];rfl
  ·obtain⟨_,rfl⟩:=a9N hy;exact a6b hk
  ·show a3p _ _ _ _ y c=_;exact a0c (.inl λe=>hw (by rw[e];exact a6b hk))
 ·rw[h3,h6,h7,h8];refine⟨⟨.inr rfl,by simp[slL];exact hn,by simp only[slL,slK];exact h4,λ_=>⟨.inl rfl,?_⟩,λj y hj=>?_⟩,λy hy=>.inr ?_,λy hy=>⟨.inr hy,λhw=>?_⟩⟩
  ·simp[A8,slB,slC,slK]
  ·show A3 _ _ _ i.b (0+j)=_;simp only[A3,if_true,a4I];rcases get j y hj with⟨g1,g2⟩|⟨rfl,rfl⟩
   ·rw[if_pos (by omega),Nat.zero_add];exact h.c j y g2
   ·rw[if_neg (by omega),if_pos (by simp only[List.length_cons,List.length_nil];omega),show 0+E.length-slL v*1=0 by omega];rfl
  ·obtain⟨_,rfl⟩:=a9N hy;exact h2
  ·have hne:y≠i.b:=λe=>h2 (e▸hy)
   exact⟨by simp only[A8];rw[if_neg hne],λc=>by simp only[A3];rw[if_neg hne]⟩
theorem isQT.fp0{q:RM}{R:Nat->Q4}{m:Nat}:∀ {d:Nat} {Q:Q4} {k:QK},isQT q R m d Q k->k.b∈k.fp
 | 0,Q,k,⟨v,E,_,h,_⟩=>by rw[h];simp
 | d+1,Q,k,⟨sp,v,E,ks,_,_,h,_⟩=>by rw[h];simp
theorem b3z{ks:List (Option QK)}{y:Nat}(h:y∈ks.flatMap kfp):∃(j:Nat)(x:QK),ks[j]? = some (some x)/\y∈x.fp:=by
 obtain⟨o,ho,hy⟩:=List.mem_flatMap.1 h;obtain⟨j,hj,e⟩:=List.getElem_of_mem ho
 cases o with
 | none=>simp[kfp]at hy
 | some x=>exact⟨j,x,by rw[List.getElem?_eq_getElem hj,e],hy⟩
theorem G5{ks:List (Option QK)}{j:Nat}{x:QK}{y:Nat}(h:ks[j]? = some (some x))(hy:y∈x.fp):y∈ks.flatMap kfp :=
 List.mem_flatMap.2 ⟨some x,List.mem_of_getElem? h,hy⟩
theorem isQT.D{q:RM}{R:Nat->Q4}{m:Nat}:∀ {d:Nat} {Q:Q4} {k:QK},isQT q R m d Q k->∀ y∈k.fp,q.D y
 | 0,Q,k,⟨v,E,ha,h,_⟩,y,hy=>by
  rw[h]at hy;rcases List.mem_cons.1 hy with rfl|hy
  ·exact ha.D
  ·exact ha.u.D' y hy
 | d+1,Q,k,⟨sp,v,E,ks,ha,_,h,_,_,hk,_⟩,y,hy=>by
  rw[h]at hy;rcases List.mem_cons.1 hy with rfl|hy
  ·exact ha.D
  rcases List.mem_append.1 hy with hy|hy
  ·exact ha.u.D' y hy
  ·obtain⟨j,x,hj,hy⟩:=b3z hy;exact(hk j x hj).D y hy
theorem qnA.same{q q':RM}{b:Nat}{sp:Bool}{v:Value}{E:List Nat}{ks:List (Option QK)}(h:qnA q b sp v E ks)(hb:q'.D b/\q'.S b=q.S b/\∀ c,q'.F b c=q.F b c)
  (hs:∀ x∈fpU v,q'.D x/\q'.S x=q.S x/\∀ c,q'.F x c=q.F x c):qnA q' b sp v E ks where
 D:=hb.1
 S:=hb.2.1.trans h.S
 s0:=(hb.2.2 _).trans h.s0
 s1:=(hb.2.2 _).trans h.s1
 u:=h.u.same hs
 kl:=h.kl
 k:=λj o ho=>(hb.2.2 _).trans (h.k j o ho)
theorem isQT.same{q q':RM}{R:Nat->Q4}{m:Nat}:∀ {d:Nat} {Q:Q4} {k:QK},isQT q R m d Q k->(∀ y∈k.fp,q'.D y/\q'.S y=q.S y/\∀ c,q'.F y c=q.F y c)->isQT q' R m d Q k
 | 0,Q,k,⟨v,E,ha,h,h1,h2⟩,hs=>⟨v,E,ha.same (hs _ (by rw[h];simp)) λx hx=>hs x (by rw[h];exact List.mem_cons_of_mem _ hx),h,h1,h2⟩
 | d+1,Q,k,⟨sp,v,E,ks,ha,h0,h,h1,h2,hk,hn⟩,hs=>⟨sp,v,E,ks,ha.same (hs _ (by rw[h];simp)) λx hx=>hs x (by rw[h];exact List.mem_cons_of_mem _ (List.mem_append_left _ hx)),h0,h,h1,h2,
   λj x hj=>(hk j x hj).same λy hy=>hs y (by rw[h];exact List.mem_cons_of_mem _ (List.mem_append_right _ (G5 hj hy))),hn⟩
theorem b8P{o o':Option QK}(h:a6Z o=a6Z o'):(o=none/\o'=none)∨∃ x x',o=some x/\o'=some x'/\x.b=x'.b:=by
 cases o with
 | none=>cases o' with
  | none=>exact .inl ⟨rfl,rfl⟩
  | some x=>simp[a6Z]at h
 | some x=>cases o' with
  | none=>simp[a6Z]at h
  | some x' =>
   simp[a6Z]at h;exact .inr ⟨x,x',rfl,rfl,h⟩
theorem isQT.uniq{q:RM}{R:Nat->Q4}{m:Nat}:∀ {d:Nat} {Q:Q4} {k k':QK},isQT q R m d Q k->isQT q R m d Q k'->k.b=k'.b->k=k'
 | 0,Q,⟨b,fp,its⟩,⟨b',fp',its'⟩,⟨v,E,ha,h,h1,_⟩,⟨v',E',ha',h',h1',_⟩,e=>by
  dsimp only at *;subst e;have ev:v=v':=ha.s1.symm.trans ha'.s1;subst ev;have eE:=ha.u.uniq ha'.u;subst eE;rw[h,h',h1,h1']
 | d+1,Q,⟨b,fp,its⟩,⟨b',fp',its'⟩,⟨sp,v,E,ks,ha,_,h,h1,_,hk,_⟩,⟨sp',v',E',ks',ha',_,h',h1',_,hk',_⟩,e=>by
  dsimp only at *;subst e;have ev:v=v':=ha.s1.symm.trans ha'.s1;subst ev;have eE:=ha.u.uniq ha'.u;subst eE
  have ek:ks=ks':=by
   refine List.ext_getElem? λj=>?_
   by_cases hj:j<ks.length
   ·have hj':j<ks'.length:=by rw[ha'.kl,<-ha.kl];exact hj
    have e1:=List.getElem?_eq_getElem hj;have e2:=List.getElem?_eq_getElem hj';rw[e1,e2];generalize ks[j]=o at *;generalize ks'[j]=o' at *;rcases b8P ((ha.k j o e1).symm.trans (ha'.k j o' e2))with⟨rfl,rfl⟩|⟨x,x',rfl,rfl,hx⟩
    ·rfl
    ·rw[isQT.uniq (hk j x e1) (hk' j x' e2) hx]
   ·rw[List.getElem?_eq_none (by omega),List.getElem?_eq_none (by rw[ha'.kl,<-ha.kl];omega)]
  subst ek;rw[h,h',h1,h1']
structure qpN (q:RM) (R:Nat->Q4) (m d:Nat) (Q:Q4) (b:Nat) (sp:Bool) (v:Value) (E:List Nat) (ks:List (Option QK)) (xs:List Nat):Prop where
 a:qnA q b sp v E ks
 kid:∀(j:Nat)(x:QK),ks[j]? = some (some x)->isQT q R m d (qbV Q (j:Int)) x
 ok:∀ x∈E,a1u R m Q x
 nd:(b :: (fpU v++(ks.flatMap kfp++xs))).Nodup
 xD:∀ x∈xs,q.D x
def qiR(q:RM)(R:Nat->Q4)(m d:Nat)(Q:Q4)(i:Nat)(k:QK)(q':RM):Prop :=
 ∃ k',isQT q' R m d Q k'/\k'.b=k.b/\k'.fp.Nodup/\k'.its.Perm (i :: k.its)/\(∀ x∈k'.fp,x∈k.fp∨¬q.D x)/\frQ (·∈k.fp) q q'
theorem nd4{b:Nat}{A B C:List Nat}:(b :: (A++(B++C))).Nodup↔(b∉A/\b∉B/\b∉C)/\(A.Nodup/\B.Nodup/\C.Nodup)/\(∀ x∈A,x∉B)/\(∀ x∈A,x∉C)/\∀ x∈B,x∉C:=by
 simp only[List.nodup_cons,List.nodup_append,List.mem_append,ne_eq];grind
theorem a8r:nok.flatMap kfp=[]:=rfl
theorem a5s:nok.flatMap M1=[]:=rfl
theorem a4O{j:Nat}{o:Option QK}(h:nok[j]? = some o):o=none:=by
 match j,h with
 | 0,h=>simpa [nok]using h.symm
 | 1,h=>simpa [nok]using h.symm
 | 2,h=>simpa [nok]using h.symm
 | 3,h=>simpa [nok]using h.symm
 | j+4,h=>simp[nok]at h
theorem V8{α:Type}{l:List α}{j:Nat}{o:α}(h:l[j]? = some o):∃ A B,l=A++o :: B/\A.length=j/\∀ o',l.set j o'=A++o' :: B:=by
 obtain⟨hj,rfl⟩:=List.getElem?_eq_some_iff.1 h;refine⟨l.take j,l.drop (j+1),?_,by simp;omega,λo'=>?_⟩
 ·rw[<-List.drop_eq_getElem_cons hj,List.take_append_drop]
 ·exact List.set_eq_take_append_cons_drop.trans (by rw[if_pos hj])
section
variable {q:RM} {R:Nat->Q4} {m d b:Nat} {Q:Q4} {sp:Bool} {v w:Value} {E N xs:List Nat} {ks:List (Option QK)}
theorem kne.x(h:kne ks)(c:Nat):b1t c ks:=λj x _ hj=>h j x hj
theorem kne.nok:kne nok:=λj x hj=>absurd (a4O hj) (by simp)
theorem b1t.set{c:Nat}(h:b1t c ks){x:QK}(hx:1<=x.its.length):kne (ks.set c (some x)):=λj y hy=>by
 rw[List.getElem?_set]at hy;split at hy
 ·split at hy
  ·simp only[Option.some.injEq]at hy;subst hy;exact hx
  ·simp at hy
 ·exact h j y (Ne.symm ‹_›) hy
theorem kne.setX(h:kne ks){c:Nat}{o:Option QK}:b1t c (ks.set c o):=λj y hj hy=>by
 rw[List.getElem?_set_ne (Ne.symm hj)]at hy;exact h j y hy
theorem qpN.qt(h:qpN q R m d Q b sp v E ks [])(hs:sp=false->ks=nok/\E.length<=32)(hne:kne ks) :
  isQT q R m (d+1) Q ⟨b,b :: (fpU v++ks.flatMap kfp),E++ks.flatMap M1⟩/\(b :: (fpU v++ks.flatMap kfp)).Nodup :=
 ⟨⟨sp,v,E,ks,h.a,hs,rfl,rfl,h.ok,h.kid,hne⟩,by have:=h.nd;simpa using this⟩
theorem qpN.qt0(h:qpN q R m d Q b false v E nok []):isQT q R m 0 Q ⟨b,b :: fpU v,E⟩/\(b :: fpU v).Nodup :=
 ⟨⟨v,E,h.a,rfl,rfl,h.ok⟩,by have:=h.nd;simpa [a8r]using this⟩
theorem c1H{k:QK}(h:isQT q R m (d+1) Q k)(nd:k.fp.Nodup):∃ sp v E ks,qpN q R m d Q k.b sp v E ks []/\(sp=false->ks=nok/\E.length<=32)/\k.fp=k.b :: (fpU v++ks.flatMap kfp)/\k.its=E++ks.flatMap M1/\kne ks:=by
 obtain⟨sp,v,E,ks,ha,h0,h1,h2,h3,h4,h5⟩:=h;exact⟨sp,v,E,ks,⟨ha,h4,h3,by rw[h1]at nd;simpa using nd,by simp⟩,h0,h1,h2,h5⟩
theorem c5y{k:QK}(d:Nat)(h:isQT q R m 0 Q k)(nd:k.fp.Nodup):∃ v E,qpN q R m d Q k.b false v E nok []/\k.fp=k.b :: fpU v/\k.its=E:=by
 obtain⟨v,E,ha,h1,h2,h3⟩:=h;exact⟨v,E,⟨ha,λj x hj=>absurd (a4O hj) (by simp),h3,by rw[h1]at nd;simpa [a8r]using nd,by simp⟩,h1,h2⟩
theorem qpN.D(h:qpN q R m d Q b sp v E ks xs):q.D b/\(∀ y∈fpU v,q.D y)/\∀ y∈ks.flatMap kfp,q.D y :=
 ⟨h.a.D,h.a.u.D',λy hy=>by
  obtain⟨j,x,hj,hy⟩:=b3z hy
  exact(h.kid j x hj).D y hy⟩
theorem qpN.own(h:qpN q R m d Q b sp v E ks []){x:Nat}(hx:a1u R m Q x){i:ApI}(hp:L9 q.D q.S q.F 1 (slB v) (slC v) (slL v) (slK v) 1 [.int .u32 (x:Nat)] i) :
  qpN ⟨i.D,i.S,j0 i.F b 1 (.slice (some ⟨i.b,i.c,none⟩) (slL v+1) i.k)⟩ R m d Q b sp (.slice (some ⟨i.b,i.c,none⟩) (slL v+1) i.k) (E++[x]) ks []/\
  (∀ y∈fpU (.slice (some ⟨i.b,i.c,none⟩) (slL v+1) i.k),y∈fpU v∨¬q.D y)/\frQ (λy=>y=b∨y∈fpU v) q ⟨i.D,i.S,j0 i.F b 1 (.slice (some ⟨i.b,i.c,none⟩) (slL v+1) i.k)⟩:=by
 obtain⟨u1,u2,u3⟩:=h.a.u.app hp;obtain⟨D1,D2,D3⟩:=h.D;obtain⟨⟨n1,n2,_⟩,⟨n4,n5,_⟩,n6,_⟩:=nd4.1 h.nd;generalize Value.slice (some ⟨i.b,i.c,none⟩) (slL v+1) i.k=v' at *
 have hb:b∉fpU v':=λhb=>by
  rcases u2 b hb with h1|h1
  ·exact n1 h1
  ·exact h1 D1
 obtain⟨b1,b2⟩:=u3 b D1;obtain⟨b3,b4⟩:=b2 n1;have off:∀ y c,y≠b->j0 i.F b 1 v' y c=i.F y c:=λy c hy=>b8 (.inl hy)
 have hf:frQ (λy=>y=b∨y∈fpU v) q ⟨i.D,i.S,j0 i.F b 1 v'⟩:=λy hy=>⟨(u3 y hy).1,λhn=>⟨((u3 y hy).2 λe=>hn (.inr e)).1,λc=>by
  show j0 _ _ _ _ _ _=_
  rw[off y c λe=>hn (.inl e)];exact((u3 y hy).2 λe=>hn (.inr e)).2 c⟩⟩
 refine⟨⟨⟨b1,b3.trans h.a.S,?_,v9,u1.same λy hy=>⟨u1.D' y hy,rfl,λc=>off y c λe=>hb (e▸hy)⟩,h.a.kl,λj o ho=>?_⟩,λj k hk=>?_,?_,?_,by simp⟩,u2,hf⟩
 ·show j0 _ _ _ _ _ _=_;rw[b8 (by omega)];exact(b4 0).trans h.a.s0
 ·show j0 _ _ _ _ _ _=_;rw[b8 (by omega)];exact(b4 _).trans (h.a.k j o ho)
 ·refine(h.kid j k hk).same λy hy=>?_
  have hyk:=G5 hk hy;have h1:=hf y (D3 y hyk)
  exact⟨h1.1,h1.2 λe=>by
   rcases e with rfl|e
   ·exact n2 hyk
   ·exact n6 y e hyk⟩
 ·intro y hy;rcases List.mem_append.1 hy with hy|hy
  ·exact h.ok y hy
  ·simp at hy;subst hy;exact hx
 ·refine nd4.2 ⟨⟨hb,n2,by simp⟩,⟨b6J _,n5,by simp⟩,λy hy hy2=>?_,by simp,by simp⟩;rcases u2 y hy with h1|h1
  ·exact n6 y h1 hy2
  ·exact h1 (D3 y hy2)
theorem qpN.aside(h:qpN q R m d Q b sp v E ks (fpU w))(hw:isU q w N){x:Nat}{i:ApI}(hp:L9 q.D q.S q.F 1 (slB w) (slC w) (slL w) (slK w) 1 [.int .u32 (x:Nat)] i) :
  qpN ⟨i.D,i.S,i.F⟩ R m d Q b sp v E ks (fpU (.slice (some ⟨i.b,i.c,none⟩) (slL w+1) i.k))/\isU ⟨i.D,i.S,i.F⟩ (.slice (some ⟨i.b,i.c,none⟩) (slL w+1) i.k) (N++[x])/\
  (∀ y∈fpU (.slice (some ⟨i.b,i.c,none⟩) (slL w+1) i.k),y∈fpU w∨¬q.D y)/\frQ (·∈fpU w) q ⟨i.D,i.S,i.F⟩:=by
 obtain⟨u1,u2,u3⟩:=hw.app hp;obtain⟨D1,D2,D3⟩:=h.D;obtain⟨⟨n1,n2,n3⟩,⟨n4,n5,n6⟩,n7,n8,n9⟩:=nd4.1 h.nd;generalize Value.slice (some ⟨i.b,i.c,none⟩) (slL w+1) i.k=w' at *;have keep:∀ y,q.D y->y∉fpU w->i.D y/\i.S y=q.S y/\∀ c,i.F y c=q.F y c:=λy hy hn=>⟨(u3 y hy).1,(u3 y hy).2 hn⟩
 refine⟨⟨h.a.same (keep b D1 n3) λy hy=>keep y (D2 y hy) (n8 y hy),λj k hk=>(h.kid j k hk).same λy hy=>keep y (D3 y (G5 hk hy)) (n9 y (G5 hk hy)),h.ok,?_,u1.D'⟩,u1,u2,u3⟩;refine nd4.2 ⟨⟨n1,n2,λhb=>?_⟩,⟨n4,n5,b6J _⟩,n7,λy hy hy2=>?_,λy hy hy2=>?_⟩
 ·rcases u2 b hb with h1|h1
  ·exact n3 h1
  ·exact h1 D1
 ·rcases u2 y hy2 with h1|h1
  ·exact n8 y hy h1
  ·exact h1 (D2 y hy)
 ·rcases u2 y hy2 with h1|h1
  ·exact n9 y hy h1
  ·exact h1 (D3 y hy)
theorem b9z:rz tys 191 0=.bool false/\rz tys 191 1=.slice none 0 0/\∀ j,j<4->rz tys 191 (2+j)=.pointer none:=by
 refine⟨rfl,rfl,λj hj=>?_⟩
 match j,hj with
 | 0,_=>rfl
 | 1,_=>rfl
 | 2,_=>rfl
 | 3,_=>rfl
theorem b0o{c:Nat}(hD:q.D c)(hS:q.S c=6)(hF:∀ j,q.F c j=rz tys 191 j):isQT q R m d Q ⟨c,[c],[]⟩:=by
 have ha:qnA q c false (.slice none 0 0) [] nok:=by
  refine⟨hD,hS,by rw[hF,b9z.1],by rw[hF,b9z.2.1],isU.nil q,rfl,λj o ho=>?_⟩;have hj:j<4:=(List.getElem?_eq_some_iff.1 ho).1;rw[a4O ho,hF,b9z.2.2 j hj];rfl
 cases d with
 | zero=>exact⟨_,[],ha,rfl,rfl,by simp⟩
 | succ d=>exact⟨false,_,[],nok,ha,λ_=>⟨rfl,by simp⟩,rfl,rfl,by simp,λj x hj=>absurd (a4O hj) (by simp),kne.nok⟩
theorem a3x{f:Option QK->List Nat}{j:Nat}{o o':Option QK}(h:ks[j]? = some o)(y:Nat)(hy:y∈(ks.set j o').flatMap f):y∈f o'∨y∈ks.flatMap f:=by
 obtain⟨A,B,rfl,_,h2⟩:=V8 h;rw[h2]at hy;simp only[List.flatMap_append,List.flatMap_cons,List.mem_append]at hy ⊢;grind
theorem b4p{j:Nat}{o o':Option QK}(h:ks[j]? = some o)(hn:(ks.flatMap kfp).Nodup)(hn':(kfp o').Nodup)(hd:∀ y∈kfp o',y∈kfp o∨y∉ks.flatMap kfp):((ks.set j o').flatMap kfp).Nodup:=by
 obtain⟨A,B,rfl,_,h2⟩:=V8 h;rw[h2];simp only[List.flatMap_append,List.flatMap_cons,List.nodup_append,List.mem_append,ne_eq]at hn hd ⊢;grind
theorem qpN.new(h:qpN q R m d Q b sp v E ks xs){j c:Nat}(hj:ks[j]? = some none)(hc:¬q.D c) :
  qpN ⟨I2 q.D c,A8 q.S c 6,j0 (A3 q.F c (rz tys 191)) b (2+j) (.pointer (some ⟨c,0,none⟩))⟩ R m d Q b sp v E (ks.set j (some ⟨c,[c],[]⟩)) xs/\
  frQ (·= b) q ⟨I2 q.D c,A8 q.S c 6,j0 (A3 q.F c (rz tys 191)) b (2+j) (.pointer (some ⟨c,0,none⟩))⟩:=by
 obtain⟨D1,D2,D3⟩:=h.D;obtain⟨⟨n1,n2,n3⟩,⟨n4,n5,n6⟩,n7,n8,n9⟩:=nd4.1 h.nd;have hbc:b≠c:=λe=>hc (e▸D1)
 have keepS:∀ y,q.D y->A8 q.S c 6 y=q.S y:=λy hy=>by
  have hne:y≠c:=λe=>hc (e▸hy)
  simp only[A8];rw[if_neg hne]
 have keepF:∀ y x,q.D y->(y≠b∨x≠2+j)->j0 (A3 q.F c (rz tys 191)) b (2+j) (.pointer (some ⟨c,0,none⟩)) y x=q.F y x:=λy x hy hx=>by
  have hne:y≠c:=λe=>hc (e▸hy)
  rw[b8 (by omega)];simp only[A3];rw[if_neg hne]
 have hjl:j<ks.length:=(List.getElem?_eq_some_iff.1 hj).1
 have keep:∀ y,q.D y->y≠b->I2 q.D c y/\A8 q.S c 6 y=q.S y/\∀ x,j0 (A3 q.F c (rz tys 191)) b (2+j) (.pointer (some ⟨c,0,none⟩)) y x=q.F y x :=
  λy hy hn=>⟨.inr hy,keepS y hy,λx=>keepF y x hy (.inl hn)⟩
 have mem:∀ y∈(ks.set j (some ⟨c,[c],[]⟩)).flatMap kfp,y=c∨y∈ks.flatMap kfp:=λy hy=>by
  rcases a3x hj y hy with h1|h1
  ·simp[kfp]at h1;exact .inl h1
  ·exact .inr h1
 refine⟨⟨⟨.inr D1,(keepS b D1).trans h.a.S,(keepF b 0 D1 (by omega)).trans h.a.s0,(keepF b 1 D1 (by omega)).trans h.a.s1,h.a.u.same λy hy=>keep y (D2 y hy) λe=>n1 (e▸hy),by simp[h.a.kl],λj' o ho=>?_⟩,λj' x hx=>?_,h.ok,?_,λy hy=>.inr (h.xD y hy)⟩,
  λy hy=>⟨.inr hy,λhn=>⟨keepS y hy,λx=>keepF y x hy (.inl hn)⟩⟩⟩
 ·rw[List.getElem?_set]at ho;split at ho
  ·rename_i e;subst e;simp only[Option.some.injEq]at ho;subst ho;exact v9
  ·rename_i e;exact(keepF b _ D1 (by omega)).trans (h.a.k j' o ho)
 ·rw[List.getElem?_set]at hx;split at hx
  ·rename_i e;subst e;simp only[Option.some.injEq]at hx;subst hx;refine b0o (.inl rfl) (by simp[A8]) λx=>?_
   show j0 _ _ _ _ _ _=_;rw[b8 (.inl (Ne.symm hbc))];simp[A3]
  ·exact(h.kid j' x hx).same λy hy=>keep y (D3 y (G5 hx hy)) λe=>n2 (e▸G5 hx hy)
 ·refine nd4.2 ⟨⟨n1,λhb=>?_,n3⟩,⟨n4,b4p hj n5 (by simp[kfp]) λy hy=>.inr λhy2=>?_,n6⟩,λy hy hy2=>?_,n8,λy hy hy2=>?_⟩
  ·rcases mem b hb with h1|h1
   ·exact hbc h1
   ·exact n2 h1
  ·simp[kfp]at hy;subst hy;exact hc (D3 _ hy2)
  ·rcases mem y hy2 with rfl|h1
   ·exact hc (D2 _ hy)
   ·exact n7 y hy h1
  ·rcases mem y hy with rfl|h1
   ·exact hc (h.xD _ hy2)
   ·exact n9 y h1 hy2
theorem qpN.child(h:qpN q R m d Q b sp v E ks xs){j i:Nat}{x:QK}{q':RM}(hj:ks[j]? = some (some x))(hr:qiR q R m d (qbV Q (j:Int)) i x q') :
  ∃ x',qpN q' R m d Q b sp v E (ks.set j (some x')) xs/\((ks.set j (some x')).flatMap M1).Perm (i :: ks.flatMap M1)/\(∀ y∈(ks.set j (some x')).flatMap kfp,y∈ks.flatMap kfp∨¬q.D y)/\frQ (·∈x.fp) q q'/\1<=x'.its.length:=by
 obtain⟨x',t1,t2,t3,t4,t5,t6⟩:=hr;obtain⟨D1,D2,D3⟩:=h.D;obtain⟨⟨n1,n2,n3⟩,⟨n4,n5,n6⟩,n7,n8,n9⟩:=nd4.1 h.nd;have hjl:j<ks.length:=(List.getElem?_eq_some_iff.1 hj).1;have hxk:∀ y∈x.fp,y∈ks.flatMap kfp:=λy hy=>G5 hj hy
 have keep:∀ y,q.D y->y∉x.fp->q'.D y/\q'.S y=q.S y/\∀ c,q'.F y c=q.F y c:=λy hy hn=>⟨(t6 y hy).1,(t6 y hy).2 hn⟩
 have mem:∀ y∈(ks.set j (some x')).flatMap kfp,y∈ks.flatMap kfp∨¬q.D y:=λy hy=>by
  rcases a3x hj y hy with h1|h1
  ·rcases t5 y h1 with h2|h2
   ·exact .inl (hxk y h2)
   ·exact .inr h2
  ·exact .inl h1
 have kb:=keep b D1 λe=>n2 (hxk b e)
 refine⟨x',⟨⟨kb.1,kb.2.1.trans h.a.S,(kb.2.2 _).trans h.a.s0,(kb.2.2 _).trans h.a.s1,h.a.u.same λy hy=>keep y (D2 y hy) λe=>n7 y hy (hxk y e),by simp[h.a.kl],λj' o ho=>?_⟩,λj' k hk=>?_,h.ok,?_,λy hy=>(t6 y (h.xD y hy)).1⟩,?_,mem,t6,by rw[t4.length_eq];simp⟩
 ·rw[List.getElem?_set]at ho;split at ho
  ·rename_i e;subst e;simp only[Option.some.injEq]at ho;subst ho;refine(kb.2.2 _).trans ((h.a.k _ _ hj).trans ?_);simp[a6Z,t2]
  ·exact(kb.2.2 _).trans (h.a.k j' o ho)
 ·rw[List.getElem?_set]at hk;split at hk
  ·rename_i e;subst e;simp only[Option.some.injEq]at hk;subst hk;exact t1
  ·rename_i e;refine(h.kid j' k hk).same λy hy=>keep y (D3 y (G5 hk hy)) λhy2=>?_
   obtain⟨A,B,rfl,hA,_⟩:=V8 hj;simp only[List.flatMap_append,List.flatMap_cons,List.nodup_append,List.mem_append,ne_eq]at n5;rcases Nat.lt_or_ge j' A.length with c|c
   ·rw[List.getElem?_append_left c]at hk;have:y∈A.flatMap kfp:=G5 hk hy;exact n5.2.2 y this y (.inl hy2) rfl
   ·rw[List.getElem?_append_right c]at hk;obtain⟨u,hu⟩:∃ u,j'-A.length=u+1:=⟨j'-A.length-1,by omega⟩;rw[hu,List.getElem?_cons_succ]at hk;have:y∈B.flatMap kfp:=G5 hk hy;exact n5.2.1.2.2 y hy2 y this rfl
 ·refine nd4.2 ⟨⟨n1,λhb=>?_,n3⟩,⟨n4,b4p hj n5 t3 λy hy=>?_,n6⟩,λy hy hy2=>?_,n8,λy hy hy2=>?_⟩
  ·rcases mem b hb with h1|h1
   ·exact n2 h1
   ·exact h1 D1
  ·rcases t5 y hy with h2|h2
   ·exact .inl h2
   ·exact .inr λh3=>h2 (D3 y h3)
  ·rcases mem y hy2 with h1|h1
   ·exact n7 y hy h1
   ·exact h1 (D2 y hy)
  ·rcases mem y hy with h1|h1
   ·exact n9 y h1 hy2
   ·exact h1 (h.xD y hy2)
 ·obtain⟨A,B,rfl,hA,h2⟩:=V8 hj;rw[h2];simp only[List.flatMap_append,List.flatMap_cons];refine(List.Perm.append_left _ (List.Perm.append_right _ t4)).trans ?_;exact List.perm_middle
theorem qpN.done(h:qpN q R m d Q b sp v E ks (fpU w))(hw:isU q w N)(hN:∀ x∈N,a1u R m Q x) :
  qpN ⟨q.D,q.S,j0 (j0 q.F b 1 w) b 0 (.bool true)⟩ R m d Q b true w N ks []/\frQ (·= b) q ⟨q.D,q.S,j0 (j0 q.F b 1 w) b 0 (.bool true)⟩:=by
 obtain⟨D1,D2,D3⟩:=h.D;obtain⟨⟨n1,n2,n3⟩,⟨n4,n5,n6⟩,n7,n8,n9⟩:=nd4.1 h.nd
 have keep:∀ y,q.D y->y≠b->q.D y/\q.S y=q.S y/\∀ x,j0 (j0 q.F b 1 w) b 0 (.bool true) y x=q.F y x :=
  λy hy hn=>⟨hy,rfl,λx=>by rw[b8 (.inl hn),b8 (.inl hn)]⟩
 refine⟨⟨⟨D1,h.a.S,v9,?_,hw.same λy hy=>keep y (h.xD y hy) λe=>n3 (e▸hy),h.a.kl,λj o ho=>?_⟩,λj x hx=>(h.kid j x hx).same λy hy=>keep y (D3 y (G5 hx hy)) λe=>n2 (e▸G5 hx hy),hN,?_,by simp⟩,
  λy hy=>⟨hy,λhn=>(keep y hy hn).2⟩⟩
 ·show j0 _ _ _ _ _ _=_;rw[b8 (by omega)];exact v9
 ·show j0 _ _ _ _ _ _=_;rw[b8 (by omega),b8 (by omega)];exact h.a.k j o ho
 ·exact nd4.2 ⟨⟨n3,n2,by simp⟩,⟨n6,n5,by simp⟩,λy hy hy2=>n9 y hy2 hy,by simp,by simp⟩
end
theorem qiR.trans{q q1 q':RM}{R:Nat->Q4}{m d i:Nat}{Q:Q4}{k k1:QK}(hb:k1.b=k.b)(hf:frQ (·∈k.fp) q q1)(hn:∀ x∈k1.fp,x∈k.fp∨¬q.D x)(hp:k1.its.Perm k.its)(h:qiR q1 R m d Q i k1 q'):qiR q R m d Q i k q':=by
 obtain⟨k',t1,t2,t3,t4,t5,t6⟩:=h;refine⟨k',t1,t2.trans hb,t3,t4.trans (hp.cons i),λx hx=>?_,hf.trans t6 (λ_ _ h=>h) λx hx hw=>?_⟩
 ·rcases t5 x hx with h1|h1
  ·exact hn x h1
  ·exact .inr λh2=>h1 (hf x h2).1
 ·rcases hn x hw with h1|h1
  ·exact h1
  ·exact absurd hx h1
def qiP(q:RM)(g:Nat->Nat)(n b:Nat)(Q:Q4)(d i:Nat)(q':RM):Prop:=∀ k,qiA q g n b Q d k->qiR q (rcF g n) n d Q i k q'
def qiO(q:RM)(g:Nat->Nat)(n b:Nat)(Q r:Q4)(i d:Nat):Prop :=
 (d<=16/\QB d Q/\n<=1000000)/\r=rcF g n i/\a1u (rcF g n) n Q i/\∃ k,qiA q g n b Q d k/\k.its.length<1000
theorem qiA.uniq{q:RM}{g:Nat->Nat}{n b d:Nat}{Q:Q4}{k k':QK}(h:qiA q g n b Q d k)(h':qiA q g n b Q d k'):k'=k:=h'.t.uniq h.t (h'.b.trans h.b.symm)
theorem qiP.of{q q':RM}{g:Nat->Nat}{n b d i:Nat}{Q:Q4}{k:QK}(h:qiA q g n b Q d k)(hr:qiR q (rcF g n) n d Q i k q'):qiP q g n b Q d i q':=λk' h'=>by rw[h.uniq h'];exact hr
structure QI where
 j:Nat
 v:Value
 q:RM
structure qlA (q:RM) (g:Nat->Nat) (n b:Nat) (Q:Q4) (d:Nat) (k:QK) (v:Value) (E N:List Nat) (ks:List (Option QK)) (s:QI):Prop where
 hk:qiA q g n b Q (d+1) k
 hE:k.its=E/\E.length=32
 p:qpN s.q (rcF g n) n d Q b false v E ks (fpU s.v)
 w:isU s.q s.v N
 hN:∀ x∈N,a1u (rcF g n) n Q x
 pm:(N++ks.flatMap M1).Perm (E.take s.j)
 j:s.j<=32
 fr:frQ (·∈k.fp) q s.q
 nw:(∀ y∈ks.flatMap kfp,y∈k.fp∨¬q.D y)/\∀ y∈fpU s.v,y∈k.fp∨¬q.D y
def qlI(q:RM)(g:Nat->Nat)(n b:Nat)(Q:Q4)(d:Nat)(s:QI):Prop:=∃ k v E N ks,qlA q g n b Q d k v E N ks s/\kne ks
def qlX(q:RM)(g:Nat->Nat)(n b:Nat)(Q:Q4)(d:Nat)(s:QI)(x:Nat):Prop:=∃ k v E N ks,qlA q g n b Q d k v E N ks s/\E[s.j]? = some x/\kne ks
def qlY(q:RM)(g:Nat->Nat)(n b:Nat)(Q:Q4)(d:Nat)(s:QI)(x:Nat)(q':RM):Prop :=
 ∃ k v E N ks y,qlA q g n b Q d k v E N ks ⟨s.j,s.v,q'⟩/\E[s.j]? = some x/\(0<=cqV Q (rcF g n x)/\cqV Q (rcF g n x)<4/\inQ (qbV Q (cqV Q (rcF g n x))) (rcF g n x))/\ks[(cqV Q (rcF g n x)).toNat]? = some (some y)/\b1t (cqV Q (rcF g n x)).toNat ks
structure qcA (q:RM) (g:Nat->Nat) (n b:Nat) (Q:Q4) (d c:Nat) (q':RM) (k:QK) (v:Value) (E:List Nat) (ks:List (Option QK)) (y:QK):Prop where
 hk:qiA q g n b Q (d+1) k
 p:qpN q' (rcF g n) n d Q b true v E ks []
 pm:(E++ks.flatMap M1).Perm k.its
 nw:(∀ y∈ks.flatMap kfp,y∈k.fp∨¬q.D y)/\∀ y∈fpU v,y∈k.fp∨¬q.D y
 fr:frQ (·∈k.fp) q q'
 hy:ks[c]? = some (some y)
 ne:b1t c ks
def qcP(q:RM)(g:Nat->Nat)(n b:Nat)(Q:Q4)(d c:Nat)(q':RM):Prop:=∃ k v E ks y,qcA q g n b Q d c q' k v E ks y
section
variable {q:RM} {g:Nat->Nat} {n b d:Nat} {Q:Q4} {k:QK}
theorem qiA.own0(h:qiA q g n b Q 0 k)(e:Nat):∃ v E,qpN q (rcF g n) n e Q b false v E nok []/\k.fp=b :: fpU v/\k.its=E:=by
 obtain⟨v,E,h1,h2,h3⟩:=c5y e h.t h.nd;rw[h.b]at h1 h2;exact⟨v,E,h1,h2,h3⟩
theorem qiA.own1(h:qiA q g n b Q (d+1) k):∃ sp v E ks,qpN q (rcF g n) n d Q b sp v E ks []/\(sp=false->ks=nok/\E.length<=32)/\k.fp=b :: (fpU v++ks.flatMap kfp)/\k.its=E++ks.flatMap M1/\kne ks:=by
 obtain⟨sp,v,E,ks,h1,h0,h2,h3,h4⟩:=c1H h.t h.nd;rw[h.b]at h1 h2;exact⟨sp,v,E,ks,h1,h0,h2,h3,h4⟩
theorem qiA.node(h:qiA q g n b Q d k):∃ sp v E ks,qnA q b sp v E ks/\E.length<=k.its.length:=by
 cases d with
 | zero =>
  obtain⟨v,E,h1,h2,h3⟩:=h.own0 0;exact⟨_,_,_,_,h1.a,by rw[h3];exact Nat.le_refl _⟩
 | succ d =>
  obtain⟨sp,v,E,ks,h1,h0,h2,h3,_⟩:=h.own1;exact⟨_,_,_,_,h1.a,by rw[h3];simp⟩
theorem qiA.cells(h:qiA q g n b Q d k):q.D b/\q.S b=6/\a9R (q.F b 0)/\isSlN (q.F b 1)/\Go.Sx.appO q.D q.S 1 4 (slB (q.F b 1)) (slC (q.F b 1)) (slL (q.F b 1)) (slK (q.F b 1)) 1:=by
 obtain⟨sp,v,E,ks,h1,h2⟩:=h.node;have h3:=h.le;rw[h1.s1,h1.s0];exact⟨h1.D,h1.S,rfl,h1.u.appO (by omega)⟩
theorem qiA.bfp(h:qiA q g n b Q d k):b∈k.fp:=by rw[<-h.b];exact h.t.fp0
theorem c3R(h:qiA q g n b Q 0 k){x:Nat}(hx:a1u (rcF g n) n Q x){i:ApI}(hp:L9 q.D q.S q.F 1 (slB (q.F b 1)) (slC (q.F b 1)) (slL (q.F b 1)) (slK (q.F b 1)) 1 [.int .u32 (x:Nat)] i) :
  (i.D b/\2<=i.S b)/\qiP q g n b Q 0 x ⟨i.D,i.S,j0 i.F b 1 (.slice (some ⟨i.b,i.c,none⟩) (slL (q.F b 1)+1) i.k)⟩:=by
 obtain⟨v,E,h1,h2,h3⟩:=h.own0 0;rw[h1.a.s1]at hp ⊢;obtain⟨r1,r2,r3⟩:=h1.own hx hp;refine⟨⟨r1.a.D,by have:i.S b=6:=r1.a.S;omega⟩,qiP.of h ?_⟩;obtain⟨r4,r5⟩:=r1.qt0;refine⟨_,r4,h.b.symm,r5,?_,λy hy=>?_,r3.mono λy _ hw=>?_⟩
 ·rw[h3];exact List.perm_append_singleton x E
 ·rcases List.mem_cons.1 hy with rfl|hy
  ·exact .inl h.bfp
  ·rcases r2 y hy with h4|h4
   ·exact .inl (by rw[h2];exact List.mem_cons_of_mem _ h4)
   ·exact .inr h4
 ·rw[h2];rcases hw with rfl|hw
  ·simp
  ·exact List.mem_cons_of_mem _ hw
theorem b6s(h:qiA q g n b Q (d+1) k)(hs:W9 (q.F b 0)=true∨slL (q.F b 1)≠32){x:Nat}(hx:a1u (rcF g n) n Q x){i:ApI}(hp:L9 q.D q.S q.F 1 (slB (q.F b 1)) (slC (q.F b 1)) (slL (q.F b 1)) (slK (q.F b 1)) 1 [.int .u32 (x:Nat)] i) :
  (i.D b/\2<=i.S b)/\qiP q g n b Q (d+1) x ⟨i.D,i.S,j0 i.F b 1 (.slice (some ⟨i.b,i.c,none⟩) (slL (q.F b 1)+1) i.k)⟩:=by
 obtain⟨sp,v,E,ks,h1,h0,h2,h3,hne⟩:=h.own1;rw[h1.a.s0,h1.a.s1]at hs;rw[h1.a.s1]at hp ⊢;obtain⟨r1,r2,r3⟩:=h1.own hx hp;refine⟨⟨r1.a.D,by have:i.S b=6:=r1.a.S;omega⟩,qiP.of h ?_⟩
 obtain⟨r4,r5⟩:=r1.qt (λe=>by
  obtain⟨e1,e2⟩:=h0 e;refine⟨e1,?_⟩;have e3:=h1.a.u.n;rcases hs with hs|hs
  ·rw[e]at hs;exact absurd hs (by decide)
  ·simp;omega) hne
 refine⟨_,r4,h.b.symm,r5,?_,λy hy=>?_,r3.mono λy _ hw=>?_⟩
 ·rw[h3,List.append_assoc];exact List.perm_middle
 ·rcases List.mem_cons.1 hy with rfl|hy
  ·exact .inl h.bfp
  ·rcases List.mem_append.1 hy with hy|hy
   ·rcases r2 y hy with h4|h4
    ·exact .inl (by rw[h2];exact List.mem_cons_of_mem _ (List.mem_append_left _ h4))
    ·exact .inr h4
   ·exact .inl (by rw[h2];exact List.mem_cons_of_mem _ (List.mem_append_right _ hy))
 ·rw[h2];rcases hw with rfl|hw
  ·simp
  ·exact List.mem_cons_of_mem _ (List.mem_append_left _ hw)
theorem a3V(o:Option QK):a2Z (a6Z o):=by
 cases o with
 | none=>exact .inl rfl
 | some x=>exact .inr ⟨_,rfl⟩
theorem a1w(o:Option QK):O1 (a6Z o)=o.isNone:=by cases o <;> rfl
theorem qnA.kid{sp:Bool}{v:Value}{E:List Nat}{ks:List (Option QK)}(h:qnA q b sp v E ks){c:Nat}(hc:c<4):∃ o,ks[c]? = some o/\q.F b (2+c)=a6Z o:=by
 have:=List.getElem?_eq_getElem (by rw[h.kl];exact hc:c<ks.length);exact⟨_,this,h.k _ _ this⟩
theorem qiA.kidc(h:qiA q g n b Q (d+1) k){c:Nat}(hc:c<4):a2Z (q.F b (2+c)):=by
 obtain⟨sp,v,E,ks,h1,_⟩:=h.own1;obtain⟨o,_,h5⟩:=h1.a.kid hc;rw[h5];exact a3V o
theorem a9G(q:RM)(b:Nat):a0Y q b<=1:=by unfold a0Y;split <;> omega
theorem c4s(h:qiA q g n b Q (d+1) k)(hs:W9 (q.F b 0)=true){c x:Nat}(hc:c<4)(hn:O1 (q.F b (2+c))=true)(hx:¬q.D x) :
  qcP q g n b Q d c ⟨I2 q.D x,A8 q.S x 6,j0 (A3 q.F x (rz tys 191)) b (2+c) (.pointer (some ⟨x,0,none⟩))⟩:=by
 obtain⟨sp,v,E,ks,h1,h0,h2,h3,hne⟩:=h.own1;obtain⟨o,h4,h5⟩:=h1.a.kid hc;rw[h5,a1w]at hn;obtain rfl:o=none:=by simpa using hn
 obtain rfl:sp=true:=by rw[h1.a.s0]at hs;exact hs
 obtain⟨r1,r2⟩:=h1.new h4 hx;have hl:c<ks.length:=by rw[h1.a.kl];exact hc
 refine⟨k,v,E,_,⟨x,[x],[]⟩,h,r1,?_,⟨λy hy=>?_,λy hy=>.inl (by rw[h2];exact List.mem_cons_of_mem _ (List.mem_append_left _ hy))⟩,r2.mono λy _ hw=>by rw[hw];exact h.bfp,by simp[hl],hne.setX⟩
 ·rw[h3];obtain⟨A,B,rfl,_,h6⟩:=V8 h4;rw[h6];simp[M1]
 ·rcases a3x h4 y hy with h6|h6
  ·simp[kfp]at h6;subst h6;exact .inr hx
  ·exact .inl (by rw[h2];exact List.mem_cons_of_mem _ (List.mem_append_right _ h6))
theorem c4M(h:qiA q g n b Q (d+1) k)(hs:W9 (q.F b 0)=true){c:Nat}(hc:c<4)(hn:O1 (q.F b (2+c))=false):qcP q g n b Q d c q:=by
 obtain⟨sp,v,E,ks,h1,h0,h2,h3,hne⟩:=h.own1;obtain⟨o,h4,h5⟩:=h1.a.kid hc;rw[h5,a1w]at hn
 obtain⟨y,rfl⟩:∃ y,o=some y:=by cases o with
  | none=>simp at hn
  | some y=>exact⟨y,rfl⟩
 obtain rfl:sp=true:=by rw[h1.a.s0]at hs;exact hs
 exact⟨k,v,E,ks,y,h,h1,by rw[h3],⟨λy hy=>.inl (by rw[h2];exact List.mem_cons_of_mem _ (List.mem_append_right _ hy)),λy hy=>.inl (by rw[h2];exact List.mem_cons_of_mem _ (List.mem_append_left _ hy))⟩,frQ.refl _ _,h4,hne.x c⟩
theorem a9d{ks:List (Option QK)}{c:Nat}{y:QK}(h:ks[c]? = some (some y)):y.its.length<=(ks.flatMap M1).length:=by
 obtain⟨A,B,rfl,_,_⟩:=V8 h;simp only[List.flatMap_append,List.flatMap_cons,List.length_append,M1];omega
theorem c2c{ks:List (Option QK)}{c:Nat}{y:QK}(h:ks[c]? = some (some y))(hn:(ks.flatMap kfp).Nodup):y.fp.Nodup:=by
 obtain⟨A,B,rfl,_,_⟩:=V8 h;simp only[List.flatMap_append,List.flatMap_cons,List.nodup_append,kfp]at hn;exact hn.2.1.1
theorem qpN.sub{sp:Bool}{v:Value}{E xs:List Nat}{ks:List (Option QK)}(h:qpN q (rcF g n) n d Q b sp v E ks xs){c:Nat}{y:QK}(hy:ks[c]? = some (some y))(hl:(ks.flatMap M1).length<=1000) :
  q.F b (2+c)=.pointer (some ⟨y.b,0,none⟩)/\qiA q g n y.b (qbV Q (c:Int)) d y:=by
 refine⟨h.a.k _ _ hy,h.kid _ _ hy,rfl,c2c hy (nd4.1 h.nd).2.1.2.1,?_⟩;have:=a9d hy;omega
theorem b6n{c:Nat}{q':RM}{v:Value}{E:List Nat}{ks:List (Option QK)}{y:QK}(h:qcA q g n b Q d c q' k v E ks y)(hl:k.its.length<1000) :
  (q'.D b/\q'.S b=6)/\q'.F b (2+c)=.pointer (some ⟨y.b,0,none⟩)/\qiA q' g n y.b (qbV Q (c:Int)) d y/\y.its.length<1000:=by
 have h1:=h.pm.length_eq;rw[List.length_append]at h1;have h2:=a9d h.hy;obtain⟨h3,h4⟩:=h.p.sub h.hy (by omega);exact⟨⟨h.p.a.D,h.p.a.S⟩,h3,h4,by omega⟩
theorem c5m{c x:Nat}{q' q'':RM}{v:Value}{E:List Nat}{ks:List (Option QK)}{y:QK}(h:qcA q g n b Q d c q' k v E ks y)(hl:k.its.length<1000)(hP:qiP q' g n y.b (qbV Q (c:Int)) d x q''):qiP q g n b Q (d+1) x q'':=by
 obtain⟨_,_,h3,_⟩:=b6n h hl;obtain⟨x',r1,r2,r3,r4,r5⟩:=h.p.child h.hy (hP y h3);obtain⟨s1,s2⟩:=r1.qt (by simp) (h.ne.set r5);refine qiP.of h.hk ⟨_,s1,h.hk.b.symm,s2,?_,λz hz=>?_,h.fr.trans r4 (λ_ _ hw=>hw) λz hz hw=>?_⟩
 ·show (E++_).Perm _;refine(List.Perm.append_left E r2).trans (List.perm_middle.trans ?_);exact h.pm.cons x
 ·rcases List.mem_cons.1 hz with rfl|hz
  ·exact .inl h.hk.bfp
  ·rcases List.mem_append.1 hz with hz|hz
   ·exact h.nw.2 z hz
   ·rcases r3 z hz with h5|h5
    ·exact h.nw.1 z h5
    ·exact .inr λh6=>h5 (h.fr z h6).1
 ·rcases h.nw.1 z (G5 h.hy hw)with h5|h5
  ·exact h5
  ·exact absurd hz h5
theorem b9O(h:qiA q g n b Q (d+1) k)(hs:W9 (q.F b 0)=false)(hl:slL (q.F b 1)=32):qlI q g n b Q d ⟨0, .slice none 0 0,q⟩:=by
 obtain⟨sp,v,E,ks,h1,h0,h2,h3,hne⟩:=h.own1;obtain rfl:sp=false:=by rw[h1.a.s0]at hs;exact hs
 obtain⟨rfl,_⟩:=h0 rfl;rw[h1.a.s1]at hl;exact⟨k,v,E,[],nok,⟨h,⟨by rw[h3,a5s];simp,by rw[<-h1.a.u.n];exact hl⟩,h1,isU.nil q,by simp,by rw[a5s];simp,by simp,frQ.refl _ _,by rw[a8r];simp,by simp[fpU,slK]⟩,kne.nok⟩
variable {v:Value} {E N:List Nat} {ks:List (Option QK)} {s:QI}
theorem a9V(h:qlA q g n b Q d k v E N ks s):(s.q.D b/\s.q.S b=6)/\s.q.F b 1=v/\isSlN v/\slL v=32:=by
 refine⟨⟨h.p.a.D,h.p.a.S⟩,h.p.a.s1,h.p.a.u.sl,?_⟩;rw[h.p.a.u.n];exact h.hE.2
theorem c0J(h:qlA q g n b Q d k v E N ks s)(hj:s.j<32):∃ x,E[s.j]? = some x/\isSl v/\(s.q.D (slB v)/\slC v+s.j<s.q.S (slB v))/\s.q.F (slB v) (slC v+s.j)=.int .u32 (x:Nat):=by
 have h1:=List.getElem?_eq_getElem (by rw[h.hE.2];exact hj:s.j<E.length);have h2:=h.p.a.u.pos h1;obtain⟨h3,h4⟩:=h.p.a.u.D h2;have h5:=h.p.a.u.le;have h6:=(a9V h).2.2.2;refine⟨_,h1,?_,⟨h3,by omega⟩,h.p.a.u.c _ _ h1⟩;rcases h.p.a.u.sl with e|e
 ·rw[e]at h2;exact absurd h2 (by decide)
 ·exact e
theorem b3B{E L:List Nat}{j x:Nat}(h:L.Perm (E.take j))(hj:E[j]? = some x):(x :: L).Perm (E.take (j+1)):=by
 rw[List.take_add_one,hj];exact(h.cons x).trans (List.perm_append_singleton x _).symm
theorem b4o(h:qlA q g n b Q d k v E N ks s){x:Nat}(hx:E[s.j]? = some x):a1u (rcF g n) n Q x/\s.j<32:=by
 refine⟨h.p.ok x (List.mem_of_getElem? hx),?_⟩;have:=(List.getElem?_eq_some_iff.1 hx).1;rw[h.hE.2]at this;exact this
theorem a8y(h:qlA q g n b Q d k v E N ks s):N.length+(ks.flatMap M1).length<=32:=by
 have h1:=h.pm.length_eq;rw[List.length_append,List.length_take]at h1;have:=h.j;omega
theorem c0s(h:qlA q g n b Q d k v E N ks s)(hne:kne ks){x:Nat}(hx:E[s.j]? = some x){i:ApI}(hp:L9 s.q.D s.q.S s.q.F 1 (slB s.v) (slC s.v) (slL s.v) (slK s.v) 1 [.int .u32 (x:Nat)] i) :
  qlI q g n b Q d ⟨s.j+1, .slice (some ⟨i.b,i.c,none⟩) (slL s.v+1) i.k,⟨i.D,i.S,i.F⟩⟩:=by
 obtain⟨r1,r2,r3,r4⟩:=h.p.aside h.w hp;obtain⟨h1,h2⟩:=b4o h hx;refine⟨k,v,E,N++[x],ks,⟨h.hk,h.hE,r1,r2,λy hy=>?_,?_,h2,h.fr.trans r4 (λ_ _ hw=>hw) λy hy hw=>?_,h.nw.1,λy hy=>?_⟩,hne⟩
 ·rcases List.mem_append.1 hy with hy|hy
  ·exact h.hN y hy
  ·simp at hy;subst hy;exact h1
 ·refine(List.Perm.append_right _ (List.perm_append_singleton x N)).trans ?_;exact b3B h.pm hx
 ·rcases h.nw.2 y hw with h3|h3
  ·exact h3
  ·exact absurd hy h3
 ·rcases r3 y hy with h3|h3
  ·exact h.nw.2 y h3
  ·exact .inr λh4=>h3 (h.fr y h4).1
theorem c4r(h:qlA q g n b Q d k v E N ks s)(hne:kne ks){x:Nat}(hx:E[s.j]? = some x)(hq:0<=cqV Q (rcF g n x)/\cqV Q (rcF g n x)<4/\inQ (qbV Q (cqV Q (rcF g n x))) (rcF g n x)){z:Nat}(hn:O1 (s.q.F b (2+(cqV Q (rcF g n x)).toNat))=true)(hz:¬s.q.D z) :
  qlY q g n b Q d s x ⟨I2 s.q.D z,A8 s.q.S z 6,j0 (A3 s.q.F z (rz tys 191)) b (2+(cqV Q (rcF g n x)).toNat) (.pointer (some ⟨z,0,none⟩))⟩:=by
 have hc:(cqV Q (rcF g n x)).toNat<4:=by omega
 generalize hC:(cqV Q (rcF g n x)).toNat=c at *;obtain⟨o,h4,h5⟩:=h.p.a.kid hc;rw[h5,a1w]at hn;obtain rfl:o=none:=by simpa using hn
 obtain⟨r1,r2⟩:=h.p.new h4 hz;have hl:c<ks.length:=by rw[h.p.a.kl];exact hc
 have hbw:b∉fpU s.v:=(nd4.1 h.p.nd).1.2.2;refine⟨k,v,E,N,ks.set c (some ⟨z,[z],[]⟩),⟨z,[z],[]⟩,⟨h.hk,h.hE,r1,h.w.same λy hy=>?_,h.hN,?_,h.j,h.fr.trans r2 (λ_ _ hw=>hw) λy hy hw=>by rw[hw];exact h.hk.bfp,λy hy=>?_,h.nw.2⟩,hx,hq,by rw[hC];simp[hl],by rw[hC];exact hne.setX⟩
 ·have h6:=r2 y (h.w.D' y hy);exact⟨h6.1,h6.2 λe=>hbw (e▸hy)⟩
 ·obtain⟨A,B,rfl,_,h6⟩:=V8 h4;rw[h6];have:=h.pm;simpa [M1]using this
 ·rcases a3x h4 y hy with h6|h6
  ·simp[kfp]at h6;subst h6;exact .inr λh7=>hz (h.fr _ h7).1
  ·exact h.nw.1 y h6
theorem c4t(h:qlA q g n b Q d k v E N ks s)(hne:kne ks){x:Nat}(hx:E[s.j]? = some x)(hq:0<=cqV Q (rcF g n x)/\cqV Q (rcF g n x)<4/\inQ (qbV Q (cqV Q (rcF g n x))) (rcF g n x))(hn:O1 (s.q.F b (2+(cqV Q (rcF g n x)).toNat))=false) :
  qlY q g n b Q d s x s.q:=by
 obtain⟨o,h4,h5⟩:=h.p.a.kid (c:=(cqV Q (rcF g n x)).toNat) (by omega);rw[h5,a1w]at hn
 obtain⟨y,rfl⟩:∃ y,o=some y:=by cases o with
  | none=>simp at hn
  | some y=>exact⟨y,rfl⟩
 exact⟨k,v,E,N,ks,y,h,hx,hq,h4,hne.x _⟩
theorem b6O{q' q'':RM}{x c:Nat}{y:QK}(h:qlA q g n b Q d k v E N ks ⟨s.j,s.v,q'⟩)(hx:E[s.j]? = some x)(hy:ks[c]? = some (some y))(hne:b1t c ks)(hP:qiP q' g n y.b (qbV Q (c:Int)) d x q''):qlI q g n b Q d ⟨s.j+1,s.v,q''⟩:=by
 have h0:=a8y h;obtain⟨_,h3⟩:=h.p.sub hy (by omega);obtain⟨x',r1,r2,r3,r4,r5⟩:=h.p.child hy (hP y h3);obtain⟨h1,h2⟩:=b4o h hx;have hd:∀ z∈fpU s.v,z∉y.fp:=λz hz hz2=>(nd4.1 h.p.nd).2.2.2.2 z (G5 hy hz2) hz
 refine⟨k,v,E,N,_,⟨h.hk,h.hE,r1,h.w.same λz hz=>?_,h.hN,?_,h2,h.fr.trans r4 (λ_ _ hw=>hw) λz hz hw=>?_,λz hz=>?_,h.nw.2⟩,hne.set r5⟩
 ·have h6:=r4 z (h.w.D' z hz);exact⟨h6.1,h6.2 (hd z hz)⟩
 ·refine(List.Perm.append_left N r2).trans (List.perm_middle.trans ?_);exact b3B h.pm hx
 ·rcases h.nw.1 z (G5 hy hw)with h5|h5
  ·exact h5
  ·exact absurd hz h5
 ·rcases r3 z hz with h5|h5
  ·exact h.nw.1 z h5
  ·exact .inr λh6=>h5 (h.fr z h6).1
theorem c4z(h:qlA q g n b Q d k v E N ks s)(hne:kne ks)(hj:¬s.j<32):∃ k1,qiA ⟨s.q.D,s.q.S,j0 (j0 s.q.F b 1 s.v) b 0 (.bool true)⟩ g n b Q (d+1) k1/\k1.its.length<1000/\
  ∀ x q',qiP ⟨s.q.D,s.q.S,j0 (j0 s.q.F b 1 s.v) b 0 (.bool true)⟩ g n b Q (d+1) x q'->qiP q g n b Q (d+1) x q':=by
 obtain⟨r1,r2⟩:=h.p.done h.w h.hN;obtain⟨s1,s2⟩:=r1.qt (by simp) hne;have hlen:=a8y h;have hE:E.take s.j=E:=List.take_of_length_le (by rw[h.hE.2];omega);have hpm:=h.pm;rw[hE]at hpm;have ha:qiA ⟨s.q.D,s.q.S,j0 (j0 s.q.F b 1 s.v) b 0 (.bool true)⟩ g n b Q (d+1) ⟨b,b :: (fpU s.v++ks.flatMap kfp),N++ks.flatMap M1⟩:=⟨s1,rfl,s2,by simp only[List.length_append];omega⟩;refine⟨_,ha,by simp only[List.length_append];omega,λx q' hP=>qiP.of h.hk ?_⟩
 refine qiR.trans (k1:=⟨b,b :: (fpU s.v++ks.flatMap kfp),N++ks.flatMap M1⟩) h.hk.b.symm (h.fr.trans r2 (λ_ _ hw=>hw) λy hy hw=>by rw[hw];exact h.hk.bfp) (λy hy=>?_) (by rw[h.hE.1];exact hpm) (hP _ ha);rcases List.mem_cons.1 hy with rfl|hy
 ·exact .inl h.hk.bfp
 ·rcases List.mem_append.1 hy with hy|hy
  ·exact h.nw.2 y hy
  ·exact h.nw.1 y hy
end
noncomputable def GQ0:Ctx:=⟨⟨tys,FP⟩,[(112,p9 b4C),(113,l8 a2s),(123,a1f (l9 Unit ⟨()⟩ c1q) ()),(124,l8 b4c)]⟩
theorem gQ0:v8 Tryz.prog GQ0:=⟨⟨z6,a5X⟩,g8.cons c7H (g8.cons (.pure b0e) (g8.cons d0G (g8.cons (.pure c8E) g8.nil))),by kernel_rfl⟩
noncomputable def qH(ts:List Nat)(cl cw cv:Bool)(k:Int)(x y z w n:Nat)(g:Nat->Nat)(a0 a1 a2 a3 r0 r1 r2 r3:Nat)(q:RM):v5 :=
 [(0,rwO ts q),(1,⟨false,150,a0G cl cw cv k x y z w 2 n,0⟩),(2,⟨false,100, .flts .f64 (2*n) g,0⟩),(3,⟨true,102, .cells [.flt .f64 a0, .flt .f64 a1, .flt .f64 a2, .flt .f64 a3],0⟩),(4,⟨true,102, .cells [.flt .f64 r0, .flt .f64 r1, .flt .f64 r2, .flt .f64 r3],0⟩)]
noncomputable def qH5(ts:List Nat)(cl cw cv:Bool)(k:Int)(x y z w n:Nat)(g:Nat->Nat)(a0 a1 a2 a3 r0 r1 r2 r3:Nat)(Q:Q4)(q:RM):v5 :=
 [(0,rwO ts q),(1,⟨false,150,a0G cl cw cv k x y z w 2 n,0⟩),(2,⟨false,100, .flts .f64 (2*n) g,0⟩),(3,⟨true,102, .cells [.flt .f64 a0, .flt .f64 a1, .flt .f64 a2, .flt .f64 a3],0⟩),(4,⟨true,102, .cells [.flt .f64 r0, .flt .f64 r1, .flt .f64 r2, .flt .f64 r3],0⟩),(5,⟨true,102, .cells [.flt .f64 Q.x0, .flt .f64 Q.y0, .flt .f64 Q.x1, .flt .f64 Q.y1],0⟩)]
noncomputable def qH6(ts:List Nat)(cl cw cv:Bool)(k:Int)(x y z w n:Nat)(g:Nat->Nat)(a0 a1 a2 a3 r0 r1 r2 r3:Nat)(R Q:Q4)(q:RM):v5 :=
 [(0,rwO ts q),(1,⟨false,150,a0G cl cw cv k x y z w 2 n,0⟩),(2,⟨false,100, .flts .f64 (2*n) g,0⟩),(3,⟨true,102, .cells [.flt .f64 a0, .flt .f64 a1, .flt .f64 a2, .flt .f64 a3],0⟩),(4,⟨true,102, .cells [.flt .f64 r0, .flt .f64 r1, .flt .f64 r2, .flt .f64 r3],0⟩),(5,⟨true,102, .cells [.flt .f64 R.x0, .flt .f64 R.y0, .flt .f64 R.x1, .flt .f64 R.y1],0⟩),(6,⟨true,102, .cells [.flt .f64 Q.x0, .flt .f64 Q.y0, .flt .f64 Q.x1, .flt .f64 Q.y1],0⟩)]
noncomputable def qL(ts:List Nat)(cl cw cv:Bool)(k:Int)(x y z w n:Nat)(g:Nat->Nat)(a0 a1 a2 a3 r0 r1 r2 r3:Nat)(q:RM)(b:Nat)(i dp:Int):O9 :=
 ⟨⟨QI,λs=>⟨175,[(0, .pb 0 b 0),(1, .ptr 1 0),(4, .int .i64 i),(5, .int .i64 dp),(8, .ptr 3 0),(9, .ptr 4 0),(14, .dv 0 s.v),(15, .int .i64 s.j)],qH ts cl cw cv k x y z w n g a0 a1 a2 a3 r0 r1 r2 r3 s.q,5⟩,qlI q g n b ⟨a0,a1,a2,a3⟩ (16-dp.toNat-1),λs=>32-s.j⟩,
  λs=>[(17,⟨Nat,λt=>⟨175,[(0, .pb 0 b 0),(1, .ptr 1 0),(4, .int .i64 i),(5, .int .i64 dp),(8, .ptr 3 0),(9, .ptr 4 0),(14, .dv 0 s.v),(15, .int .i64 s.j),(16, .int .u32 t)],qH ts cl cw cv k x y z w n g a0 a1 a2 a3 r0 r1 r2 r3 s.q,5⟩,λt=>qlX q g n b ⟨a0,a1,a2,a3⟩ (16-dp.toNat-1) s t,λ_=>0⟩),
   (24,⟨Nat×RM,λt=>⟨175,[(0, .pb 0 b 0),(1, .ptr 1 0),(4, .int .i64 i),(5, .int .i64 dp),(8, .ptr 3 0),(9, .ptr 4 0),(14, .dv 0 s.v),(15, .int .i64 s.j),(16, .int .u32 (t.1:Nat)),(17, .ptr 5 0),(18, .int .i64 (cqV ⟨a0,a1,a2,a3⟩ (rcF g n t.1))),(19, .ptr 6 0)],qH6 ts cl cw cv k x y z w n g a0 a1 a2 a3 r0 r1 r2 r3 (rcF g n t.1) (qbV ⟨a0,a1,a2,a3⟩ (cqV ⟨a0,a1,a2,a3⟩ (rcF g n t.1))) t.2,7⟩,λt=>qlY q g n b ⟨a0,a1,a2,a3⟩ (16-dp.toNat-1) s t.1 t.2,λ_=>0⟩)]⟩
noncomputable def a6i(K:Nat):List SV->RRd RM
 | [.pb nn b c, .ptr s 0, .agg [.flt .f64 a0, .flt .f64 a1, .flt .f64 a2, .flt .f64 a3], .agg [.flt .f64 r0, .flt .f64 r1, .flt .f64 r2, .flt .f64 r3], .int .i64 i, .int .i64 dp]=>.read nn λo0=>(match G2 o0 with
  | some (ts,q)=>.read s λo1=>(match a3r o1.c with
   | some (cl,cw,cv,k,x,y,z,w,p,n)=>.read p λo2=>(match r7 .f64 o2.c with
    | some (m2,g)=>.ret ⟨[.pb 0 b 0, .ptr 1 0, .agg [.flt .f64 a0, .flt .f64 a1, .flt .f64 a2, .flt .f64 a3], .agg [.flt .f64 r0, .flt .f64 r1, .flt .f64 r2, .flt .f64 r3], .int .i64 i, .int .i64 dp],
      [(0,rwO ts q),(1,⟨false,150,a0G cl cw cv k x y z w 2 n,0⟩),(2,⟨false,100, .flts .f64 m2 g,0⟩)],some (0=c/\m2=2*n/\((0<=dp/\dp<=16/\2*(16-dp.toNat)+a0Y q b<K)/\(0<=i/\i<n)/\qiO q g n b ⟨a0,a1,a2,a3⟩ ⟨r0,r1,r2,r3⟩ i.toNat (16-dp.toNat))),
      λj=>qiP q g n b ⟨a0,a1,a2,a3⟩ (16-dp.toNat) i.toNat j,λj=>⟨[],[], .tup [],[(0,rwO ts (j))],[],none⟩⟩
    | none=>.fail)
   | none=>.fail)
  | none=>.fail)
 | _=>.fail
noncomputable def X11(H:Nat):D7:=⟨GQ0,[(117,l9 RM ⟨default⟩ (a6i H))],[(191,0)],[],[(188,0)]⟩
theorem x11(H:Nat)(ih:u6 Tryz.prog 117 (l9 RM ⟨default⟩ (a6i H))):y9 Tryz.prog (X11 H):=⟨gQ0,q8.cons ih q8.nil⟩
noncomputable def c3K(K:Nat):List SV->RRd (RM)
 | [.pb nn b c, .ptr s 0, .agg [.flt .f64 a0, .flt .f64 a1, .flt .f64 a2, .flt .f64 a3], .agg [.flt .f64 r0, .flt .f64 r1, .flt .f64 r2, .flt .f64 r3], .int .i64 i, .int .i64 dp]=>.read nn λo0=>(match G2 o0 with
  | some (ts,q)=>.read s λo1=>(match a3r o1.c with
  | some (cl,cw,cv,k,x,y,z,w,p,n)=>.read p λo2=>(match r7 .f64 o2.c with
  | some (m2,g)=>.ret ⟨[.pb 0 b 0, .ptr 1 0, .agg [.flt .f64 a0, .flt .f64 a1, .flt .f64 a2, .flt .f64 a3], .agg [.flt .f64 r0, .flt .f64 r1, .flt .f64 r2, .flt .f64 r3], .int .i64 i, .int .i64 dp],[(0,rwO ts q),(1,⟨false,150,a0G cl cw cv k x y z w 2 n,0⟩),(2,⟨false,100, .flts .f64 m2 g,0⟩)],some (0=c/\m2=2*n/\((0<=dp/\dp<=16/\2*(16-dp.toNat)+a0Y q b<K)/\(0<=i/\i<n)/\qiO q g n b ⟨a0,a1,a2,a3⟩ ⟨r0,r1,r2,r3⟩ i.toNat (16-dp.toNat))),λj=>qiP q g n b ⟨a0,a1,a2,a3⟩ (16-dp.toNat) i.toNat j,λj=>⟨[],[], .tup [],[(0,rwO ts (j))],[],none⟩⟩
  | none=>.fail)
  | none=>.fail)
  | none=>.fail)
 | _=>.fail
theorem c0b(R:Option Ob->SV->Prop)(H:Nat)(ts:List Nat)(q:RM)(b:Nat)(cl cw cv:Bool)(k:Int)(x y z w:Nat)(_:Nm)(n:Nat)(a0 a1 a2 a3 r0 r1 r2 r3:Nat)(i dp:Int)(g:Nat->Nat){T1}(t1:T1=λ(j:Nat)=>(Q4.mk (C0 (g (2*Int.toNat (IntKind.wrap .i64 (↑j:Int)))) (g (2*nx n (Int.toNat (IntKind.wrap .i64 (↑j:Int)))))) (C0 (g (2*Int.toNat (IntKind.wrap .i64 (↑j:Int))+1)) (g (2*nx n (Int.toNat (IntKind.wrap .i64
 (↑j:Int)))+1))) (B8 (g (2*Int.toNat (IntKind.wrap .i64 (↑j:Int)))) (g (2*nx n (Int.toNat (IntKind.wrap .i64 (↑j:Int)))))) (B8 (g (2*Int.toNat (IntKind.wrap .i64 (↑j:Int))+1)) (g (2*nx n (Int.toNat (IntKind.wrap .i64 (↑j :
 Int)))+1))))){T2}(t2:T2=(Q4.mk a0 a1 a2 a3)){T3}(t3:T3=(cqV T2 (Q4.mk r0 r1 r2 r3))){T4}(t4:T4=(cl=cl/\cw=cw/\cv=cv/\k=k/\True/\x=x/\y=y/\z=z/\w=w/\(True/\n=n)/\True)){T5}(t5:T5=λ(j:Nat) (pq:Nat×RM)=>(102=102/\
 0=0/\C0 (g (2*Int.toNat (IntKind.wrap .i64 (↑j:Int)))) (g (2*nx n (Int.toNat (IntKind.wrap .i64 (↑j:Int)))))=C0 (g (2*pq.1)) (g (2*nx n (pq.1)))/\C0 (g (2*Int.toNat (IntKind.wrap .i64 (↑j:Int))+1)) (g (2*nx n
 (Int.toNat (IntKind.wrap .i64 (↑j:Int)))+1))=C0 (g (2*pq.1+1)) (g (2*nx n (pq.1)+1))/\B8 (g (2*Int.toNat (IntKind.wrap .i64 (↑j:Int)))) (g (2*nx n (Int.toNat (IntKind.wrap .i64 (↑j:Int)))))=B8 (g (2*pq.1)) (g (2*nx
 n (pq.1)))/\B8 (g (2*Int.toNat (IntKind.wrap .i64 (↑j:Int))+1)) (g (2*nx n (Int.toNat (IntKind.wrap .i64 (↑j:Int)))+1))=B8 (g (2*pq.1+1)) (g (2*nx n (pq.1)+1))/\True)){T6}(t6:T6=(RM.mk (RM.D q) (RM.S q) (RM.F
 q))){T7}(t7:T7=(102=102/\0=0/\a0=a0/\a1=a1/\a2=a2/\a3=a3/\True)){T8}(t8:T8=(102=102/\0=0/\r0=r0/\r1=r1/\r2=r2/\r3=r3/\True)){T9}(t9:T9=λ(i_1:QI)=>(RM.mk (RM.D (QI.q i_1)) (RM.S (QI.q i_1)) (RM.F (QI.q
 i_1)))){T10}(t10:T10=(2*n<=2*n/\∀ (i:Nat),i<2*n->g i=g i)){T11}(t11:T11=(True/\0=0)){T12}(t12:T12=λ(i_1:ApI)=>(L9 (RM.D q) q.2 q.3 1 (slB (q.3 b 1)) (slC (q.3 b 1)) (slL (q.3 b 1)) (slK (q.3 b 1)) 1 [Value.int IntKind.u32
 (IntKind.wrap IntKind.u32 i)] i_1->(i_1.4 b/\2<=i_1.5 b)/\R (Option.some (Ob.mk true 0 (a9.raw ts (ApI.D i_1) i_1.5 (j0 i_1.6 b 1 (Value.slice (Option.some (Addr.mk i_1.1 i_1.2 Option.none)) (slL (q.3 b 1)+1) i_1.3))) 0)) (SV.tup
 []))){T13}(t13:T13=(16-Int.toNat (IntKind.wrap .i64 (dp+(1:Int))))){T14}(t14:T14=(Q4.mk r0 r1 r2 r3)){T15}(t15:T15=(16-Int.toNat dp-1)){T16}(t16:T16=λ(j:Nat×RM)=>(cqV T2 (rcF g n (j.1)))){T17}(t17:T17=λ(i_1:QI)=>(RM.mk (RM.D (QI.q
 i_1)) (QI.q i_1).2 (j0 (j0 (QI.q i_1).3 b 1 (QI.v i_1)) b 0 (Value.bool true)))){T18}(t18:T18=(True/\b=b/\0=0)){T19}(t19:T19=λ(i_1:QI)=>(↑(QI.j i_1):Int)){T20}(t20:T20=(2+Int.toNat T3*1)){T21}(t21:T21=(102=102/\0=0/\qb0 T2
 T3=qb0 T2 T3/\qb1 T2 T3=qb1 T2 T3/\qb2 T2 T3=qb2 T2 T3/\qb3 T2 T3=qb3 T2 T3/\True)){T22}(t22:T22=(isSlN (q.3 b 1)/\appO (RM.D q) q.2 1 4 (slB (q.3 b 1)) (slC (q.3 b 1)) (slL (q.3 b 1)) (slK (q.3 b 1)) 1)){T23}(t23:T23=((0:Int)<=cqV
 T2 T14/\cqV T2 T14<(4:Int))){T24}(t24:T24=λ(j:Nat)=>(cqV T2 (T1 j))){T25}(t25:T25=(T18/\T11/\i=i/\dp=dp/\T11/\cqV T2 T14=cqV T2 T14/\T11/\True)){T26}(t26:T26=λ(i_1:QI)=>((QI.q i_1).3 b 1)){T27}(t27:T27=λ(j:Nat×
 RM)=>((j.2).3 b (2+Int.toNat (T16 j)*1))){T28}(t28:T28=(midOk a0 a2/\midOk a1 a3)){T29}(t29:T29=(T6.3 b 1)){T30}(t30:T30=(Q4.mk (qb0 T2 T3) (qb1 T2 T3) (qb2 T2 T3) (qb3 T2 T3))){T31}(t31:T31=λ(j:Nat×RM)=>(Q4.mk (qb0 T2 (T16 j)) (qb1 T2
 (T16 j)) (qb2 T2 (T16 j)) (qb3 T2 (T16 j)))){T32}(t32:T32=λ(pq:Nat×RM)=>(cqV T2 (rcF g n (pq.1)))){T33}(t33:T33=λ(i_1:QI)=>((QI.q i_1).3 (slB (T26 i_1)) (slC (T26 i_1)+Int.toNat (T19 i_1)*1))){T34}(t34:T34=λ(j:Nat)=>(2+Int.toNat
 (T24 j)*1)):J7 (X11 H) 3 [(14,qL ts cl cw cv k x y z w n g a0 a1 a2 a3 r0 r1 r2 r3 q b i dp)] [(10,⟨RM,λq'=>⟨175,[(0, .pb 0 b 0),(1, .ptr 1 0),(4, .int .i64 i),(5, .int .i64 dp),(9, .ptr 4 0),(12, .int .i64 (cqV ⟨a0,a1,a2,a3⟩ ⟨r0,r1,r2,r3⟩)),(13, .ptr 5 0)],qH5 ts cl cw cv k x y z w n g a0 a1 a2 a3 r0 r1 r2 r3 (qbV ⟨a0,a1,a2,a3⟩ (cqV ⟨a0,a1,a2,a3⟩ ⟨r0,r1,r2,r3⟩)) q',6⟩,λq'=>qcP q g n b ⟨a0,a1,a2,a3⟩ (16-dp.toNat-1) (cqV ⟨a0,a1,a2,a3⟩ ⟨r0,r1,r2,r3⟩).toNat q',λ_=>0⟩)] (j3 Tryz.f117) (q9 Tryz.f117.ntmps [.pb 0 b 0, .ptr 1 0, .agg [.flt .f64 a0, .flt .f64 a1, .flt .f64 a2, .flt .f64 a3], .agg [.flt .f64 r0, .flt .f64 r1, .flt .f64 r2, .flt .f64 r3], .int .i64 i, .int .i64 dp] [(0,rwO ts q),(1,⟨false,150,a0G cl cw cv k x y z w 2 n,0⟩),(2,⟨false,100, .flts .f64 (2*n) g,0⟩)] 3) (r6 (X11 H).G.E.T Tryz.f117.results.toList λS v=>R (Go.Sx.look S.H 0) v)=(
 ((dp==(16:Int))=true->(q.1 b/\1<q.2 b)/\∀(i_1:ApI),T22/\(T12 i_1))/\((dp==(16:Int))=false->(q.1 b/\0<q.2 b/\a9R (q.3 b 0))/\(W9 (q.3 b 0)=true->T28/\((cqV T2 T14==(-1:Int))=true->(q.1 b/\1<T6.2 b)/\∀
 (i_1:ApI),(isSlN T29/\appO (RM.D T6) q.2 1 4 (slB T29) (slC T29) (slL T29) (slK T29) 1)/\(L9 (RM.D T6) q.2 q.3 1 (slB T29) (slC T29) (slL T29) (slK T29) 1 [Value.int IntKind.u32 (IntKind.wrap IntKind.u32 i)] i_1->(i_1.4 b/\2<=i_1.5 b)/\R
 (Option.some (Ob.mk true 0 (a9.raw ts (ApI.D i_1) i_1.5 (j0 i_1.6 b 1 (Value.slice (Option.some (Addr.mk i_1.1 i_1.2 Option.none)) (slL T29+1) i_1.3))) 0)) (SV.tup [])))/\((cqV T2 T14==(-1:Int))=false->(T28/\(0:Int)<=cqV T2 T14/\
 cqV T2 T14<(4:Int))/\(T23/\(q.1 b/\2+Int.toNat T3*1<T6.2 b)/\a2Z (T6.3 b T20)/\(O1 (T6.3 b T20)=true->∀(i_1:Nat),¬q.1 i_1->T23/\((b=i_1∨q.1 b)/\2+Int.toNat T3*1+1<=H4 (RM.D T6) q.2 i_1 6 b)/\∃(pq:RM),
 qcP q g n b T2 T15 (Int.toNat T3) pq/\T25/\True/\(0=0/\0=0/\ts=ts/\j0 (G1 (RM.D T6) q.3 i_1 (rz tys 191)) b T20 (Value.pointer (Option.some (Addr.mk i_1 0 Option.none)))=pq.3/\H4 (RM.D T6) q.2 i_1 6=pq.2/\I2 (RM.D T6) i_1
 = RM.D pq)/\True/\T4/\True/\T10/\True/\T7/\True/\T8/\True/\T21/\True)/\(O1 (T6.3 b T20)=false->∃(pq:RM),qcP q g n b T2 T15 (Int.toNat T3) pq/\T25/\True/\(0=0/\0=0/\ts=ts/\q.3=pq.3/\q.2=pq.2/\RM.D T6=RM.D pq)/\
 True/\T4/\True/\T10/\True/\T7/\True/\T8/\True/\T21/\True))/\∀(j:RM),qcP q g n b T2 T15 (Int.toNat T3) j->∀(i_1:RM),T23/\(j.1 b/\2+Int.toNat T3*1<j.2 b)/\((0=ptC (j.3 b T20)/\2*n=2*n/\((0:Int)<=IntKind.wrap
 .i64 (dp+(1:Int))/\IntKind.wrap .i64 (dp+(1:Int))<=(16:Int)/\2*T13+a0Y (RM.mk (RM.D j) j.2 j.3) (ptB (j.3 b T20))<H)/\((0:Int)<=i/\i<(↑n:Int))/\qiO (RM.mk (RM.D j) j.2 j.3) g n (ptB (j.3 b T20)) T30 T14 (Int.toNat i)
 T13)/\a0J (j.3 b T20))/\true=true/\(qiP (RM.mk (RM.D j) j.2 j.3) g n (ptB (j.3 b T20)) T30 T13 (Int.toNat i) i_1->R (Option.some (Ob.mk true 0 (a9.raw ts (RM.D i_1) i_1.2 i_1.3) 0)) (SV.tup []))))/\(W9 (q.3 b 0)=false->(q.1 b/\1<q.2
 b)/\isSlN (q.3 b 1)/\(((↑(slL (q.3 b 1)):Int)==(32:Int))=true->(∃(pq:QI),qlI q g n b T2 T15 pq/\(T18/\T11/\i=i/\dp=dp/\T11/\T11/\QI.v pq=Value.slice Option.none 0 0/\0=(↑(QI.j pq):Int)/\True)/\True/\(0=0/\0=0
 /\ts=ts/\q.3=(QI.q pq).3/\q.2=(QI.q pq).2/\RM.D q=RM.D (QI.q pq))/\True/\T4/\True/\T10/\True/\T7/\True/\T8/\True)/\∀(i_1:QI),qlI q g n b T2 T15 i_1->((QI.q i_1).1 b/\1<(QI.q i_1).2 b)/\isSlN (T26 i_1)/\(decide ((T19
 i_1)<(↑(slL (T26 i_1)):Int))=true->(((QI.q i_1).1 b/\1<(QI.q i_1).2 b)/\(Go.Sx.isSl (T26 i_1)/\0<=(T19 i_1)/\(T19 i_1)<(↑(slL (T26 i_1)):Int))/\((QI.q i_1).1 (slB (T26 i_1))/\slC (T26 i_1)+Int.toNat (T19 i_1)*1<(QI.q i_1).2
 (slB (T26 i_1))/\A1 IntKind.u32 (T33 i_1))/\∃(j:Nat),qlX q g n b T2 T15 i_1 j/\(T18/\T11/\i=i/\dp=dp/\T11/\T11/\(True/\QI.v i_1=QI.v i_1)/\(T19 i_1)=(T19 i_1)/\m8 (T33 i_1)=(↑j:Int)/\True)/\True/\(0=0/\0=0/\
 ts=ts/\(QI.q i_1).3=(QI.q i_1).3/\(QI.q i_1).2=(QI.q i_1).2/\RM.D (QI.q i_1)=RM.D (QI.q i_1))/\True/\T4/\True/\T10/\True/\T7/\True/\T8/\True)/\∀(j:Nat),qlX q g n b T2 T15 i_1 j->(2*n=2*n/\(0:Int)<=IntKind.wrap .i64
 (↑j:Int)/\IntKind.wrap .i64 (↑j:Int)<(↑n:Int)/\n<=1000000)/\T28/\((cqV T2 (T1 j)==(-1:Int))=true->∀(i_2:ApI),(isSlN (QI.v i_1)/\appO (RM.D (T9 i_1)) (QI.q i_1).2 1 4 (slB (QI.v i_1)) (slC (QI.v i_1)) (slL (QI.v i_1)) (slK
 (QI.v i_1)) 1)/\(L9 (RM.D (T9 i_1)) (QI.q i_1).2 (QI.q i_1).3 1 (slB (QI.v i_1)) (slC (QI.v i_1)) (slL (QI.v i_1)) (slK (QI.v i_1)) 1 [Value.int IntKind.u32 (↑j:Int)] i_2->∃(pq:QI),qlI q g n b T2 T15 pq/\32-QI.j pq<32-QI.j i_1/\(T18
 /\T11/\i=i/\dp=dp/\T11/\T11/\(True/\QI.v pq=Value.slice (Option.some (Addr.mk i_2.1 i_2.2 Option.none)) (slL (QI.v i_1)+1) i_2.3)/\IntKind.wrap .i64 ((T19 i_1)+1)=(↑(QI.j pq):Int)/\True)/\True/\(0=0/\0=0/\ts=ts/\i_2.6
 = (QI.q pq).3/\i_2.5=(QI.q pq).2/\ApI.D i_2=RM.D (QI.q pq))/\True/\T4/\True/\T10/\True/\T7/\True/\T8/\True))/\((cqV T2 (T1 j)==(-1:Int))=false->(T28/\(0:Int)<=cqV T2 (T1 j)/\cqV T2 (T1 j)<(4:Int))/\(((0:Int)<=cqV
 T2 (T1 j)/\cqV T2 (T1 j)<(4:Int))/\((QI.q i_1).1 b/\2+Int.toNat (T24 j)*1<(T9 i_1).2 b)/\a2Z ((T9 i_1).3 b (T34 j))/\(O1 ((T9 i_1).3 b (T34 j))=true->∀(i_2:Nat),¬(QI.q i_1).1 i_2->((0:Int)<=cqV T2 (T1 j)/\cqV T2 (T1 j)
 < (4:Int))/\((b=i_2∨(QI.q i_1).1 b)/\2+Int.toNat (T24 j)*1+1<=H4 (RM.D (T9 i_1)) (QI.q i_1).2 i_2 6 b)/\∃(pq:Nat×RM),qlY q g n b T2 T15 i_1 (pq.1) (pq.2)/\(T18/\T11/\i=i/\dp=dp/\T11/\T11/\(True/\QI.v i_1=QI.v
 i_1)/\(T19 i_1)=(T19 i_1)/\(↑j:Int)=(↑(pq.1):Int)/\T11/\cqV T2 (T1 j)=cqV T2 (rcF g n (Prod.fst pq))/\T11/\True)/\True/\(0=0/\0=0/\ts=ts/\j0 (G1 (RM.D (T9 i_1)) (QI.q i_1).3 i_2 (rz tys 191)) b (T34 j) (Value.pointer
 (Option.some (Addr.mk i_2 0 Option.none)))=(pq.2).3/\H4 (RM.D (T9 i_1)) (QI.q i_1).2 i_2 6=(pq.2).2/\I2 (RM.D (T9 i_1)) i_2=RM.D (pq.2))/\True/\T4/\True/\T10/\True/\T7/\True/\T8/\True/\(T5 j pq)/\True/\(102=102/\0=0/\
 qb0 T2 (T24 j)=qb0 T2 (T32 pq)/\qb1 T2 (T24 j)=qb1 T2 (cqV T2 (rcF g n (Prod.fst pq)))/\qb2 T2 (T24 j)=qb2 T2 (T32 pq)/\qb3 T2 (T24 j)=qb3 T2 (T32 pq)/\True)/\True)/\(O1 ((T9 i_1).3 b (T34 j))=false->∃(pq:Nat×RM),qlY q g n b
 T2 T15 i_1 (pq.1) (pq.2)/\(T18/\T11/\i=i/\dp=dp/\T11/\T11/\(True/\QI.v i_1=QI.v i_1)/\(T19 i_1)=(T19 i_1)/\(↑j:Int)=(↑(pq.1):Int)/\T11/\cqV T2 (T1 j)=cqV T2 (rcF g n (pq.1))/\T11/\True)/\True/\(0=0/\0=0/\ts=ts
 /\(QI.q i_1).3=(pq.2).3/\(QI.q i_1).2=(pq.2).2/\RM.D (T9 i_1)=RM.D (pq.2))/\True/\T4/\True/\T10/\True/\T7/\True/\T8/\True/\(T5 j pq)/\True/\(102=102/\0=0/\qb0 T2 (T24 j)=qb0 T2 (cqV T2 (rcF g n (Prod.fst pq)))/\qb1 T2
 (T24 j)=qb1 T2 (T32 pq)/\qb2 T2 (T24 j)=qb2 T2 (T32 pq)/\qb3 T2 (T24 j)=qb3 T2 (cqV T2 (rcF g n (Prod.fst pq)))/\True)/\True))/\∀(j:Nat×RM),qlY q g n b T2 T15 i_1 (j.1) (j.2)->∀(i_2:RM),((0:Int)<=cqV T2 (rcF g n (j.1))/\cqV
 T2 (rcF g n (j.1))<(4:Int))/\((j.2).1 b/\2+Int.toNat (T16 j)*1<(j.2).2 b)/\((0=ptC (T27 j)/\2*n=2*n/\((0:Int)<=IntKind.wrap .i64 (dp+(1:Int))/\IntKind.wrap .i64 (dp+(1:Int))<=(16:Int)/\2*T13+a0Y (RM.mk
 (RM.D (j.2)) (j.2).2 (j.2).3) (ptB (T27 j))<H)/\((0:Int)<=IntKind.wrap .i64 (↑(j.1):Int)/\IntKind.wrap .i64 (↑(j.1):Int)<(↑n:Int))/\qiO (RM.mk (RM.D (j.2)) (j.2).2 (j.2).3) g n (ptB (T27 j)) (T31 j) (Q4.mk (C0 (g (2*j.1)) (g (2 *
 nx n (j.1)))) (C0 (g (2*j.1+1)) (g (2*nx n (j.1)+1))) (B8 (g (2*j.1)) (g (2*nx n (j.1)))) (B8 (g (2*j.1+1)) (g (2*nx n (j.1)+1)))) (Int.toNat (IntKind.wrap .i64 (↑(j.1):Int))) T13)/\a0J (T27 j))/\true=true/\(qiP
 (RM.mk (RM.D (j.2)) (j.2).2 (j.2).3) g n (ptB ((j.2).3 b (2+Int.toNat (cqV T2 (rcF g n (Prod.fst j)))*1))) (T31 j) T13 (Int.toNat (IntKind.wrap .i64 (↑(j.1):Int))) i_2->∃(pq:QI),qlI q g n b T2 T15 pq/\32-QI.j pq<32-QI.j i_1/\(T18/\
 T11/\i=i/\dp=dp/\T11/\T11/\(True/\QI.v i_1=QI.v pq)/\IntKind.wrap .i64 ((T19 i_1)+1)=(↑(QI.j pq):Int)/\True)/\True/\(0=0/\0=0/\ts=ts/\i_2.3=(QI.q pq).3/\i_2.2=(QI.q pq).2/\RM.D i_2=RM.D (QI.q pq))/\True/\T4/\
 True/\T10/\True/\T7/\True/\T8/\True)))/\(decide ((T19 i_1)<(↑(slL (T26 i_1)):Int))=false->(((QI.q i_1).1 b/\2<=(QI.q i_1).2 b)/\Value.oneCell' (QI.v i_1)=true)/\((QI.q i_1).1 b/\1<=(QI.q i_1).2 b)/\∀(i_2:RM),(0=0/\2*n
 = 2*n/\((0:Int)<=dp/\dp<=(16:Int)/\2*(16-Int.toNat dp)+a0Y (T17 i_1) b<H)/\((0:Int)<=i/\i<(↑n:Int))/\qiO (T17 i_1) g n b T2 T14 (Int.toNat i) (16-Int.toNat dp))/\(qiP (T17 i_1) g n b T2 (16-Int.toNat dp) (Int.toNat
 i) i_2->R (Option.some (Ob.mk true 0 (a9.raw ts (RM.D i_2) i_2.2 i_2.3) 0)) (SV.tup []))))/\(((↑(slL (q.3 b 1)):Int)==(32:Int))=false->(q.1 b/\1<q.2 b)/\∀(i_1:ApI),T22/\(T12 i_1))))):=by subst t1 t2 t3 t4 t5 t6 t7 t8 t9 t10 t11 t12 t13 t14 t15 t16 t17 t18 t19 t20 t21 t22 t23 t24 t25 t26 t27 t28 t29 t30 t31 t32 t33 t34;kernel_rfl
theorem c9Z(H:Nat)(ih:u6 Tryz.prog 117 (l9 RM ⟨default⟩ (a6i H))):u6 Tryz.prog 117 (l9 (RM) ⟨default⟩ (c3K (H+1))):=by
 refine A7 (x11 H ih) Tryz.func117 rfl (by kernel_rfl) λargs=>?_
 unfold c3K;split
 ·rename_i nn b c s a0 a1 a2 a3 r0 r1 r2 r3 i dp;intro o0;try dsimp only
  split
  ·rename_i ts q hm0;intro o1;try dsimp only
   split
   ·rename_i cl cw cv k x y z w p n hm1;intro o2;try dsimp only
    split
    ·rename_i m2 g hm2;intro ho;replace ho:0=c/\m2=2*n/\((0<=dp/\dp<=16/\2*(16-dp.toNat)+a0Y q b<(H+1))/\(0<=i/\i<n)/\qiO q g n b ⟨a0,a1,a2,a3⟩ ⟨r0,r1,r2,r3⟩ i.toNat (16-dp.toNat)):=ho;obtain⟨heq0,hsz2,ho⟩:=ho;subst heq0;subst hsz2
     refine⟨?_,Nat.succ_pos _,ts,λ(j:RM)=>j,λ(j:RM)=>.tup [],λ_=>rfl,?_,_,_,(c0b (G6 3 ts (λ(j:RM)=>qiP q g n b ⟨a0,a1,a2,a3⟩ (16-dp.toNat) i.toNat j) (λ(j:RM)=>j) (λ(j:RM)=>.tup [])) H ts q b cl cw cv k x y z w p n a0 a1 a2 a3 r0 r1 r2 r3 i dp g rfl rfl rfl rfl rfl rfl rfl rfl rfl rfl rfl rfl rfl rfl rfl rfl rfl rfl rfl rfl rfl rfl rfl rfl rfl rfl rfl rfl rfl rfl rfl rfl rfl rfl).mpr ?_⟩
     ·refine g9 rfl ⟨λ_=>rfl,?_,⟨trivial,z9 hm0,⟨trivial,O6 hm1 a8,⟨trivial,(r9 hm2).1,trivial⟩⟩⟩⟩;simp[j9,o8,p8,r8,o9,p7,nth,a8]
     ·intro j _;rfl
     ·obtain⟨⟨dp0,dp16,hK⟩,⟨i0,i1⟩,⟨hd16,hQ,hn⟩,hr,hit,k0,hk,hl⟩:=ho;obtain⟨t,rfl⟩:∃ t:Nat,i=(t:Nat):=⟨i.toNat,by omega⟩;obtain⟨d,rfl,hd⟩:∃ d:Nat,dp=((16-d:Nat):Int)/\d<=16:=⟨16-dp.toNat,by omega,by omega⟩;have hdd:16-(16-d)=d:=by omega
      simp only[hdd,Int.toNat_natCast]at hK hd16 hQ hr hit hk;obtain⟨c1,c2,c3,c4,c5⟩:=hk.cells;have hu:IntKind.wrap .u32 (t:Int)=t:=by show (t:Int) % 4294967296=_;omega
      simp only[true_and,and_true,eq_self,Int.toNat_natCast,Nat.mul_one,decide_eq_true_eq,decide_eq_false_iff_not,implies_true];simp only[hdd,hu,hr];refine⟨λh=>?_,λh=>⟨⟨c1,by omega,c3⟩,λhs=>?_,λhs=>?_⟩⟩
      ·have h0:d=0:=by
        have:(((16-d:Nat):Int))=16:=by simpa using h
        omega
       subst h0;refine⟨⟨c1,by omega⟩,λj=>⟨⟨c4,c5⟩,λhp=>?_⟩⟩;obtain⟨e1,e2⟩:=c3R hk hit hp;exact⟨e1,_,e2,rfl,trivial⟩
      ·have h0:d≠0:=λe=>by rw[e]at h;exact absurd h (by decide)
       obtain⟨e,rfl⟩:∃ e,d=e+1:=⟨d-1,by omega⟩;have hmid:midOk a0 a2/\midOk a1 a3:=hQ.midOk (by omega);generalize (⟨a0,a1,a2,a3⟩:Q4)=A at *;refine⟨hmid,λhc=>⟨⟨c1,by omega⟩,λj=>⟨⟨c4,c5⟩,λhp=>?_⟩⟩,λhc=>?_⟩
       ·obtain⟨e1,e2⟩:=b6s hk (.inl hs) hit hp;exact⟨e1,_,e2,rfl,trivial⟩
       obtain⟨⟨hc0,hc4⟩,hcI⟩:(0<=cqV A (rcF g n t)/\cqV A (rcF g n t)<4)/\inQ (qbV A (cqV A (rcF g n t))) (rcF g n t):=by
        rcases b4e (by omega) hQ hit.2.1 hit.2.2 with h1|h1
        ·rw[h1]at hc;exact absurd hc (by decide)
        ·exact h1
       refine⟨⟨hmid,hc0,hc4⟩,⟨⟨hc0,hc4⟩,⟨c1,by omega⟩,hk.kidc (by omega),λhn z hz=>?_,λhn=>⟨q,c4M hk hs (by omega) hn,⟨rfl,rfl,rfl⟩,Nat.le_refl _⟩⟩,?_⟩
       ·simp only[M4 hz,M5 hz];refine⟨⟨hc0,hc4⟩,⟨.inr c1,?_⟩,_,c4s hk hs (by omega) hn hz,⟨rfl,rfl,rfl⟩,Nat.le_refl _⟩;have:b≠z:=λe=>hz (e▸c1)
        simp only[A8];rw[if_neg this];omega
       rintro q' ⟨k1,v,E,ks,y,hq⟩;obtain rfl:k1=k0:=hk.uniq hq.hk;obtain⟨⟨d1,d2⟩,d3,d4,d5⟩:=b6n hq hl;have hw:IntKind.i64.wrap (((16-(e+1):Nat):Int)+1)=((16-e:Nat):Int):=by rw[j5 (by omega) (by omega)];omega
       have hce:(((cqV A (rcF g n t)).toNat:Nat):Int)=cqV A (rcF g n t):=by omega
       have hee:16-(16-e)=e:=by omega
       rw[hce]at d4;have hsp:=a9G q' y.b;intro q'';simp only[hw,d3,hee,Int.toNat_natCast,ptB,ptC];refine⟨⟨hc0,hc4⟩,⟨d1,by omega⟩,⟨⟨trivial,⟨by omega,by omega,?_⟩,⟨by omega,by omega⟩,⟨⟨by omega,hQ.sub (by omega) _,hn⟩,rfl,⟨hit.1,hit.2.1,hcI⟩,y,d4,d5⟩⟩,rfl⟩,λhP=>⟨_,c5m hq hl (by rw[hce];exact hP),rfl,trivial⟩⟩;show 2*e+a0Y q' y.b<H;omega
      ·have h0:d≠0:=λe=>by rw[e]at h;exact absurd h (by decide)
       obtain⟨e,rfl⟩:∃ e,d=e+1:=⟨d-1,by omega⟩;have hmid:midOk a0 a2/\midOk a1 a3:=hQ.midOk (by omega);have hrc:∀ j,Q4.mk (C0 (g (2*j)) (g (2*nx n j))) (C0 (g (2*j+1)) (g (2*nx n j+1))) (B8 (g (2*j)) (g (2*nx n j))) (B8 (g (2*j+1)) (g (2*nx n j+1)))=rcF g n j:=λ_=>rfl
       generalize (⟨a0,a1,a2,a3⟩:Q4)=A at *;refine⟨⟨c1,by omega⟩,c4,λhl2=>⟨⟨_,b9O hk hs ?_,⟨rfl,rfl⟩,⟨rfl,rfl,rfl⟩,Nat.le_refl _⟩,?_⟩,λhl2=>⟨⟨c1,by omega⟩,λj=>⟨⟨c4,c5⟩,λhp=>?_⟩⟩⟩
       ·have:((slL (q.F b 1):Nat):Int)=32:=by simpa using hl2
        omega
       ·rintro⟨sj,sv,sq⟩ ⟨k1,v,E,N,ks,hq,hne⟩;obtain rfl:k1=k0:=hk.uniq hq.hk;obtain⟨⟨b1,b2⟩,b3,b4,b5⟩:=a9V hq;dsimp only at b1 b2 b3;simp only[b3,b5];have hw1:IntKind.i64.wrap (((16-(e+1):Nat):Int)+1)=((16-e:Nat):Int):=by rw[j5 (by omega) (by omega)];omega
        have hee:16-(16-e)=e:=by omega
        refine⟨⟨b1,by omega⟩,b4,λhj=>⟨?_,?_⟩,λhj=>?_⟩
        ·obtain⟨x,x1,x2,x3,x4⟩:=c0J hq (by show sj<32;omega);dsimp only at x1 x2 x3 x4;exact⟨⟨b1,by omega⟩,⟨x2,by omega,by omega⟩,⟨x3.1,x3.2,by rw[x4];rfl⟩,x,⟨k1,v,E,N,ks,hq,x1,hne⟩,by rw[x4];rfl,Nat.le_refl _⟩
        ·rintro j ⟨k2,v2,E2,N2,ks2,hq2,hx,hne2⟩;obtain rfl:k2=k1:=hk.uniq hq2.hk;obtain⟨o1,o2⟩:=b4o hq2 hx;have hjn:j<n:=o1.1;have hw:IntKind.i64.wrap (j:Int)=j:=j5 (by omega) (by omega);have hcs:=b4e (by omega) hQ o1.2.1 o1.2.2;have hlen:=a8y hq2;have hNn:=hq2.w.n;dsimp only at hNn o2 hx;have hws:IntKind.i64.wrap ((sj:Int)+1)=((sj+1:Nat):Int):=by rw[j5 (by omega) (by omega)];omega
         simp only[hw,Int.toNat_natCast,hrc,hws];refine⟨⟨by omega,by omega,hn⟩,hmid,λhc=>λi=>⟨hq2.w.appO (by omega),λhp=>⟨_,c0s hq2 hne2 hx hp,by show 32-(sj+1)<32-sj;omega,⟨rfl,rfl⟩,⟨rfl,rfl,rfl⟩,Nat.le_refl _⟩⟩,λhc=>?_⟩
         obtain⟨⟨hc0,hc4⟩,hcI⟩:(0<=cqV A (rcF g n j)/\cqV A (rcF g n j)<4)/\inQ (qbV A (cqV A (rcF g n j))) (rcF g n j):=by
          rcases hcs with h1|h1
          ·rw[h1]at hc;exact absurd hc (by decide)
          ·exact h1
         have hck:=hq2.p.a.kid (c:=(cqV A (rcF g n j)).toNat) (by omega);refine⟨⟨hmid,hc0,hc4⟩,⟨⟨hc0,hc4⟩,⟨b1,by omega⟩,?_,λhnl z hz=>?_,λhnl=>⟨(j,sq),c4t hq2 hne2 hx ⟨hc0,hc4,hcI⟩ hnl,⟨rfl,rfl⟩,⟨rfl,rfl,rfl⟩,Nat.le_refl _,⟨rfl,rfl,rfl,rfl⟩,⟨rfl,rfl,rfl,rfl⟩⟩⟩,?_⟩
         ·obtain⟨o,_,h5⟩:=hck;dsimp only at h5;rw[h5];exact a3V o
         ·simp only[M4 hz,M5 hz];have hbz:b≠z:=λe=>hz (e▸b1)
          refine⟨⟨hc0,hc4⟩,⟨.inr b1,by simp only[A8];rw[if_neg hbz];omega⟩,(j,_),c4r hq2 hne2 hx ⟨hc0,hc4,hcI⟩ hnl hz,⟨rfl,rfl⟩,⟨rfl,rfl,rfl⟩,Nat.le_refl _,⟨rfl,rfl,rfl,rfl⟩,⟨rfl,rfl,rfl,rfl⟩⟩
         rintro⟨j2,q2⟩ ⟨k3,v3,E3,N3,ks3,y,hq3,hx3,⟨hc0,hc4,hcI⟩,hy,hne3⟩;dsimp only at hx3 hy hc0 hc4 hcI ⊢;obtain rfl:k3=k2:=hk.uniq hq3.hk;obtain⟨o3,_⟩:=b4o (s:=⟨sj,sv,q2⟩) hq3 hx3;have hlen3:=a8y hq3;have hj2:j2<n:=o3.1;have hw2:IntKind.i64.wrap (j2:Int)=j2:=j5 (by omega) (by omega);obtain⟨d3,d4⟩:=hq3.p.sub hy (by omega);have hyl:=a9d hy;have hce:(((cqV A (rcF g n j2)).toNat:Nat):Int)=cqV A (rcF g n j2):=by omega
         have hsp:=a9G q2 y.b;have hsp0:a0Y q b=1:=by unfold a0Y;rw[hs];rfl
         have d3':q2.F b (2+(cqV A (rcF g n j2)).toNat)=.pointer (some ⟨y.b,0,none⟩):=d3;have d2':q2.S b=6:=hq3.p.a.S;simp only[hw1,hw2,d3',hee,Int.toNat_natCast,ptB,ptC];rw[hce]at d4;refine λq4=>⟨⟨hc0,hc4⟩,⟨hq3.p.a.D,by omega⟩,⟨⟨trivial,⟨by omega,by omega,?_⟩,⟨by omega,by omega⟩,⟨⟨by omega,hQ.sub (by omega) _,hn⟩,rfl,⟨o3.1,o3.2.1,hcI⟩,y,d4,by omega⟩⟩,rfl⟩,λhP=>⟨_,b6O (s:=⟨sj,sv,q2⟩) hq3 hx3 hy hne3 (by rw[hce];exact hP),by show 32-(sj+1)<32-sj;omega,⟨rfl,rfl⟩,⟨rfl,rfl,rfl⟩,Nat.le_refl _⟩⟩
         show 2*e+a0Y q2 y.b<H;omega
        ·obtain⟨k2,f1,f2,f3⟩:=c4z hq hne (by show ¬sj<32;omega);dsimp only at f1 f2 f3
         have hsv:sv.oneCell'=true:=by
          rcases hq.w.sl with e1|e1
          ·have e1:sv=_:=e1;rw[e1];rfl
          ·have e1:sv=_:=e1;rw[e1];rfl
         have hsp0:a0Y q b=1:=by unfold a0Y;rw[hs];rfl
         have hsp1:a0Y ⟨sq.D,sq.S,j0 (j0 sq.F b 1 sv) b 0 (.bool true)⟩ b=0:=by
          have e0:W9 ((j0 (j0 sq.F b 1 sv) b 0 (.bool true)) b 0)=true:=by
           rw[show (j0 (j0 sq.F b 1 sv) b 0 (.bool true)) b 0=.bool true from v9];rfl
          exact if_pos e0
         refine⟨⟨⟨b1,by omega⟩,hsv⟩,⟨b1,by omega⟩,λq4=>⟨⟨⟨by omega,by omega,by rw[hsp1];omega⟩,⟨by omega,by omega⟩,⟨⟨by omega,hQ,hn⟩,rfl,hit,k2,f1,f2⟩⟩,λhP=>⟨_,f3 _ _ hP,rfl,trivial⟩⟩⟩
       ·have e0:slL (q.F b 1)≠32:=λe1=>by rw[e1]at hl2;exact absurd hl2 (by decide)
        obtain⟨e1,e2⟩:=b6s hk (.inr e0) hit hp;exact⟨e1,_,e2,rfl,trivial⟩
    ·trivial
   ·trivial
  ·trivial
 ·trivial
theorem b5s:u6 Tryz.prog 117 (l9 RM ⟨default⟩ (a6i 0)):=by
 refine a1H x0 Tryz.func117 rfl (by kernel_rfl) λargs=>?_
 unfold a6i;split
 ·rename_i nn b c s a0 a1 a2 a3 r0 r1 r2 r3 i dp;intro o0;try dsimp only
  split
  ·intro o1;try dsimp only
   split
   ·intro o2;try dsimp only
    split
    ·intro ho;exfalso;obtain⟨_,_,⟨_,_,h2⟩,_⟩:=ho;omega
    ·trivial
   ·trivial
  ·trivial
 ·trivial
theorem b4r:∀ H,u6 Tryz.prog 117 (l9 RM ⟨default⟩ (a6i H))
 | 0=>b5s
 | H+1=>c9Z H (b4r H)
structure EQ where
 a:Nat
 e:Nat
 its:List Nat
def c1i:Option EQ->List Nat
 | none=>[]
 | some k=>k.its
def qsz{α:Type}:Option α->Nat
 | none=>1
 | some _=>5
def J4{α:Type}(ks:List (Option α))(t:Nat):Nat:=((ks.take t).map qsz).sum
structure b2U (g:Nat->Int) (a w:Nat) (E:List Nat):Prop where
 hw:w=1∨w=2∨w=4
 hg:g a=(w:Nat)
 hn:leN g (a+1) w=(E.length:Nat)
 hi:∀(j x:Nat),E[j]? = some x->leN g (a+1+w+w*j) w=(x:Nat)
def a8H(g : Nat -> Int)(R : Nat -> Q4)(m : Nat) : Nat -> Nat -> Nat -> Q4 -> List Nat -> Prop
 | 0, a, e, Q, its => ∃ w, b2U g a w its /\ a + 2 + w + w * its.length <= e /\ g (a + 1 + w + w * its.length) = 0 /\ ∀ x ∈ its, a1u R m Q x
 | d + 1, a, e, Q, its => ∃(w : Nat)(E : List Nat)(ks : List (Option EQ)), b2U g a w E /\ its = E ++ ks.flatMap c1i /\ (∀ x ∈ E, a1u R m Q x) /\
     ((ks = [] /\ a + 2 + w + w * E.length <= e /\ g (a + 1 + w + w * E.length) = 0) ∨
      (ks.length = 4 /\ g (a + 1 + w + w * E.length) = 1 /\ a + 2 + w + w * E.length + J4 ks 4 <= e /\ (∀ t, ks[t]? = some none -> g (a + 2 + w + w * E.length + J4 ks t) = 0) /\
       ∀ t k, ks[t]? = some (some k) -> g (a + 2 + w + w * E.length + J4 ks t) = 1 /\ leN g (a + 2 + w + w * E.length + J4 ks t + 1) 4 = (k.a : Nat) /\
         a + 2 + w + w * E.length + J4 ks 4 <= k.a /\ k.e <= e /\ a8H g R m d k.a k.e (qbV Q (t : Int)) k.its))
theorem b2U.congr{g g':Nat->Int}{a w:Nat}{E:List Nat}(h:b2U g a w E)(hg:∀ p,a<=p->p<a+1+w+w*E.length->g' p=g p):b2U g' a w E where
 hw:=h.hw
 hg:=by rw[hg _ (by omega) (by omega)];exact h.hg
 hn:=by rw[J2 λi hi=>hg _ (by omega) (by omega)];exact h.hn
 hi:=λj x hj=>by
  have hlt:=(List.getElem?_eq_some_iff.1 hj).1;have hm:w*(j+1)<=w*E.length:=Nat.mul_le_mul_left w hlt;rw[Nat.mul_add,Nat.mul_one]at hm;rw[J2 λi hi=>hg _ (by omega) (by omega)];exact h.hi j x hj
theorem b3t{α:Type}:∀(ks:List (Option α))(t s:Nat),t<=s->J4 ks t<=J4 ks s
 | [],t,s,_=>by simp[J4]
 | o :: r,0,s,_=>by simp[J4]
 | o :: r,t+1,0,h=>absurd h (by omega)
 | o :: r,t+1,s+1,h=>by
  have:=b3t r t s (by omega);simp only[J4,List.take_succ_cons,List.map_cons,List.sum_cons]at *;omega
theorem a8i{α:Type}{ks:List (Option α)}{t:Nat}{o:Option α}(h:ks[t]? = some o):J4 ks (t+1)=J4 ks t+qsz o:=by
 unfold J4;rw[List.take_add_one,h];simp
theorem a2y{g g':Nat->Int}{R:Nat->Q4}{m:Nat}:∀ {d a e:Nat} {Q:Q4} {its:List Nat},a8H g R m d a e Q its->(∀ p,a<=p->p<e->g' p=g p)->a8H g' R m d a e Q its
 | 0,a,e,Q,its,⟨w,h1,h2,h3,h4⟩,hg=>⟨w,h1.congr λp p1 p2=>hg p p1 (by omega),h2,by rw[hg _ (by omega) (by omega)];exact h3,h4⟩
 | d+1,a,e,Q,its,⟨w,E,ks,h1,h2,h3,h4⟩,hg=>by
  have hlo:a+2+w+w*E.length<=e:=by
   rcases h4 with h4|h4
   ·exact h4.2.1
   ·have:=h4.2.2.1;omega
  refine⟨w,E,ks,h1.congr λp p1 p2=>hg p p1 (by omega),h2,h3,?_⟩;rcases h4 with⟨k1,k2,k3⟩|⟨k1,k2,k3,k4,k5⟩
  ·exact .inl ⟨k1,k2,by rw[hg _ (by omega) (by omega)];exact k3⟩
  ·have hsz:∀ {t:Nat} {o:Option EQ},ks[t]? = some o->J4 ks t+qsz o<=J4 ks 4:=fun {t o} ht=>by
    have:=(List.getElem?_eq_some_iff.1 ht).1;rw[<-a8i ht];exact b3t ks _ _ (by omega)
   refine .inr ⟨k1,by rw[hg _ (by omega) (by omega)];exact k2,k3,λt ht=>?_,λt k ht=>?_⟩
   ·have:=hsz ht;simp only[qsz]at this;rw[hg _ (by omega) (by omega)];exact k4 t ht
   ·have:=hsz ht;simp only[qsz]at this;obtain⟨l1,l2,l3,l4,l5⟩:=k5 t k ht;refine⟨by rw[hg _ (by omega) (by omega)];exact l1,by rw[J2 λi hi=>hg _ (by omega) (by omega)];exact l2,l3,l4,a2y l5 λp p1 p2=>hg p (by omega) (by omega)⟩
def qBy(d n:Nat):Nat:=26*(1+d*n)+4*n
def kBy(d:Nat):Option QK->Nat
 | none=>0
 | some x=>qBy d x.its.length
theorem a9t{d:Nat}:∀ {ks:List (Option QK)},(∀ x,some x∈ks->1<=x.its.length)->(ks.map (kBy d)).sum<=26*((d+1)*(ks.flatMap M1).length)+4*(ks.flatMap M1).length
 | [],_=>by simp
 | none :: r,h=>by
  have:=a9t (d:=d) (ks:=r) λx hx=>h x (List.mem_cons_of_mem _ hx)
  simpa [kBy,M1]using this
 | some x :: r,h=>by
  have h1:=a9t (d:=d) (ks:=r) λx hx=>h x (List.mem_cons_of_mem _ hx)
  have h2:=h x (by simp);simp only[List.map_cons,List.sum_cons,List.flatMap_cons,List.length_append,kBy,M1,qBy,Nat.mul_add,Nat.add_mul]at *;omega
theorem b0x{d:Nat}{ks:List (Option QK)}(h:kne ks)(E:List Nat):26+4*E.length+(ks.map (kBy d)).sum<=qBy (d+1) (E++ks.flatMap M1).length:=by
 have h1:=a9t (d:=d) (ks:=ks) λx hx=>by
  obtain⟨j,hj,e⟩:=List.getElem_of_mem hx;exact h j x (by rw[List.getElem?_eq_getElem hj,e])
 have h2:(d+1)*(ks.flatMap M1).length<=(d+1)*(E++ks.flatMap M1).length:=Nat.mul_le_mul_left _ (by simp);simp only[qBy,List.length_append]at *;omega
structure qmA (q:RM) (R:Nat->Q4) (m d b0:Nat) (Q:Q4) (k:QK) (b:Nat):Prop where
 t:isQT q R m d Q k
 kb:k.b=b0
 nd:k.fp.Nodup
 le:k.its.length<=1000
 bf:b∉k.fp
 lt:∀ x∈k.its,x<4294967296
def qnL(q:RM)(b0:Nat):Nat:=slL (q.F b0 1)
def qit(q:RM)(b0 t:Nat):Int:=m8 (q.F (slB (q.F b0 1)) (slC (q.F b0 1)+t))
def a4j(q:RM)(b0 t:Nat):Bool:=O1 (q.F b0 (2+t))
def qhI(q:RM)(b0:Nat)(w:Int)(j:Nat):List Int:=[w]++byL (qnL q b0:Nat) w.toNat++(List.range j).flatMap λt=>byL (qit q b0 t) w.toNat
def qfl(q:RM)(b0 t:Nat):List Int:=if a4j q b0 t=true then [0]else [1,0,0,0,0]
def qhF(q:RM)(b0:Nat)(w:Int)(j:Nat):List Int:=qhI q b0 w (qnL q b0)++[1]++(List.range j).flatMap (qfl q b0)
def qmP(q:RM)(b0:Nat)(Q:Q4)(b c l:Nat)(i:DI):Prop:=∀ R m d k,qmA q R m d b0 Q k b->l+qBy d k.its.length<=100000000->∃ us,apd q b c l us i/\us.length<=qBy d k.its.length/\a8H (bG i) R m d l i.l Q k.its
def qmO(q:RM)(b0:Nat)(Q:Q4)(b c l kk K:Nat):Prop:=byO q b c l kk/\∃ R m d k,qmA q R m d b0 Q k b/\l+qBy d k.its.length<=100000000/\d<K/\d<=16/\QB d Q
structure QC where
 i:DI
 j:Nat
 w:Int
 g:Nat->Int
def q1P(q:RM)(b0:Nat)(p:Nat×Int):Prop:=p.1<=qnL q b0/\wOk p.2/\nbI (qnL q b0:Nat)<=p.2/\∀ t,t<p.1->nbI (qit q b0 t)<=p.2
def q2P(q:RM)(b0 b c l:Nat)(p:C1):Prop:=apd q b c l (qhI q b0 p.w p.j) p.i/\q1P q b0 (qnL q b0,p.w)/\p.j<=qnL q b0
def q3M(q:RM)(b0 l:Nat)(w:Int)(j:Nat)(g:Nat->Int):Prop:=∀ t,t<j->a4j q b0 t=false->g t=((l+(qhF q b0 w t).length+1:Nat):Int)
def q3P(q:RM)(b0 b c l:Nat)(p:QC):Prop:=W9 (q.F b0 0)=true/\apd q b c l (qhF q b0 p.w p.j) p.i/\q1P q b0 (qnL q b0,p.w)/\p.j<=4/\q3M q b0 l p.w p.j p.g
def q4K(q:RM)(R:Nat->Q4)(m d b0:Nat)(Q:Q4)(b c l:Nat)(p:QC)(k:QK):Prop:=∃ us v E ks,apd q b c l us p.i/\qpN q R m d Q b0 true v E ks []/\kne ks/\k.its=E++ks.flatMap M1/\k.fp=b0 :: (fpU v++ks.flatMap kfp)/\
 (∀ t,t<(qhI q b0 p.w (qnL q b0)++[1]).length->bG p.i (l+t)=(qhI q b0 p.w (qnL q b0)++[1]).getD t 0)/\
 (∀ t,t<4->bG p.i (l+(qhF q b0 p.w t).length)=if a4j q b0 t=true then 0 else 1)/\(qhF q b0 p.w 4).length<=us.length/\
 us.length<=26+4*E.length+((ks.take p.j).map (kBy d)).sum/\
 ∀ t x,t<p.j->ks[t]? = some (some x)->∃ a e,leN (bG p.i) (l+(qhF q b0 p.w t).length+1) 4=(a:Nat)/\l+(qhF q b0 p.w 4).length<=a/\e<=p.i.l/\a8H (bG p.i) R m d a e (qbV Q (t:Int)) x.its
def q4P(q:RM)(b0:Nat)(Q:Q4)(b c l:Nat)(p:QC):Prop:=W9 (q.F b0 0)=true/\q1P q b0 (qnL q b0,p.w)/\p.j<=4/\q3M q b0 l p.w 4 p.g/\
 ∀ R m d k,qmA q R m (d+1) b0 Q k b->l+qBy (d+1) k.its.length<=100000000->q4K q R m d b0 Q b c l p k
theorem apd.refl{q:RM}{b c l kk:Nat}(h:byO q b c l kk):apd q b c l [] ⟨q,b,c,l,kk⟩ where
 o:=h
 n:=by simp
 old:=λ_ _=>rfl
 new:=λj x hx=>by simp at hx
 keep:=λx hx=>⟨hx,rfl,λ_ _=>rfl⟩
 nw:=.inl rfl
section
variable {q:RM} {R:Nat->Q4} {m d b0 b c l:Nat} {Q:Q4} {k:QK}
theorem qmA.node(h:qmA q R m d b0 Q k b):∃ sp v E ks,qnA q b0 sp v E ks/\(∀ y∈fpU v,y∈k.fp)/\b0∈k.fp/\E.length<=k.its.length/\(∀ x∈E,x∈k.its/\a1u R m Q x)/\(sp=false->ks=nok/\k.its=E):=by
 have hb:=h.kb;subst hb
 cases d with
 | zero =>
  obtain⟨v,E,h1,h2,h3,h4⟩:=h.t;exact⟨_,v,E,_,h1,λy hy=>by rw[h2];exact List.mem_cons_of_mem _ hy,by rw[h2];simp,by rw[h3];exact Nat.le_refl _,λx hx=>⟨by rw[h3];exact hx,h4 x hx⟩,λ_=>⟨rfl,h3⟩⟩
 | succ d =>
  obtain⟨sp,v,E,ks,h1,h0,h2,h3,h4,h5,h6⟩:=h.t;refine⟨sp,v,E,ks,h1,λy hy=>by rw[h2];exact List.mem_cons_of_mem _ (List.mem_append_left _ hy),by rw[h2];simp,by rw[h3];simp,λx hx=>⟨by rw[h3];exact List.mem_append_left _ hx,h4 x hx⟩,λe=>⟨(h0 e).1,?_⟩⟩;rw[h3,(h0 e).1,a5s];simp
theorem qmA.bne(h:qmA q R m d b0 Q k b):b0≠b:=λe=>by
 obtain⟨_,_,_,_,_,_,h1,_⟩:=h.node;exact h.bf (e▸h1)
theorem qmA.off(h:qmA q R m d b0 Q k b){us:List Int}{i:DI}(hp:apd q b c l us i):(i.q.D b0/\i.q.S b0=6)/\∀ y,i.q.F b0 y=q.F b0 y:=by
 obtain⟨sp,v,E,ks,h1,_⟩:=h.node;have h2:=hp.keep _ h1.D;exact⟨⟨h2.1,h2.2.1.trans h1.S⟩,h2.2.2 h.bne⟩
theorem qmA.sl(h:qmA q R m d b0 Q k b):isSlN (q.F b0 1)/\a9R (q.F b0 0)/\qnL q b0<=1000/\(∀ t,t<4->a2Z (q.F b0 (2+t)))/\(q.D b0/\q.S b0=6):=by
 obtain⟨sp,v,E,ks,h1,h2,h3,h4,_⟩:=h.node;have h5:=h.le;refine⟨by rw[h1.s1];exact h1.u.sl,by rw[h1.s0];rfl,?_,λt ht=>?_,h1.D,h1.S⟩
 ·unfold qnL;rw[h1.s1,h1.u.n];omega
 ·obtain⟨o,_,h6⟩:=h1.kid ht;rw[h6];exact a3V o
theorem qmA.item(h:qmA q R m d b0 Q k b){us:List Int}{i:DI}(hp:apd q b c l us i){t:Nat}(ht:t<qnL q b0):isSl (q.F b0 1)/\(i.q.D (slB (q.F b0 1))/\slC (q.F b0 1)+t<i.q.S (slB (q.F b0 1)))/\
  i.q.F (slB (q.F b0 1)) (slC (q.F b0 1)+t)=.int .u32 (qit q b0 t)/\0<=qit q b0 t/\qit q b0 t<4294967296:=by
 obtain⟨sp,v,E,ks,h1,h2,h3,h4,h4b,_⟩:=h.node;have e1:=h1.s1;unfold qnL at ht;rw[e1]at ht;have hg:=List.getElem?_eq_getElem (by rw[<-h1.u.n];exact ht:t<E.length);have hpos:=h1.u.pos hg;obtain⟨d1,d2⟩:=h1.u.D hpos;have hne:slB v≠b:=λe=>h.bf (e▸h2 _ (a6b hpos))
 obtain⟨k1,k2,k3⟩:=hp.keep _ d1;have hc:=h1.u.c _ _ hg;have hle:=h1.u.le
 have hq:qit q b0 t=((E[t]'(by rw[<-h1.u.n];exact ht):Nat):Int):=by
  unfold qit;rw[e1,hc];rfl
 have hlt:=h.lt _ (h4b _ (List.mem_of_getElem? hg)).1;rw[e1,hq];refine⟨?_,⟨k1,by rw[k2];omega⟩,by rw[k3 hne];exact hc,by omega,by omega⟩;rcases h1.u.sl with e|e
 ·rw[e]at hpos;exact absurd hpos (by decide)
 ·exact e
theorem qmA.its(h:qmA q R m d b0 Q k b):∃ sp v E ks,qnA q b0 sp v E ks/\(∀ x∈E,x∈k.its/\a1u R m Q x)/\(sp=false->ks=nok/\k.its=E)/\qnL q b0=E.length/\∀(t x:Nat),E[t]? = some x->qit q b0 t=(x:Nat):=by
 obtain⟨sp,v,E,ks,h1,h2,h3,h4,h5,h6⟩:=h.node;refine⟨sp,v,E,ks,h1,h5,h6,by unfold qnL;rw[h1.s1,h1.u.n],λt x ht=>?_⟩;unfold qit;rw[h1.s1,h1.u.c _ _ ht];rfl
end
section
variable {q:RM} {b0:Nat} {w:Nat}
theorem M0(j:Nat):(qhI q b0 (w:Nat) j).length=1+w+w*j:=by
 have:=U6 (f:=λt=>byL (qit q b0 t) w) (λt=>C9 _ _) j;simp only[qhI,List.length_append,C9,Int.toNat_natCast,this,List.length_cons,List.length_nil]
theorem c8x(j:Nat):(qhI q b0 (w:Nat) j)[0]? = some (w:Int):=by simp[qhI]
theorem c8P(j:Nat){s:Nat}(hs:s<w):(qhI q b0 (w:Nat) j)[1+s]? = some (byI (qnL q b0:Nat) s):=by
 unfold qhI;rw[List.append_assoc,List.getElem?_append_right (by simp),List.getElem?_append_left (by simp[C9,hs])];simp[byL,hs]
theorem c6Z{j t s:Nat}(ht:t<j)(hs:s<w):(qhI q b0 (w:Nat) j)[1+w+(w*t+s)]? = some (byI (qit q b0 t) s):=by
 unfold qhI;rw[List.getElem?_append_right (by simp[C9];omega)];simp only[List.length_append,List.length_cons,List.length_nil,C9,Int.toNat_natCast];rw[show 1+w+(w*t+s)-(0+1+w)=w*t+s by omega];rw[a5P (f:=λt=>byL (qit q b0 t) w) (λt=>C9 _ _) hs ht];simp[byL,hs]
theorem b6G(w:Int)(j:Nat):qhI q b0 w (j+1)=qhI q b0 w j++byL (qit q b0 j) w.toNat:=by
 unfold qhI;rw[List.range_succ,List.flatMap_append,<-List.append_assoc];simp
theorem b4h{v w:Int}(hw:wOk w)(h:nbI v<=w)(h0:0<=v)(h1:v<4294967296){g:Nat->Int}{p:Nat}(hg:∀ s,s<w.toNat->g (p+s)=byI v s):leN g p w.toNat=v:=by
 unfold nbI at h;rcases hw with e|e|e <;> subst e
 ·exact c3x hg h0 (by split at h <;> (try split at h) <;> omega)
 ·exact c3w hg h0 (by split at h <;> (try split at h) <;> omega)
 ·exact b0z hg h0 h1
theorem b4A{E:List Nat}{gB:Nat->Int}{l:Nat}(hb:∀ t,t<1+w+w*E.length->∀ x,(qhI q b0 (w:Nat) E.length)[t]? = some x->gB (l+t)=x)(hn:qnL q b0=E.length)(hq:q1P q b0 (qnL q b0,(w:Nat)))
  (hit:∀(t x:Nat),E[t]? = some x->qit q b0 t=(x:Nat)) (hl:E.length<4294967296) (hlt:∀ x∈E,x<4294967296):b2U gB l w E:=by
 obtain⟨_,q2,q3,q4⟩:=hq;dsimp only at q2 q3 q4;have hw:w=1∨w=2∨w=4:=by unfold wOk at q2;omega
 refine⟨hw,?_,?_,λj x hj=>?_⟩
 ·have:=hb 0 (by omega) _ (c8x _);simpa using this
 ·have:=b4h (g:=gB) (p:=l+1) q2 q3 (by omega) (by omega) λs hs=>by
   rw[Int.toNat_natCast]at hs;rw[Nat.add_assoc];exact hb (1+s) (by have:=Nat.le_refl w;omega) _ (c8P _ hs)
  rw[Int.toNat_natCast,hn]at this;exact this
 ·have hjl:=(List.getElem?_eq_some_iff.1 hj).1;have hx:=hlt x (List.mem_of_getElem? hj);have e:=hit j x hj;have hm:w*(j+1)<=w*E.length:=Nat.mul_le_mul_left w hjl;rw[Nat.mul_add,Nat.mul_one]at hm
  have:=b4h (g:=gB) (p:=l+1+w+w*j) q2 (q4 j (by omega)) (by omega) (by omega) λs hs=>by
   rw[Int.toNat_natCast]at hs;rw[show l+1+w+w*j+s=l+(1+w+(w*j+s)) by omega];exact hb _ (by omega) _ (c6Z hjl hs)
  rw[Int.toNat_natCast,e]at this;exact this
theorem a2D(t:Nat):(qfl q b0 t).length=if a4j q b0 t=true then 1 else 5:=by
 unfold qfl;split <;> rfl
theorem U2(w:Int)(j:Nat):qhF q b0 w (j+1)=qhF q b0 w j++qfl q b0 j:=by
 unfold qhF;rw[List.range_succ,List.flatMap_append,<-List.append_assoc];simp
theorem a5M(w:Int):qhF q b0 w 0=qhI q b0 w (qnL q b0)++[1]:=by simp[qhF]
theorem a4X{ks:List (Option QK)}(h:∀ t o,ks[t]? = some o->a4j q b0 t=o.isNone)(hl:ks.length=4):∀ j,j<=4->(qhF q b0 (w:Nat) j).length=2+w+w*qnL q b0+J4 ks j
 | 0,_=>by rw[a5M,List.length_append,M0];simp[J4];omega
 | j+1,hj=>by
  have ih:=a4X h hl j (by omega);have hg:=List.getElem?_eq_getElem (by omega:j<ks.length);have h1:=h _ _ hg;rw[U2,List.length_append,ih,a8i hg,a2D,h1];generalize ks[j]=o at *;cases o <;> simp[qsz] <;> omega
end
theorem b1c{P:Nat->QK->EQ->Prop}(hP:∀ t x e,P t x e->e.its=x.its):∀(ks:List (Option QK))(s:Nat),(∀(t:Nat)(x:QK),ks[t]? = some (some x)->∃ e,P (s+t) x e)->
  ∃ es:List (Option EQ),es.length=ks.length/\es.flatMap c1i=ks.flatMap M1/\(∀ t,J4 es t=J4 ks t)/\(∀ t:Nat,es[t]? = some none->ks[t]? = some none)/\∀(t:Nat)(e:EQ),es[t]? = some (some e)->∃ x,ks[t]? = some (some x)/\P (s+t) x e
 | [],s,_=>⟨[],rfl,rfl,λt=>by simp[J4],λt h=>by simp at h,λt e h=>by simp at h⟩
 | o :: r,s,h=>by
  obtain⟨es,h1,h2,h3,h4,h5⟩:=b1c hP r (s+1) λt x ht=>by
   have:=h (t+1) x (by simpa using ht);rw[show s+1+t=s+(t+1) by omega];exact this
  cases o with
  | none =>
   refine⟨none :: es,by simp[h1],by simp[c1i,M1,h2],λt=>?_,λt ht=>?_,λt e ht=>?_⟩
   ·cases t with
    | zero=>simp[J4]
    | succ t=>have:=h3 t;simp only[J4,List.take_succ_cons,List.map_cons,List.sum_cons,qsz]at *;omega
   ·cases t with
    | zero=>rfl
    | succ t=>simpa using h4 t (by simpa using ht)
   ·cases t with
    | zero=>simp at ht
    | succ t =>
     obtain⟨x,g1,g2⟩:=h5 t e (by simpa using ht);exact⟨x,by simpa using g1,by rw[show s+(t+1)=s+1+t by omega];exact g2⟩
  | some x =>
   obtain⟨e0,he0⟩:=h 0 x rfl;refine⟨some e0 :: es,by simp[h1],by simp[c1i,M1,h2,hP _ _ _ he0],λt=>?_,λt ht=>?_,λt e ht=>?_⟩
   ·cases t with
    | zero=>simp[J4]
    | succ t=>have:=h3 t;simp only[J4,List.take_succ_cons,List.map_cons,List.sum_cons,qsz]at *;omega
   ·cases t with
    | zero=>simp at ht
    | succ t=>simpa using h4 t (by simpa using ht)
   ·cases t with
    | zero =>
     simp at ht;subst ht;exact⟨x,rfl,he0⟩
    | succ t =>
     obtain⟨y,g1,g2⟩:=h5 t e (by simpa using ht);exact⟨y,by simpa using g1,by rw[show s+(t+1)=s+1+t by omega];exact g2⟩
end Go.Proofs.Tryz.Sx
