/- Parts of a proof, in order: what each says stands at its head. No conditions. -/
import Derived.Test.YtfhkmkhcofodmaaGreatM4
namespace Go.Proofs.Tryz.Sx
open Go Go.Sx Go.Proofs Go.Fl Go.Geo
set_option maxRecDepth 100000
noncomputable section
def a8D:List SV->RRd (Nat×Nat)
 | [.pb n rb rc]=>.read n λo0=>(match I5 o0 with
  | some (ts,q)=>.ret ⟨[.pb 0 rb rc],[(0,rwO ts q)],some ((okR q rb rc)),λi=>i.1<2,λi=>⟨[],[], .tup [.int .i64 (i.1:Nat), .flt .f64 i.2],[(0,rwO ts (q))],[],none⟩⟩
  | none=>.fail)
 | _=>.fail
theorem b6c(R:Option Ob->SV->Prop)(ts:List Nat)(q:RM)(rb rc:Nat){T1}(t1:T1=(false=false->(fGt .f64 (fop BinOp.sub .f64 (j6 (q.3 rb (rc+3+2))) (j6 (q.3 rb (rc+1+2)))) (fop BinOp.sub .f64 (j6 (q.3 rb (rc+3+1))) (j6 (q.3 rb (rc+1+1))))=true->False)/\(fGt .f64 (fop BinOp.sub .f64 (j6
 (q.3 rb (rc+3+2))) (j6 (q.3 rb (rc+1+2)))) (fop BinOp.sub .f64 (j6 (q.3 rb (rc+3+1))) (j6 (q.3 rb (rc+1+1))))=false->False))){T2}(t2:T2=(fGt .f64 (fop BinOp.sub .f64 (j6 (q.3 rb (rc+3+1))) (j6 (q.3 rb (rc+1+1))))
 (fop BinOp.sub .f64 (j6 (q.3 rb (rc+3+0))) (j6 (q.3 rb (rc+1+0))))=false->(false=true->((0:Int)<=2/\(2:Int)<2)/\(q.1 rb/\rc+3+2<q.2 rb/\z6 .f64 (q.3 rb (rc+3+2)))/\((0:Int)<=2/\(2:Int)<2)/\(q.1 rb
 /\rc+1+2<q.2 rb/\z6 .f64 (q.3 rb (rc+1+2)))/\fok BinOp.sub .f64 (j6 (q.3 rb (rc+3+2))) (j6 (q.3 rb (rc+1+2)))/\true=true/\(false=true->False)/\(false=false->(fGt .f64 (fop BinOp.sub .f64 (j6 (q.3 rb (rc+3 +
 2))) (j6 (q.3 rb (rc+1+2)))) (fop BinOp.sub .f64 (j6 (q.3 rb (rc+3+0))) (j6 (q.3 rb (rc+1+0))))=true->False)/\(fGt .f64 (fop BinOp.sub .f64 (j6 (q.3 rb (rc+3+2))) (j6 (q.3 rb (rc+1+2)))) (fop BinOp.sub .f64 (j6
 (q.3 rb (rc+3+0))) (j6 (q.3 rb (rc+1+0))))=false->False)))/\(false=false->R (Option.some (Ob.mk true 0 (a9.raw ts (RM.D q) q.2 q.3) 0)) (SV.tup [SV.int .i64 (0:Int),SV.flt .f64 (fop BinOp.sub .f64 (j6 (q.3 rb (rc+3+0)))
 (j6 (q.3 rb (rc+1+0))))])))){T3}(t3:T3=(false=false->R (Option.some (Ob.mk true 0 (a9.raw ts (RM.D q) q.2 q.3) 0)) (SV.tup [SV.int .i64 (1:Int),SV.flt .f64 (fop BinOp.sub .f64 (j6 (q.3 rb (rc+3+1))) (j6 (q.3 rb (rc+1 +
 1))))]))){T4}(t4:T4=(false=true->((0:Int)<=2/\(2:Int)<2)/\(q.1 rb/\rc+3+2<q.2 rb/\z6 .f64 (q.3 rb (rc+3+2)))/\((0:Int)<=2/\(2:Int)<2)/\(q.1 rb/\rc+1+2<q.2 rb/\z6 .f64 (q.3 rb (rc+1+2)))/\fok
 BinOp.sub .f64 (j6 (q.3 rb (rc+3+2))) (j6 (q.3 rb (rc+1+2)))/\true=true/\(false=true->False)/\T1)){T5}(t5:T5=(false=true->((0:Int)<=(2:Int)/\(2:Int)<2)/\(q.1 rb/\rc+3+2<q.2 rb/\z6 .f64 (q.3 rb (rc+3 +
 2)))/\((0:Int)<=2/\(2:Int)<2)/\(q.1 rb/\rc+1+2<q.2 rb/\z6 .f64 (q.3 rb (rc+1+2)))/\fok BinOp.sub .f64 (j6 (q.3 rb (rc+3+2))) (j6 (q.3 rb (rc+1+2)))/\true=true/\(false=true->False)/\T1)){T6}(t6:T6=(fop
 BinOp.sub .f64 (j6 (q.3 rb (rc+3+0))) (j6 (q.3 rb (rc+1+0))))){T7}(t7:T7=(Option.some (Ob.mk true 0 (a9.raw ts (RM.D q) q.2 q.3) 0))){T8}(t8:T8=(fop BinOp.sub .f64 (j6 (q.3 rb (rc+3+1))) (j6 (q.3 rb (rc+1 +
 1))))){T9}(t9:T9=(q.1 rb/\rc+3+1<q.2 rb/\z6 .f64 (q.3 rb (rc+3+1)))){T10}(t10:T10=(q.1 rb/\rc+1+1<q.2 rb/\z6 .f64 (q.3 rb (rc+1+1)))){T11}(t11:T11=((0:Int)<=1/\(1:Int)<2)){T12}(t12:T12=(q.3 rb (rc+3 +
 2))){T13}(t13:T13=(q.3 rb (rc+1+2))){T14}(t14:T14=(SV.tup [SV.int .i64 (0:Int),SV.flt .f64 0])){T15}(t15:T15=(true=false->R T7 (SV.tup [SV.int .i64 (0:Int),SV.flt .f64 T6]))){T16}(t16:T16=((0:Int)<=2/\(2:Int) <
 2)){T17}(t17:T17=(j6 (q.3 rb (rc+3+1)))){T18}(t18:T18=(j6 (q.3 rb (rc+1+1)))){T19}(t19:T19=(q.1 rb/\rc+3+2<q.2 rb/\z6 .f64 T12)){T20}(t20:T20=(q.1 rb/\rc+1+2<q.2 rb/\z6 .f64 T13)):K8 X0 1 [(3, .iter 3)] [] (p9 f135) (A6 f135.ntmps [.pb 0 rb rc] [(0,rwO ts q)] 1) (A8 X0.G.E.T f135.results.toList λS v=>R (Go.Sx.look S.H 0) v)=(
 (true=true->((0:Int)<=0/\(0:Int)<2)/\(q.1 rb/\rc+3+0<q.2 rb/\z6 .f64 (q.3 rb (rc+3+0)))/\((0:Int)<=0/\(0:Int)<2)/\(q.1 rb/\rc+1+0<q.2 rb/\z6 .f64 (q.3 rb (rc+1+0)))/\fok BinOp.sub .f64 (j6 (q.3
 rb (rc+3+0))) (j6 (q.3 rb (rc+1+0)))/\true=true/\(true=true->(true=true->T11/\T9/\T11/\T10/\fok BinOp.sub .f64 T17 T18/\true=true/\(false=true->T5/\T3)/\(false=false->(fGt .f64 T8 T6=true->(false=true->((0 :
 Int)<=2/\(2:Int)<(2:Int))/\T19/\T16/\T20/\fok BinOp.sub .f64 (j6 T12) (j6 T13)/\true=true/\(false=true->False)/\T1)/\T3)/\T2))/\T15)/\(true=false->(fGt .f64 T6 0=true->(true=true->T11/\T9/\T11/\T10/\fok
 BinOp.sub .f64 T17 T18/\true=true/\(false=true->T4/\T3)/\(false=false->(fGt .f64 T8 T6=true->T5/\T3)/\T2))/\T15)/\(fGt .f64 T6 0=false->(true=true->T11/\T9/\((0:Int)<=1/\(1:Int)<(2:Int))/\T10/\fok BinOp.sub .f64
 T17 T18/\true=true/\(false=true->T4/\T3)/\(false=false->(fGt .f64 T8 0=true->T4/\T3)/\(fGt .f64 T8 0=false->(false=true->T16/\T19/\T16/\T20/\fok BinOp.sub .f64 (j6 T12) (j6 T13)/\true=true/\(false=true->False)/\
 (false=false->(fGt .f64 (fop BinOp.sub .f64 (j6 T12) (j6 T13)) 0=true->False)/\(fGt .f64 (fop BinOp.sub .f64 (j6 T12) (j6 T13)) 0=false->False)))/\(false=false->R T7 T14))))/\(true=false->R T7 T14))))/\(true=false->R T7
 T14)):=by subst t1 t2 t3 t4 t5 t6 t7 t8 t9 t10 t11 t12 t13 t14 t15 t16 t17 t18 t19 t20;kernel_rfl
theorem c0p:z0 prog 135 (o9 (Nat×Nat) ⟨default⟩ a8D):=by
 refine D7 x0 func135 rfl (by kernel_rfl) λargs=>?_
 unfold a8D;split;rotate_left;trivial;rename_i n rb rc;intro o0;try dsimp only
 split;rotate_left;trivial;rename_i ts q hm0;intro(ho:(okR q rb rc));refine⟨?_,Nat.succ_pos _,ts,λ(i:Nat×Nat)=>q,λ(i:Nat×Nat)=>.tup [.int .i64 (i.1:Nat), .flt .f64 i.2],λ_=>rfl,?_,_,_,(b6c (I7 1 ts (λ(i:Nat×Nat)=>i.1<2) (λ(i:Nat×Nat)=>q) (λ(i:Nat×Nat)=>.tup [.int .i64 (i.1:Nat), .flt .f64 i.2])) ts q rb rc rfl rfl rfl rfl rfl rfl rfl rfl rfl rfl rfl rfl rfl rfl rfl rfl rfl rfl rfl rfl).mpr ?_⟩
 ·refine j8 rfl ⟨λ_=>rfl,?_,⟨trivial,B8 hm0,trivial⟩⟩;simp[q9,z5,z8,z3,nth,g9]
 ·intro i _;rfl
 ·obtain⟨d1,s1,b1⟩:=ho;have f0:=(b1.lo (k:=0) (by omega)).flt;have f1:=(b1.lo (k:=1) (by omega)).flt;have f2:=(b1.hi (k:=0) (by omega)).flt;have f3:=(b1.hi (k:=1) (by omega)).flt;have g0:=((b1.hi (k:=0) (by omega)).sub (b1.lo (k:=0) (by omega))).1;have g1:=((b1.hi (k:=1) (by omega)).sub (b1.lo (k:=1) (by omega))).1
  have hR:∀(a:Int)(x:Nat),0<=a->a<2->I7 1 ts (λi:Nat×Nat=>i.1<2) (λ_=>q) (λi=>.tup [.int .i64 (i.1:Nat), .flt .f64 i.2]) (some ⟨true,0, .raw ts q.D q.S q.F,0⟩) (.tup [.int .i64 a, .flt .f64 x]):=λa x h1 h2=>⟨(a.toNat,x),by show a.toNat<2;omega,rfl,⟨by show a=((a.toNat:Nat):Int);omega,rfl,trivial⟩⟩
  generalize I7 1 ts (λi:Nat×Nat=>i.1<2) (λ_=>q) (λi=>.tup [.int .i64 (i.1:Nat), .flt .f64 i.2])=R at hR ⊢;have h0:=λx=>hR 0 x (by decide) (by decide)
  have h1:=λx=>hR 1 x (by decide) (by decide)
  clear hR;simp only[f0,f1,f2,f3,g0,g1,d1,true_and,and_true];grind
def A3(q:RM)(b:Nat):List En:=(List.range (p7 (q.F b 0)).toNat).map λj=>⟨q.F b (1+5*j),bxOf q.F b (1+5*j)⟩
theorem F1.of{q:RM}{b:Nat}{l:List En}(h:F1 q b l):A3 q b=l:=by
 have hn:(p7 (q.F b 0)).toNat=l.length:=by rw[h.n];rfl
 refine List.ext_getElem? λj=>?_
 simp only[A3,hn,List.getElem?_map];by_cases hj:j<l.length
 ·rw[List.getElem?_range hj,List.getElem?_eq_getElem hj];simp only[Option.map_some,oI9];have h1:=h.v j _ (List.getElem?_eq_getElem hj);have h2:=h.B j _ (List.getElem?_eq_getElem hj);rw[h1,h2.bxOf]
 ·rw[List.getElem?_eq_none (by simpa using Nat.le_of_not_lt hj),List.getElem?_eq_none (by omega)];rfl
def kb(v:Value):Nat:=ptB (K0 v)
def isRef(v:Value):Prop:=v=.iface 207 (.pointer (some ⟨kb v,0,none⟩))
theorem isRef.facts{v:Value}(h:isRef v):a2u 207 v/\a1d (K0 v)/\ptB (K0 v)=kb v/\ptC (K0 v)=0:=by
 unfold isRef at h;refine⟨?_,?_,rfl,?_⟩
 ·unfold a2u;rw[h];rfl
 ·rw[h];rfl
 ·rw[h];rfl
def rcP(q:RM)(rb rc nb i:Nat)(q':RM):Prop:=L4 q q' (rW rb rc)/\∃ B,isBox q'.F rb rc B/\H7 B (((A3 q nb).take i).map (·.B))
def c8l(ts:List Nat)(rb rc nb i:Nat)(q:RM):St:=⟨42,[(0, .pb 0 rb rc),(2, .pb 0 nb 0),(3, .int .i64 i)],[(0,rwO ts q)],1⟩
def rcL(ts:List Nat)(q:RM)(rb rc:Nat):R5 :=
 ⟨⟨Nat×RM,λp=>c8l ts rb rc (kb (q.F rb rc)) p.1 p.2,λp=>(1<=p.1/\p.1<=(A3 q (kb (q.F rb rc))).length)/\rcP q rb rc (kb (q.F rb rc)) p.1 p.2,λp=>(A3 q (kb (q.F rb rc))).length-p.1⟩,λ_=>[]⟩
def hangs(q:RM)(rb rc:Nat):Prop:=q.D rb/\rc+5<=q.S rb/\isRef (q.F rb rc)/\kb (q.F rb rc)≠rb/\F1 q (kb (q.F rb rc)) (A3 q (kb (q.F rb rc)))
def X1:F3:=⟨G0,[(128,o9 RM ⟨default⟩ a5X),(133,o9 Unit ⟨()⟩ a9A),(135,o9 (Nat×Nat) ⟨default⟩ a8D)],[],[],[]⟩
theorem x1:A7 prog X1:=⟨g0,q8.cons b7d (q8.cons c1H (q8.cons c0p q8.nil))⟩
def a9m:List SV->RRd (RM)
 | [.pb n rb rc]=>.read n λo0=>(match I5 o0 with
  | some (ts,q)=>.ret ⟨[.pb 0 rb rc],[(0,rwO ts q)],some ((hangs q rb rc/\A3 q (kb (q.F rb rc))≠[])),λi=>rcP q rb rc (kb (q.F rb rc)) (A3 q (kb (q.F rb rc))).length i,λi=>⟨[],[], .tup [],[(0,rwO ts (i))],[],none⟩⟩
  | none=>.fail)
 | _=>.fail
theorem b6v(R:Option Ob->SV->Prop)(ts:List Nat)(q:RM)(rb rc:Nat){T1}(t1:T1=(K0 (q.3 rb (rc+0)))){T2}(t2:T2=(j0 q.3 rb (rc+1) (q.3 (ptB T1) (ptC T1+1+0+1)))){T3}(t3:T3=(kb (q.3 rb rc))){T4}(t4:T4=(q.3 (ptB T1) (ptC T1+1+0+1+1))){T5}(t5:T5=(j0 T2 rb (rc+1+1) T4 (ptB T1) (ptC T1+1+0 +
 3+1))){T6}(t6:T6=λ(pq:Nat×RM)=>((1<=pq.1/\pq.1<=List.length (A3 q T3))/\rcP q rb rc T3 (pq.1) (pq.2))){T7}(t7:T7=(j0 T2 rb (rc+1+1) T4 (ptB T1) (ptC T1+1+0+3))){T8}(t8:T8=λ(i:Nat×RM)=>(↑(i.1):Int)){T9}(t9:T9=fun
 (i:Nat×RM)=>(RM.mk (RM.D (i.2)) (i.2).2 (i.2).3)):K8 X1 1 [(4,rcL ts q rb rc)] [] (p9 f130) (A6 f130.ntmps [.pb 0 rb rc] [(0,rwO ts q)] 1) (A8 X1.G.E.T f130.results.toList λS v=>R (Go.Sx.look S.H 0) v)=(
 (q.1 rb/\rc+0<q.2 rb)/\(a2u 207 (q.3 rb (rc+0))/\a1d T1)/\((0:Int)<=0/\(0:Int)<17)/\(q.1 (ptB T1)/\ptC T1+1+0+1+2<=q.2 (ptB T1))/\(((q.1 rb/\rc+1+2<=q.2 rb)/\Value.oneCell' (q.3 (ptB T1) (ptC T1+1+0+1)) =
 true)/\Value.oneCell' T4=true)/\((0:Int)<=0/\(0:Int)<17)/\(q.1 (ptB T1)/\ptC T1+1+0+3+2<=q.2 (ptB T1))/\(((q.1 rb/\rc+3+2<=q.2 rb)/\Value.oneCell' T7=true)/\Value.oneCell' T5=true)/\(∃(pq:Nat×RM),(T6 pq)/\
 ((True/\rb=rb/\rc=rc)/\(True/\ptB T1=kb (q.3 rb rc)/\ptC T1=0)/\1=(↑(pq.1):Int)/\True)/\True/\(0=0/\0=0/\ts=ts/\j0 (j0 (j0 T2 rb (rc+1+1) T4) rb (rc+3) T7) rb (rc+3+1) T5=(pq.2).3/\q.2=(pq.2).2/\
 RM.D q=RM.D (pq.2))/\True)/\∀(i:Nat×RM),(1<=i.1/\i.1<=List.length (A3 q T3))/\rcP q rb rc T3 (i.1) (i.2)->((i.2).1 T3/\0<(i.2).2 T3/\B9 .i64 ((i.2).3 T3 0))/\(decide ((T8 i)<p7 ((i.2).3 T3 0))=true->((0:Int)<=(T8 i)
 /\(T8 i)<17)/\∀(i_1:RM),(0=0/\okR (T9 i) rb rc/\okR (T9 i) T3 (1+Int.toNat (T8 i)*5)/\apart rb rc T3 (1+Int.toNat (T8 i)*5))/\(exI (T9 i) rb rc T3 (1+Int.toNat (T8 i)*5) 2 2 i_1->∃(pq:Nat×RM),(T6 pq)/\List.length
 (A3 q T3)-pq.1<List.length (A3 q T3)-i.1/\((True/\rb=rb/\rc=rc)/\(True/\kb (q.3 rb rc)=kb (q.3 rb rc)/\0=0)/\IntKind.wrap .i64 ((T8 i)+1)=(↑(pq.1):Int)/\True)/\True/\(0=0/\0=0/\ts=ts/\i_1.3=(pq.2).3/\
 i_1.2=(pq.2).2/\RM.D i_1=RM.D (pq.2))/\True))/\(decide ((T8 i)<p7 ((i.2).3 T3 0))=false->R (Option.some (Ob.mk true 0 (a9.raw ts (RM.D (i.2)) (i.2).2 (i.2).3) 0)) (SV.tup []))):=by subst t1 t2 t3 t4 t5 t6 t7 t8 t9;kernel_rfl
theorem c0R:z0 prog 130 (o9 (RM) ⟨default⟩ a9m):=by
 refine D7 x1 func130 rfl (by kernel_rfl) λargs=>?_
 unfold a9m;split;rotate_left;trivial;rename_i n rb rc;intro o0;try dsimp only
 split;rotate_left;trivial;rename_i ts q hm0;intro(ho:(hangs q rb rc/\A3 q (kb (q.F rb rc))≠[]));refine⟨?_,Nat.succ_pos _,ts,λ(i:RM)=>i,λ(i:RM)=>.tup [],λ_=>rfl,?_,_,_,(b6v (I7 1 ts (λ(i:RM)=>rcP q rb rc (kb (q.F rb rc)) (A3 q (kb (q.F rb rc))).length i) (λ(i:RM)=>i) (λ(i:RM)=>.tup [])) ts q rb rc rfl rfl rfl rfl rfl rfl rfl rfl rfl).mpr ?_⟩
 ·refine j8 rfl ⟨λ_=>rfl,?_,⟨trivial,B8 hm0,trivial⟩⟩;simp[q9,z5,z8,z3,nth,g9]
 ·intro i _;rfl
 ·obtain⟨⟨d,s,hr,hne,hnd⟩,hnil⟩:=ho;obtain⟨f1,f2,f3,f4⟩:=hr.facts;have hoff:∀(F:Nat->Nat->Value)(c:Nat)(v:Value)(c':Nat),j0 F rb c v (kb (q.F rb rc)) c'=F (kb (q.F rb rc)) c':=λ_ _ _ _=>b9 (.inl hne)
  simp only[true_and,and_true,eq_self,tN9,decide_eq_true_eq,decide_eq_false_iff_not,Int.reduceLT,Int.le_refl];simp only[Nat.add_zero,f3,f4,Nat.zero_add,Nat.reduceAdd,hoff,rcP];generalize kb (q.F rb rc)=nb at *;generalize A3 q nb=l at *;have hle:=hnd.le;obtain⟨e0,r,hl⟩:∃ e0 r,l=e0 :: r:=by cases l with|nil=>exact absurd rfl hnil|cons a r=>exact⟨a,r,rfl⟩
  have h0:l[0]? = some e0:=by rw[hl];rfl
  have hS:=hnd.S;have hb0:=hnd.B 0 e0 h0;simp only[Nat.mul_zero,Nat.add_zero]at hb0;have c1:=hb0.1.flt;have c2:=hb0.2.1.flt;have c3:=hb0.2.2.1.flt;have c4:=hb0.2.2.2.flt;have one:∀ v,z6 .f64 v->v.oneCell'=true:=λv h=>by rw[h];rfl
  refine⟨⟨d,by omega⟩,⟨f1,f2⟩,⟨hnd.D,by omega⟩,⟨⟨⟨d,by omega⟩,one _ c1⟩,one _ c2⟩,⟨hnd.D,by omega⟩,⟨⟨⟨d,by omega⟩,one _ c3⟩,one _ c4⟩,⟨(1,⟨q.D,q.S,j0 (j0 (j0 (j0 q.F rb (rc+1) (q.F nb 2)) rb (rc+1+1) (q.F nb 3)) rb (rc+3) (q.F nb 4)) rb (rc+3+1) (q.F nb 5)⟩),⟨⟨Nat.le_refl _,by rw[hl];simp⟩,⟨rfl,rfl,?_⟩,e0.B,?_,?_⟩,(by and_intros <;> first|trivial|rfl|(rw[j5 (by omega) (by omega)];first|rfl|omega))⟩,?_⟩
  ·intro b c hw;unfold rW at hw;show j0 _ _ _ _ _ _=_;rw[b9 (by omega),b9 (by omega),b9 (by omega),b9 (by omega)]
  ·refine⟨?_,?_,?_,?_⟩
   ·simpa [j0]using hb0.1
   ·simpa [j0]using hb0.2.1
   ·simpa [j0]using hb0.2.2.1
   ·simpa [j0]using hb0.2.2.2
  ·rw[hl];exact a7T _
  ·rintro⟨i,q'⟩ ⟨⟨hi1,hi2⟩,hs,B,hB,ht⟩;replace hi1:1<=i:=hi1;replace hi2:i<=l.length:=hi2;have hnd':F1 q' nb l:=hnd.same (by rw[hs.1];exact hnd.D) (by rw[hs.2.1]) (λc=>hs.2.2 nb c (by unfold rW;omega));have hS':=hnd'.S;have hn:p7 (q'.F nb 0)=(l.length:Nat):=by rw[hnd'.n];rfl
   simp only[hn];refine⟨⟨hnd'.D,by omega,by rw[hnd'.n];rfl⟩,λhlt=>⟨⟨by omega,by omega⟩,λq2=>⟨⟨okR.mk' (by rw[hs.1];exact d) (by rw[hs.2.1];exact s) hB,?_, .inl (Ne.symm hne)⟩,λhe=>?_⟩⟩,λhge=>?_⟩
   ·have:=hnd'.okR (List.getElem?_eq_getElem (by omega:i<l.length));rw[Nat.mul_comm]at this;exact this
   ·have hj:i<l.length:=by omega
    have hB2:=hnd'.B i _ (List.getElem?_eq_getElem hj);rw[Nat.mul_comm]at hB2;obtain⟨hs2,hb2⟩:=he;refine⟨(i+1,q2),⟨⟨by show 1<=i+1;omega,by show i+1<=l.length;omega⟩,hs.trans hs2 (λ_ _ h=>h) (λ_ _ h=>h),B5 B l[i].B,?_,?_⟩,by show l.length-(i+1)<l.length-i;omega,(by and_intros <;> first|trivial|rfl|(rw[j5 (by omega) (by omega)];first|rfl|omega))⟩
    ·rw[a4q]at hb2;have e1:bxOf (RM.mk q'.D q'.S q'.F).F rb rc=B:=hB.bxOf;have e2:bxOf (RM.mk q'.D q'.S q'.F).F nb (1+i*5)=l[i].B:=hB2.bxOf;rw[e1,e2]at hb2;exact hb2
    ·have ht2:((l.take (i+1)).map (·.B))=(l.take i).map (·.B)++[l[i].B]:=by
      simp only[List.take_add_one,List.getElem?_eq_getElem hj,Option.toList,List.map_append,List.map_cons,List.map_nil]
     show H7 (B5 B l[i].B) ((l.take (i+1)).map (·.B));rw[ht2];refine a8v (λe=>?_) ht
     have h3:((l.take i).map (·.B)).length=0:=by
      have e:(l.take i).map (·.B)=[]:=e;rw[e];rfl
     rw[List.length_map,List.length_take]at h3;omega
   ·replace hge:¬(i:Int)<(l.length:Nat):=hge;have e:i=l.length:=by omega
    subst e;exact⟨q',⟨hs,B,hB,ht⟩,rfl,trivial⟩
end
open Int (toNat)
open Go.IntKind (wrap)
noncomputable section
def fb(x k:Nat):Prop:=∃ n:Int,FI x n/\n.natAbs<=8388608 ^ k
theorem c2u:fb 4607182418800017408 0:=⟨1,c2q,by decide⟩
theorem a4j{v w:Value}{n m:Int}(h1:fz v n)(h2:fz w m):fok .sub .f64 (j6 v) (j6 w)/\fb (fop .sub .f64 (j6 v) (j6 w)) 1 :=
 ⟨(h1.sub h2).1,_,(h1.sub h2).2.1,by simpa using (h1.sub h2).2.2⟩
theorem a0R{x y k:Nat}(h1:fb x k)(h2:fb y 1)(hk:k<=1):fok .mul .f64 x y/\fb (fop .mul .f64 x y) (k+1):=by
 obtain⟨n,a1,a2⟩:=h1;obtain⟨m,b1,b2⟩:=h2;have h:=S0 a2 b2;rw[<-Nat.pow_add]at h;have h3:8388608 ^ (k+1)<=8388608 ^ 2:=Nat.pow_le_pow_right (by decide) (by omega);obtain⟨c1,c2⟩:=a9O a1 b1 (by omega);exact⟨c1,_,c2,h⟩
theorem b8M{x y:Nat}(h1:fb x 2)(h2:fb y 2):fok .sub .f64 x y:=by
 obtain⟨n,a1,a2⟩:=h1;obtain⟨m,b1,b2⟩:=h2;exact(a4Q a1 b1 (by omega)).1
def c8t(ts:List Nat)(rb rc bb bc nb:Nat)(p:Nat×Int×Nat×Nat)(q:RM):St :=
 ⟨217,[(0, .pb 0 rb rc),(1, .pb 0 bb bc),(5, .int .i64 p.2.1),(6, .flt .f64 p.2.2.1),(7, .flt .f64 p.2.2.2),(8, .pb 0 nb 0),(9, .int .i64 p.1)],[(0,rwO ts q)],1⟩
def c7N(ts:List Nat)(rb rc bb bc nb:Nat)(p:Nat×Int×Nat×Nat)(q:RM)(k:Nat×Nat×Nat):St :=
 ⟨217,[(0, .pb 0 rb rc),(1, .pb 0 bb bc),(5, .int .i64 p.2.1),(6, .flt .f64 p.2.2.1),(7, .flt .f64 p.2.2.2),(8, .pb 0 nb 0),(9, .int .i64 p.1),(10, .flt .f64 k.2.2),(13, .flt .f64 k.2.1),(14, .int .i64 k.1)],[(0,rwO ts q)],1⟩
def chL(ts:List Nat)(q:RM)(rb rc bb bc:Nat):R5 :=
 ⟨⟨Nat×Int×Nat×Nat,λp=>c8t ts rb rc bb bc (kb (q.F rb rc)) p q,λp=>p.1<=(A3 q (kb (q.F rb rc))).length/\(p.1=0/\p.2.1 = -1∨0<=p.2.1/\p.2.1<p.1),λp=>(A3 q (kb (q.F rb rc))).length-p.1⟩,
  λp=>[(14,⟨Nat×Nat×Nat,λk=>c7N ts rb rc bb bc (kb (q.F rb rc)) p q k,λk=>k.1<=2/\fb k.2.1 k.1/\fb k.2.2 2,λk=>2-k.1⟩)]⟩
def a5J:List SV->RRd (Nat)
 | [.pb n rb rc, .pb n1 bb bc]=>.read n λo0=>(match I5 o0 with
  | some (ts,q)=>.ret ⟨[.pb 0 rb rc, .pb 0 bb bc],[(0,rwO ts q)],some (n=n1/\(hangs q rb rc/\okR q bb bc/\1<=(A3 q (kb (q.F rb rc))).length)),λi=>i<(A3 q (kb (q.F rb rc))).length,λi=>⟨[],[], .int .i64 (i:Nat),[(0,rwO ts (q))],[],none⟩⟩
  | none=>.fail)
 | _=>.fail
theorem b2R(R:Option Ob->SV->Prop)(ts:List Nat)(q:RM)(rb rc bb bc:Nat){T1}(t1:T1=λ(i:Nat×Int×Nat×Nat) (i_1:Nat×Nat×Nat)=>(fGt .f64 (j6 (q.3 bb (bc+3+toNat (↑(i_1.1):Int)*1))) (j6 (q.3 (kb (q.3 rb rc)) (1+toNat (↑(i.1):Int)*5+3+toNat (↑(i_1.1):Int)*1)))=false->(0<=
 (↑(i_1.1):Int)/\(↑(i_1.1):Int)<2)/\(q.1 bb/\bc+1+toNat (↑(i_1.1):Int)*1<q.2 bb/\z6 .f64 (q.3 bb (bc+1+toNat (↑(i_1.1):Int)*1)))/\(0<=(↑(i.1):Int)/\(↑(i.1):Int)<17)/\(0<=(↑(i_1.1):Int)/\(↑(i_1.1) :
 Int)<2)/\(q.1 (kb (q.3 rb rc))/\1+toNat (↑(i.1):Int)*5+1+toNat (↑(i_1.1):Int)*1<q.2 (kb (q.3 rb rc))/\z6 .f64 (q.3 (kb (q.3 rb rc)) (1+toNat (↑(i.1):Int)*5+1+toNat (↑(i_1.1):Int)*1)))/\true =
 true/\(fLt .f64 (j6 (q.3 bb (bc+1+toNat (↑(i_1.1):Int)*1))) (j6 (q.3 (kb (q.3 rb rc)) (1+toNat (↑(i.1):Int)*5+1+toNat (↑(i_1.1):Int)*1)))=true->((0:Int)<=(↑(i.1):Int)/\(↑(i.1):Int)<17)/\(0<=
 (↑(i_1.1):Int)/\(↑(i_1.1):Int)<2)/\(q.1 (kb (q.3 rb rc))/\1+toNat (↑(i.1):Int)*5+3+toNat (↑(i_1.1):Int)*1<q.2 (kb (q.3 rb rc))/\z6 .f64 (q.3 (kb (q.3 rb rc)) (1+toNat (↑(i.1):Int)*5+3+toNat
 (↑(i_1.1):Int)*1)))/\(0<=(↑(i_1.1):Int)/\(↑(i_1.1):Int)<2)/\(q.1 bb/\bc+1+toNat (↑(i_1.1):Int)*1<q.2 bb/\z6 .f64 (q.3 bb (bc+1+toNat (↑(Prod.fst i_1):Int)*1)))/\fok BinOp.sub .f64 (j6 (q.3 (kb (q.3 rb
 rc)) (1+toNat (↑(i.1):Int)*5+3+toNat (↑(i_1.1):Int)*1))) (j6 (q.3 bb (bc+1+toNat (↑(i_1.1):Int)*1)))/\fok BinOp.mul .f64 ((i_1.2).1) (fop BinOp.sub .f64 (j6 (q.3 (kb (q.3 rb rc)) (1+toNat (↑(i.1):Int) *
 5+3+toNat (↑(i_1.1):Int)*1))) (j6 (q.3 bb (bc+1+toNat (↑(i_1.1):Int)*1))))/\true=true/\∃ (pq:Nat×Nat×Nat),(pq.1<=2/\fb (Prod.fst (pq.2)) (pq.1)/\fb ((pq.2).2) 2)/\2-pq.1<2-i_1.1/\((True/\rb=rb/\rc
 = rc)/\(True/\bb=bb/\bc=bc)/\(i.2).1=(i.2).1/\((i.2).2).1=((i.2).2).1/\((i.2).2).2=((i.2).2).2/\(True/\kb (q.3 rb rc)=kb (q.3 rb rc)/\0=0)/\(↑(i.1):Int)=(↑(i.1):Int)/\(i_1.2).2=(pq.2).2/\fop BinOp.mul .f64
 ((i_1.2).1) (fop BinOp.sub .f64 (j6 (q.3 (kb (q.3 rb rc)) (1+toNat (↑(i.1):Int)*5+3+toNat (↑(i_1.1):Int)*1))) (j6 (q.3 bb (bc+1+toNat (↑(i_1.1):Int)*1))))=(pq.2).1/\wrap .i64 ((↑(i_1.1):Int)+1) =
 (↑(pq.1):Int)/\True)/\True/\(0=0/\0=0/\ts=ts/\q.3=q.3/\q.2=q.2/\RM.D q=RM.D q)/\True)/\(fLt .f64 (j6 (q.3 bb (bc+1+toNat (↑(i_1.1):Int)*1))) (j6 (q.3 (kb (q.3 rb rc)) (1+toNat (↑(i.1):Int)*5+1 +
 toNat (↑(i_1.1):Int)*1)))=false->(0<=(↑(i.1):Int)/\(↑(i.1):Int)<17)/\(0<=(↑(i_1.1):Int)/\(↑(i_1.1):Int)<2)/\(q.1 (kb (q.3 rb rc))/\1+toNat (↑(i.1):Int)*5+3+toNat (↑(i_1.1):Int)*1<q.2 (kb (q.3 rb
 rc))/\z6 .f64 (q.3 (kb (q.3 rb rc)) (1+toNat (↑(i.1):Int)*5+3+toNat (↑(i_1.1):Int)*1)))/\(0<=(↑(i.1):Int)/\(↑(i.1):Int)<17)/\(0<=(↑(i_1.1):Int)/\(↑(i_1.1):Int)<2)/\(q.1 (kb (q.3 rb rc))/\1+toNat
 (↑(i.1):Int)*5+1+toNat (↑(i_1.1):Int)*1<q.2 (kb (q.3 rb rc))/\z6 .f64 (q.3 (kb (q.3 rb rc)) (1+toNat (↑(i.1):Int)*5+1+toNat (↑(i_1.1):Int)*1)))/\fok BinOp.sub .f64 (j6 (q.3 (kb (q.3 rb rc)) (1 +
 toNat (↑(i.1):Int)*5+3+toNat (↑(i_1.1):Int)*1))) (j6 (q.3 (kb (q.3 rb rc)) (1+toNat (↑(i.1):Int)*5+1+toNat (↑(i_1.1):Int)*1)))/\fok BinOp.mul .f64 ((i_1.2).1) (fop BinOp.sub .f64 (j6 (q.3 (kb (q.3 rb
 rc)) (1+toNat (↑(i.1):Int)*5+3+toNat (↑(i_1.1):Int)*1))) (j6 (q.3 (kb (q.3 rb rc)) (1+toNat (↑(i.1):Int)*5+1+toNat (↑(i_1.1):Int)*1))))/\true=true/\∃ (pq:Nat×Nat×Nat),(pq.1<=2/\fb ((pq.2).1)
 (pq.1)/\fb (Prod.snd (pq.2)) 2)/\2-pq.1<2-i_1.1/\((True/\rb=rb/\rc=rc)/\(True/\bb=bb/\bc=bc)/\(i.2).1=(i.2).1/\((i.2).2).1=(Prod.snd (i.2)).1/\((i.2).2).2=((i.2).2).2/\(True/\kb (q.3 rb rc)=kb (q.3 rb rc)/\0=0)
 /\(↑(i.1):Int)=(↑(i.1):Int)/\Prod.snd (i_1.2)=(pq.2).2/\fop BinOp.mul .f64 ((i_1.2).1) (fop BinOp.sub .f64 (j6 (q.3 (kb (q.3 rb rc)) (1+toNat (↑(i.1):Int)*5+3+toNat (↑(i_1.1):Int)*1))) (j6 (q.3 (kb (q.3 rb rc)) (1
 + toNat (↑(i.1):Int)*5+1+toNat (↑(i_1.1):Int)*1))))=(pq.2).1/\wrap .i64 ((↑(i_1.1):Int)+1)=(↑(pq.1):Int)/\True)/\True/\(0=0/\0=0/\ts=ts/\q.3=q.3/\q.2=q.2/\RM.D q=RM.D q)/\
 True))){T2}(t2:T2=λ(i:Nat×Int×Nat×Nat) (i_1:Nat×Nat×Nat)=>(fGt .f64 (j6 (q.3 bb (bc+3+toNat (↑(i_1.1):Int)*1))) (j6 (q.3 (kb (q.3 rb rc)) (1+toNat (↑(i.1):Int)*5+3+toNat (↑(i_1.1):Int)*1)))=true->
 (0<=(↑(i_1.1):Int)/\(↑(i_1.1):Int)<2)/\(q.1 bb/\bc+1+toNat (↑(i_1.1):Int)*1<q.2 bb/\z6 .f64 (q.3 bb (bc+1+toNat (↑(i_1.1):Int)*1)))/\(0<=(↑(i.1):Int)/\(↑(i.1):Int)<17)/\(0<=(↑(i_1.1):Int)/\
 (↑(i_1.1):Int)<2)/\(q.1 (kb (q.3 rb rc))/\1+toNat (↑(i.1):Int)*5+1+toNat (↑(i_1.1):Int)*1<q.2 (kb (q.3 rb rc))/\z6 .f64 (q.3 (kb (q.3 rb rc)) (1+toNat (↑(i.1):Int)*5+1+toNat (↑(i_1.1):Int)*1)))
 /\true=true/\(fLt .f64 (j6 (q.3 bb (bc+1+toNat (↑(i_1.1):Int)*1))) (j6 (q.3 (kb (q.3 rb rc)) (1+toNat (↑(i.1):Int)*5+1+toNat (↑(i_1.1):Int)*1)))=true->(0<=(↑(i_1.1):Int)/\(↑(i_1.1):Int)<(2:Int))
 /\(q.1 bb/\bc+3+toNat (↑(i_1.1):Int)*1<q.2 bb/\z6 .f64 (q.3 bb (bc+3+toNat (↑(i_1.1):Int)*1)))/\(0<=(↑(i_1.1):Int)/\(↑(i_1.1):Int)<(2:Int))/\(q.1 bb/\bc+1+toNat (↑(i_1.1):Int)*1<q.2 bb/\
 z6 .f64 (q.3 bb (bc+1+toNat (↑(i_1.1):Int)*1)))/\fok BinOp.sub .f64 (j6 (q.3 bb (bc+3+toNat (↑(i_1.1):Int)*1))) (j6 (q.3 bb (bc+1+toNat (↑(i_1.1):Int)*1)))/\fok BinOp.mul .f64 ((i_1.2).1) (fop BinOp.sub
 .f64 (j6 (q.3 bb (bc+3+toNat (↑(i_1.1):Int)*1))) (j6 (q.3 bb (bc+1+toNat (↑(i_1.1):Int)*1))))/\true=true/\∃ (pq:Nat×Nat×Nat),(pq.1<=2/\fb (Prod.fst (pq.2)) (pq.1)/\fb ((pq.2).2) 2)/\2-pq.1<2-i_1.1/\
 ((True/\rb=rb/\rc=rc)/\(True/\bb=bb/\bc=bc)/\(i.2).1=(i.2).1/\((i.2).2).1=((i.2).2).1/\((i.2).2).2=((i.2).2).2/\(True/\kb (q.3 rb rc)=kb (q.3 rb rc)/\0=0)/\(↑(i.1):Int)=(↑(i.1):Int)/\(i_1.2).2=(pq.2).2/\fop
 BinOp.mul .f64 ((i_1.2).1) (fop BinOp.sub .f64 (j6 (q.3 bb (bc+3+toNat (↑(i_1.1):Int)*1))) (j6 (q.3 bb (bc+1+toNat (↑(i_1.1):Int)*1))))=(pq.2).1/\wrap .i64 ((↑(i_1.1):Int)+1)=(↑(pq.1):Int)/\True)/\
 True/\(0=0/\0=0/\ts=ts/\q.3=q.3/\q.2=q.2/\RM.D q=RM.D q)/\True)/\(fLt .f64 (j6 (q.3 bb (bc+1+toNat (↑(i_1.1):Int)*1))) (j6 (q.3 (kb (q.3 rb rc)) (1+toNat (↑(i.1):Int)*5+1+toNat (↑(i_1.1):Int) *
 1)))=false->(0<=(↑(i_1.1):Int)/\(↑(i_1.1):Int)<2)/\(q.1 bb/\bc+3+toNat (↑(i_1.1):Int)*1<q.2 bb/\z6 .f64 (q.3 bb (bc+3+toNat (↑(i_1.1):Int)*1)))/\(0<=(↑(i.1):Int)/\(↑(i.1):Int)<17)/\(0<=
 (↑(Prod.fst i_1):Int)/\(↑(i_1.1):Int)<2)/\(q.1 (kb (q.3 rb rc))/\1+toNat (↑(i.1):Int)*5+1+toNat (↑(i_1.1):Int)*1<q.2 (kb (q.3 rb rc))/\z6 .f64 (q.3 (kb (q.3 rb rc)) (1+toNat (↑(i.1):Int)*5+1 +
 toNat (↑(i_1.1):Int)*1)))/\fok BinOp.sub .f64 (j6 (q.3 bb (bc+3+toNat (↑(i_1.1):Int)*1))) (j6 (q.3 (kb (q.3 rb rc)) (1+toNat (↑(i.1):Int)*5+1+toNat (↑(i_1.1):Int)*1)))/\fok BinOp.mul .f64 ((i_1.2).1)
 (fop BinOp.sub .f64 (j6 (q.3 bb (bc+3+toNat (↑(i_1.1):Int)*1))) (j6 (q.3 (kb (q.3 rb rc)) (1+toNat (↑(i.1):Int)*5+1+toNat (↑(i_1.1):Int)*1))))/\true=true/\∃ (pq:Nat×Nat×Nat),(pq.1<=2/\fb ((pq.2).1)
 (pq.1)/\fb ((pq.2).2) 2)/\2-pq.1<2-i_1.1/\((True/\rb=rb/\rc=rc)/\(True/\bb=bb/\bc=bc)/\(i.2).1=(i.2).1/\((i.2).2).1=((i.2).2).1/\(Prod.snd (i.2)).2=((i.2).2).2/\(True/\kb (q.3 rb rc)=kb (q.3 rb rc)/\0=0)/\
 (↑(i.1):Int)=(↑(i.1):Int)/\(i_1.2).2=(pq.2).2/\fop BinOp.mul .f64 ((i_1.2).1) (fop BinOp.sub .f64 (j6 (q.3 bb (bc+3+toNat (↑(i_1.1):Int)*1))) (j6 (q.3 (kb (q.3 rb rc)) (1+toNat (↑(i.1):Int)*5+1+toNat
 (↑(i_1.1):Int)*1))))=(pq.2).1/\wrap .i64 ((↑(i_1.1):Int)+1)=(↑(pq.1):Int)/\True)/\True/\(0=0/\0=0/\ts=ts/\q.3=q.3/\q.2=q.2/\RM.D q=RM.D q)/\True))){T3}(t3:T3=λ(i:Nat×Int×Nat×Nat) (i_1:Nat×Nat×
 Nat)=>(decide ((↑(i_1.1):Int)<2)=false->fok BinOp.sub .f64 ((i_1.2).1) ((i_1.2).2)/\(((i.2).1==(-1:Int))=true->∃ (pq:Nat×Int×Nat×Nat),(pq.1<=List.length (A3 q (kb (q.3 rb rc)))/\(pq.1=0/\(pq.2).1=(-1:Int)∨(0 :
 Int)<=(pq.2).1/\(pq.2).1<(↑(pq.1):Int)))/\List.length (A3 q (kb (q.3 rb rc)))-pq.1<List.length (A3 q (kb (q.3 rb rc)))-i.1/\((True/\rb=rb/\rc=rc)/\(True/\bb=bb/\bc=bc)/\(↑(i.1):Int)=(pq.2).1/\fop BinOp.sub .f64
 ((i_1.2).1) ((i_1.2).2)=((pq.2).2).1/\(i_1.2).2=((pq.2).2).2/\(True/\kb (q.3 rb rc)=kb (q.3 rb rc)/\0=0)/\wrap .i64 ((↑(i.1):Int)+1)=(↑(pq.1):Int)/\True)/\True/\(0=0/\0=0/\ts=ts/\q.3=q.3/\q.2=q.2/\RM.D
 q=RM.D q)/\True)/\(((i.2).1==(-1:Int))=false->(fLt .f64 (fop BinOp.sub .f64 ((i_1.2).1) ((i_1.2).2)) (((i.2).2).1)=true->∃ (pq:Nat×Int×Nat×Nat),(pq.1<=List.length (A3 q (kb (q.3 rb rc)))/\(pq.1=0/\(pq.2).1=(-1:Int)
 ∨(0:Int)<=(pq.2).1/\(pq.2).1<(↑(pq.1):Int)))/\List.length (A3 q (kb (q.3 rb rc)))-pq.1<List.length (A3 q (kb (q.3 rb rc)))-i.1/\((True/\rb=rb/\rc=rc)/\(True/\bb=bb/\bc=bc)/\(↑(i.1):Int)=(pq.2).1/\fop BinOp.sub
 .f64 ((i_1.2).1) ((i_1.2).2)=((pq.2).2).1/\(i_1.2).2=((pq.2).2).2/\(True/\kb (q.3 rb rc)=kb (q.3 rb rc)/\0=0)/\wrap .i64 ((↑(i.1):Int)+1)=(↑(pq.1):Int)/\True)/\True/\(0=0/\0=0/\ts=ts/\q.3=q.3/\q.2=q.2/\
 RM.D q=RM.D q)/\True)/\(fLt .f64 (fop BinOp.sub .f64 ((i_1.2).1) ((i_1.2).2)) (((i.2).2).1)=false->(fEq .f64 (fop BinOp.sub .f64 ((i_1.2).1) ((i_1.2).2)) (((i.2).2).1)=true->(fLt .f64 ((i_1.2).2) (((i.2).2).2)=true->∃ (pq:Nat×Int×
 Nat×Nat),(pq.1<=List.length (A3 q (kb (q.3 rb rc)))/\(pq.1=0/\(pq.2).1=(-1:Int)∨(0:Int)<=(pq.2).1/\(pq.2).1<(↑(pq.1):Int)))/\List.length (A3 q (kb (q.3 rb rc)))-pq.1<List.length (A3 q (kb (q.3 rb rc)))-i.1/\((True
 /\rb=rb/\rc=rc)/\(True/\bb=bb/\bc=bc)/\(↑(i.1):Int)=(pq.2).1/\fop BinOp.sub .f64 ((i_1.2).1) ((i_1.2).2)=((pq.2).2).1/\(i_1.2).2=((pq.2).2).2/\(True/\kb (q.3 rb rc)=kb (q.3 rb rc)/\0=0)/\wrap .i64 ((↑(i.1) :
 Int)+1)=(↑(pq.1):Int)/\True)/\True/\(0=0/\0=0/\ts=ts/\q.3=q.3/\q.2=q.2/\RM.D q=RM.D q)/\True)/\(fLt .f64 ((i_1.2).2) (((i.2).2).2)=false->∃ (pq:Nat×Int×Nat×Nat),(pq.1<=List.length (A3 q (kb (q.3 rb rc)))/\
 (pq.1=0/\Prod.fst (pq.2)=(-1:Int)∨(0:Int)<=(pq.2).1/\(pq.2).1<(↑(pq.1):Int)))/\List.length (A3 q (kb (q.3 rb rc)))-pq.1<List.length (A3 q (kb (q.3 rb rc)))-i.1/\((True/\rb=rb/\rc=rc)/\(True/\bb=bb/\bc=bc)/\
 (i.2).1=(pq.2).1/\((i.2).2).1=((pq.2).2).1/\(Prod.snd (i.2)).2=((pq.2).2).2/\(True/\kb (q.3 rb rc)=kb (q.3 rb rc)/\0=0)/\wrap .i64 ((↑(i.1):Int)+1)=(↑(pq.1):Int)/\True)/\True/\(0=0/\0=0/\ts=ts/\q.3=q.3/\
 q.2=q.2/\RM.D q=RM.D q)/\True))/\(fEq .f64 (fop BinOp.sub .f64 ((i_1.2).1) ((i_1.2).2)) ((Prod.snd (i.2)).1)=false->∃ (pq:Nat×Int×Nat×Nat),(pq.1<=List.length (A3 q (kb (q.3 rb rc)))/\(pq.1=0/\(pq.2).1=(-1:Int)∨(0 :
 Int)<=(pq.2).1/\(pq.2).1<(↑(pq.1):Int)))/\List.length (A3 q (kb (q.3 rb rc)))-pq.1<List.length (A3 q (kb (q.3 rb rc)))-i.1/\((True/\rb=rb/\rc=rc)/\(True/\bb=bb/\bc=bc)/\(i.2).1=(pq.2).1/\((i.2).2).1=((pq.2).2).1
 /\((i.2).2).2=((pq.2).2).2/\(True/\kb (q.3 rb rc)=kb (q.3 rb rc)/\0=0)/\wrap .i64 ((↑(i.1):Int)+1)=(↑(pq.1):Int)/\True)/\True/\(0=0/\0=0/\ts=ts/\q.3=q.3/\q.2=q.2/\RM.D q=RM.D q)/\True))))){T4}(t4:T4=(kb
 (q.3 rb rc))){T5}(t5:T5=λ(i:Nat×Int×Nat×Nat)=>(↑(i.1):Int)){T6}(t6:T6=(0=0/\0=0/\ts=ts/\q.3=q.3/\q.2=q.2/\RM.D q=RM.D q)){T7}(t7:T7=λ(i:Nat×Int×Nat×Nat)=>(fop BinOp.sub .f64 (j6 (q.3 T4 (1+toNat (T5 i) *
 5+3+0))) (j6 (q.3 T4 (1+toNat (T5 i)*5+1+0))))){T8}(t8:T8=(True/\kb (q.3 rb rc)=kb (q.3 rb rc)/\0=0)){T9}(t9:T9=λ(i_1:Nat×Nat×Nat)=>(↑(i_1.1):Int)){T10}(t10:T10=λ(pq:Nat×Nat×Nat)=>(pq.1<=2/\fb ((pq.2).1)
 (pq.1)/\fb ((pq.2).2) 2)){T11}(t11:T11=λ(i:Nat×Int×Nat×Nat)=>(q.3 T4 (1+toNat (T5 i)*5+1+1))){T12}(t12:T12=(True/\rb=rb/\rc=rc)){T13}(t13:T13=(True/\bb=bb/\bc=bc)){T14}(t14:T14=λ(i:Nat×Int×Nat×Nat)=>(q.3 T4
 (1+toNat (T5 i)*5+3+1))){T15}(t15:T15=λ(i_1:Nat×Nat×Nat)=>(q.1 bb/\bc+3+toNat (T9 i_1)*1<q.2 bb/\z6 .f64 (q.3 bb (bc+3+toNat (T9 i_1)*1)))):K8 X0 1 [(4,chL ts q rb rc bb bc),(8, .iter 2)] [] (p9 f134) (A6 f134.ntmps [.pb 0 rb rc, .pb 0 bb bc] [(0,rwO ts q)] 1) (A8 X0.G.E.T f134.results.toList λS v=>R (Go.Sx.look S.H 0) v)=(
 (q.1 rb/\rc+0<q.2 rb)/\(a2u 207 (q.3 rb (rc+0))/\a1d (K0 (q.3 rb (rc+0))))/\(∃(pq:Nat×Int×Nat×Nat),(pq.1<=List.length (A3 q T4)/\(pq.1=0/\(pq.2).1=(-1:Int)∨(0:Int)<=(pq.2).1/\(pq.2).1<(↑(pq.1):Int)))/\
 (T12/\T13/\(-1:Int)=Prod.fst (pq.2)/\0=((pq.2).2).1/\0=((pq.2).2).2/\(True/\ptB (K0 (q.3 rb (rc+0)))=kb (q.3 rb rc)/\ptC (K0 (q.3 rb (rc+0)))=0)/\0=(↑(pq.1):Int)/\True)/\True/\T6/\True)/\∀(i:Nat×Int×Nat×
 Nat),i.1<=List.length (A3 q T4)/\(i.1=0/\(i.2).1=(-1:Int)∨(0:Int)<=(i.2).1/\(i.2).1<(T5 i))->(q.1 T4/\0<q.2 T4/\B9 .i64 (q.3 T4 0))/\(decide ((T5 i)<p7 (q.3 T4 0))=true->((0:Int)<=(T5 i)/\(T5 i)<17)/\((0 :
 Int)<=0/\(0:Int)<2)/\(q.1 T4/\1+toNat (T5 i)*5+3+0<q.2 T4/\z6 .f64 (q.3 T4 (1+toNat (T5 i)*5+3+0)))/\(0<=(T5 i)/\(T5 i)<(17:Int))/\((0:Int)<=0/\(0:Int)<2)/\(q.1 T4/\1+toNat (T5 i)*5+1
 + 0<q.2 T4/\z6 .f64 (q.3 T4 (1+toNat (T5 i)*5+1+0)))/\fok BinOp.sub .f64 (j6 (q.3 T4 (1+toNat (T5 i)*5+3+0))) (j6 (q.3 T4 (1+toNat (T5 i)*5+1+0)))/\true=true/\(true=true->(0<=(T5 i)/\(T5 i) <
 17)/\((0:Int)<=1/\(1:Int)<2)/\(q.1 T4/\1+toNat (T5 i)*5+3+1<q.2 T4/\z6 .f64 (T14 i))/\(0<=(T5 i)/\(T5 i)<17)/\((0:Int)<=1/\(1:Int)<(2:Int))/\(q.1 T4/\1+toNat (T5 i)*5+1+1<q.2 T4/\z6
 .f64 (T11 i))/\fok BinOp.sub .f64 (j6 (T14 i)) (j6 (T11 i))/\fok BinOp.mul .f64 (T7 i) (fop BinOp.sub .f64 (j6 (T14 i)) (j6 (T11 i)))/\true=true/\(false=true->(0<=(T5 i)/\(T5 i)<17)/\((0:Int)<=2/\(2:Int)<2)/\(q.1 T4/\1
 + toNat (T5 i)*5+3+2<q.2 T4/\z6 .f64 (q.3 T4 (1+toNat (T5 i)*5+3+2)))/\((0:Int)<=(T5 i)/\(T5 i)<17)/\((0:Int)<=2/\(2:Int)<2)/\(q.1 T4/\1+toNat (T5 i)*5+1+2<q.2 T4/\z6 .f64 (q.3 T4 (1 +
 toNat (T5 i)*5+1+2)))/\fok BinOp.sub .f64 (j6 (q.3 T4 (1+toNat (T5 i)*5+3+2))) (j6 (q.3 T4 (1+toNat (T5 i)*5+1+2)))/\fok BinOp.mul .f64 (fop BinOp.mul .f64 (T7 i) (fop BinOp.sub .f64 (j6 (T14 i)) (j6 (T11
 i)))) (fop BinOp.sub .f64 (j6 (q.3 T4 (1+toNat (↑(Prod.fst i):Int)*5+3+2))) (j6 (q.3 T4 (1+toNat (T5 i)*5+1+2))))/\true=true/\False)/\(false=false->(∃(pq:Nat×Nat×Nat),(T10 pq)/\(T12/\T13/\(i.2).1 =
 Prod.fst (i.2)/\((i.2).2).1=((i.2).2).1/\((i.2).2).2=((i.2).2).2/\T8/\(T5 i)=(T5 i)/\fop BinOp.mul .f64 (T7 i) (fop BinOp.sub .f64 (j6 (q.3 T4 (1+toNat (↑(Prod.fst i):Int)*5+3+1))) (j6 (T11 i)))=(pq.2).2/\
 4607182418800017408=(pq.2).1/\0=(↑(pq.1):Int)/\True)/\True/\T6/\True)/\∀(j:Nat×Nat×Nat),j.1<=2/\fb ((j.2).1) (j.1)/\fb ((j.2).2) 2->(∃(pq:Nat×Nat×Nat),(T10 pq)/\(T12/\T13/\(i.2).1=(i.2).1/\((i.2).2).1 =
 ((i.2).2).1/\Prod.snd ((i.2).2)=((i.2).2).2/\T8/\(T5 i)=(T5 i)/\(j.2).2=Prod.snd (pq.2)/\(j.2).1=(pq.2).1/\(↑(j.1):Int)=(↑(pq.1):Int)/\True)/\True/\T6/\True)/\∀(i_1:Nat×Nat×Nat),i_1.1<=2/\fb ((i_1.2).1) (i_1.1)/\fb
 ((i_1.2).2) 2->(decide ((T9 i_1)<2)=true->((0:Int)<=(T9 i_1)/\(T9 i_1)<2)/\(T15 i_1)/\((0:Int)<=(T5 i)/\(T5 i)<17)/\(0<=(T9 i_1)/\(T9 i_1)<2)/\(q.1 T4/\1+toNat (T5 i)*5+3+toNat (T9 i_1)*1<q.2 T4/\z6
 .f64 (q.3 T4 (1+toNat (T5 i)*5+3+toNat (↑(Prod.fst i_1):Int)*1)))/\true=true/\(T2 i i_1)/\(T1 i i_1))/\(T3 i i_1)))/\(true=false->(∃(pq:Nat×Nat×Nat),(T10 pq)/\(T12/\T13/\(i.2).1=(i.2).1/\((i.2).2).1 =
 ((i.2).2).1/\((i.2).2).2=((Prod.snd i).2).2/\T8/\(T5 i)=(T5 i)/\fop BinOp.sub .f64 (j6 (q.3 T4 (1+toNat (T5 i)*5+3+0))) (j6 (q.3 T4 (1+toNat (T5 i)*5+1+0)))=(pq.2).2/\4607182418800017408=(pq.2).1/\0 =
 (↑(pq.1):Int)/\True)/\True/\T6/\True)/\∀(j:Nat×Nat×Nat),j.1<=2/\fb ((j.2).1) (j.1)/\fb ((j.2).2) 2->(∃(pq:Nat×Nat×Nat),(T10 pq)/\(T12/\T13/\(i.2).1=(i.2).1/\((i.2).2).1=((i.2).2).1/\((i.2).2).2=((i.2).2).2/\T8/\
 (T5 i)=(T5 i)/\(j.2).2=(pq.2).2/\(j.2).1=(pq.2).1/\(↑(j.1):Int)=(↑(pq.1):Int)/\True)/\True/\T6/\True)/\∀(i_1:Nat×Nat×Nat),i_1.1<=2/\fb ((i_1.2).1) (i_1.1)/\fb ((i_1.2).2) 2->(decide ((T9 i_1)<2)=true->((0:Int)<=
 (T9 i_1)/\(T9 i_1)<2)/\(T15 i_1)/\(0<=(T5 i)/\(T5 i)<17)/\(0<=(T9 i_1)/\(T9 i_1)<2)/\(q.1 T4/\1+toNat (T5 i)*5+3+toNat (T9 i_1)*1<q.2 T4/\z6 .f64 (q.3 T4 (1+toNat (T5 i)*5+3+toNat (T9 i_1) *
 1)))/\true=true/\(T2 i i_1)/\(T1 i i_1))/\(T3 i i_1)))/\(decide ((T5 i)<p7 (q.3 T4 0))=false->R (Option.some (Ob.mk true 0 (a9.raw ts (RM.D q) q.2 q.3) 0)) (SV.int .i64 ((i.2).1)))):=by subst t1 t2 t3 t4 t5 t6 t7 t8 t9 t10 t11 t12 t13 t14 t15;kernel_rfl
theorem b8S:z0 prog 134 (o9 (Nat) ⟨default⟩ a5J):=by
 refine D7 x0 func134 rfl (by kernel_rfl) λargs=>?_
 unfold a5J;split;rotate_left;trivial;rename_i n rb rc n1 bb bc;intro o0;try dsimp only
 split;rotate_left;trivial;rename_i ts q hm0;intro(ho:n=n1/\(hangs q rb rc/\okR q bb bc/\1<=(A3 q (kb (q.F rb rc))).length));obtain⟨heq0,ho⟩:=ho;subst heq0;refine⟨?_,Nat.succ_pos _,ts,λ(i:Nat)=>q,λ(i:Nat)=>.int .i64 (i:Nat),λ_=>rfl,?_,_,_,(b2R (I7 1 ts (λ(i:Nat)=>i<(A3 q (kb (q.F rb rc))).length) (λ(i:Nat)=>q) (λ(i:Nat)=>.int .i64 (i:Nat))) ts q rb rc bb bc rfl rfl rfl rfl rfl rfl rfl rfl rfl rfl rfl rfl rfl rfl rfl).mpr ?_⟩
 ·refine j8 rfl ⟨λ_=>rfl,?_,⟨trivial,B8 hm0,trivial⟩⟩;simp[q9,z5,z8,z3,nth,g9]
 ·intro i _;rfl
 ·obtain⟨⟨d,s,hr,hne,hnd⟩,⟨d2,s2,b2⟩,hl1⟩:=ho;obtain⟨f1,f2,f3,f4⟩:=hr.facts;simp only[true_and,and_true,eq_self,tN9,Nat.mul_one,decide_eq_true_eq,decide_eq_false_iff_not,true_implies,false_implies,Bool.false_eq_true,reduceCtorEq,Int.reduceLE,Int.reduceLT,Int.le_refl];simp only[Nat.add_zero,f3,f4];generalize kb (q.F rb rc)=nb at *;generalize A3 q nb=l at *;have hle:=hnd.le;have hS:=hnd.S;have hn:p7 (q.F nb 0)=(l.length:Nat):=by rw[hnd.n];rfl
  refine⟨⟨d,by omega⟩,⟨f1,f2⟩,⟨(0,-1,0,0),⟨Nat.zero_le _, .inl ⟨rfl,rfl⟩⟩,(by and_intros <;> first|trivial|rfl|(rw[j5 (by omega) (by omega)];first|rfl|omega))⟩,?_⟩;rintro⟨i,j,x6,x7⟩ ⟨hi,hj⟩;dsimp only at hi hj ⊢;simp only[hn,hnd.D,d2,true_and];refine⟨⟨by omega,by rw[hnd.n];rfl⟩,λhlt=>?_,λhge=>?_⟩
  ·have hi2:i<l.length:=by omega
   have hb:=hnd.B i _ (List.getElem?_eq_getElem hi2);rw[Nat.mul_comm]at hb;have a0:=hb.lo (k:=0) (by omega);have a1:=hb.lo (k:=1) (by omega);have a2:=hb.hi (k:=0) (by omega);have a3:=hb.hi (k:=1) (by omega);simp only[Nat.add_zero]at a0 a2;obtain⟨m1,m2⟩:=a4j a2 a0;obtain⟨m3,m4⟩:=a4j a3 a1;obtain⟨m5,m6⟩:=a0R m2 m4 (by omega);have hr17:(0:Int)<=i/\(i:Int)<17:=by omega
   simp only[a0.flt,a1.flt,a2.flt,a3.flt,m1,m3,m5,and_true,true_and];refine⟨hr17,by omega,hr17,by omega,hr17,by omega,hr17,by omega,⟨(0,_,_),⟨Nat.zero_le _,c2u,m6⟩,(by and_intros <;> first|trivial|rfl|(rw[j5 (by omega) (by omega)];first|rfl|omega))⟩,?_⟩;rintro⟨k0,x0,y0⟩ ⟨hk0,hx0,hy0⟩;dsimp only at hk0 hx0 hy0 ⊢;refine⟨⟨(k0,x0,y0),⟨hk0,hx0,hy0⟩,(by and_intros <;> first|trivial|rfl|(rw[j5 (by omega) (by omega)];first|rfl|omega))⟩,?_⟩;rintro⟨k,x,y⟩ ⟨hk,hx,hy⟩;dsimp only at hk hx hy ⊢;refine⟨λhk1=>?_,λhk1=>?_⟩
   ·have hk2:k<2:=by omega
    have b0:=b2.lo hk2;have b1:=b2.hi hk2;have c0:=hb.lo hk2;have c1:=hb.hi hk2;have n1:=a4j b1 b0;have n2:=a4j b1 c0;have n3:=a4j c1 b0;have n4:=a4j c1 c0;have hk3:(0:Int)<=k/\(k:Int)<2:=by omega
    simp only[b0.flt,b1.flt,c0.flt,c1.flt,n1.1,n2.1,n3.1,n4.1,(a0R hx n1.2 (by omega)).1,(a0R hx n2.2 (by omega)).1,(a0R hx n3.2 (by omega)).1,(a0R hx n4.2 (by omega)).1,hk3.1,hk3.2,hr17.1,hr17.2,and_true,true_and]
    refine⟨by omega,by omega,λ_=>⟨by omega,by omega,λ_=>⟨by omega,by omega,(k+1,_,_),⟨by omega,(a0R hx n1.2 (by omega)).2,hy⟩,by show 2-(k+1)<2-k;omega,(by and_intros <;> first|trivial|rfl|(rw[j5 (by omega) (by omega)];first|rfl|omega))⟩,λ_=>⟨by omega,by omega,(k+1,_,_),⟨by omega,(a0R hx n2.2 (by omega)).2,hy⟩,by show 2-(k+1)<2-k;omega,(by and_intros <;> first|trivial|rfl|(rw[j5 (by omega) (by omega)];first|rfl|omega))⟩⟩,
     λ_=>⟨by omega,by omega,λ_=>⟨by omega,by omega,(k+1,_,_),⟨by omega,(a0R hx n3.2 (by omega)).2,hy⟩,by show 2-(k+1)<2-k;omega,(by and_intros <;> first|trivial|rfl|(rw[j5 (by omega) (by omega)];first|rfl|omega))⟩,λ_=>⟨by omega,by omega,(k+1,_,_),⟨by omega,(a0R hx n4.2 (by omega)).2,hy⟩,by show 2-(k+1)<2-k;omega,(by and_intros <;> first|trivial|rfl|(rw[j5 (by omega) (by omega)];first|rfl|omega))⟩⟩⟩
   ·have hk2:k=2:=by omega
    subst hk2;refine⟨b8M hx hy,λ_=>⟨(i+1,(i:Int),_,_),⟨by show i+1<=l.length;omega, .inr ⟨by show (0:Int)<=i;omega,by show (i:Int)<((i+1:Nat):Int);omega⟩⟩,by show l.length-(i+1)<l.length-i;omega,(by and_intros <;> first|trivial|rfl|(rw[j5 (by omega) (by omega)];first|rfl|omega))⟩,λhj1=>?_⟩;have hj2:j≠-1:=λe=>by rw[e]at hj1;exact absurd hj1 (by decide)
    exact⟨λ_=>⟨(i+1,(i:Int),_,_),⟨by show i+1<=l.length;omega, .inr ⟨by show (0:Int)<=i;omega,by show (i:Int)<((i+1:Nat):Int);omega⟩⟩,by show l.length-(i+1)<l.length-i;omega,(by and_intros <;> first|trivial|rfl|(rw[j5 (by omega) (by omega)];first|rfl|omega))⟩,λ_=>⟨λ_=>⟨λ_=>⟨(i+1,(i:Int),_,_),⟨by show i+1<=l.length;omega, .inr ⟨by show (0:Int)<=i;omega,by show (i:Int)<((i+1:Nat):Int);omega⟩⟩,by show l.length-(i+1)<l.length-i;omega,(by and_intros <;> first|trivial|rfl|(rw[j5 (by omega) (by omega)];first|rfl|omega))⟩,λ_=>⟨(i+1,j,_,_),⟨by show i+1<=l.length;omega, .inr ⟨by show (0:Int)<=j;omega,by show j<((i+1:Nat):Int);omega⟩⟩,by show l.length-(i+1)<l.length-i;omega,(by and_intros <;> first|trivial|rfl|(rw[j5 (by omega) (by omega)];first|rfl|omega))⟩⟩,λ_=>⟨(i+1,j,_,_),⟨by show i+1<=l.length;omega, .inr ⟨by show (0:Int)<=j;omega,by show j<((i+1:Nat):Int);omega⟩⟩,by show l.length-(i+1)<l.length-i;omega,(by and_intros <;> first|trivial|rfl|(rw[j5 (by omega) (by omega)];first|rfl|omega))⟩⟩⟩
  ·have e:i=l.length:=by omega
   subst e;refine⟨j.toNat,?_,rfl,?_⟩
   ·show j.toNat<l.length;omega
   ·show j=((j.toNat:Nat):Int);omega
end
def a3f(q:RM)(b c:Nat):Prop:=q.D b/\c+2<=q.S b/\fz (q.F b c) (zI (q.F b c))/\fz (q.F b (c+1)) (zI (q.F b (c+1)))
theorem a3f.mk'{q:RM}{b c:Nat}{x y:Int}(hD:q.D b)(hS:c+2<=q.S b)(h1:fz (q.F b c) x)(h2:fz (q.F b (c+1)) y):a3f q b c:=⟨hD,hS,by rw[h1.zI];exact h1,by rw[h2.zI];exact h2⟩
def fW(rb rc:Nat):Nat->Nat->Prop:=λb c=>b=rb/\rc<=c/\c<rc+5
def a0b(q:RM)(mb mc xb xc rb rc:Nat)(v:Value):RM:=⟨q.D,q.S,j0 (j0 (j0 (j0 (j0 q.F rb (rc+1) (q.F mb mc)) rb (rc+3) (q.F xb xc)) rb (rc+1+1) (q.F mb (mc+1))) rb (rc+3+1) (q.F xb (xc+1))) rb rc v⟩
def c7x(q:RM)(mb mc xb xc rb rc:Nat)(v:Value)(q':RM):Prop :=
 L4 q q' (fW rb rc)/\isBox q'.F rb rc ⟨zI (q.F mb mc),zI (q.F mb (mc+1)),zI (q.F xb xc),zI (q.F xb (xc+1))⟩/\q'.F rb rc=v
def a7n(q:RM)(mb mc l xb xc l1 rb rc:Nat):Prop:=(l=2/\l1=2)/\a3f q mb mc/\a3f q xb xc/\(mb≠rb/\xb≠rb)/\q.D rb/\rc+5<=q.S rb
theorem b0y{q:RM}{mb mc l xb xc l1 rb rc:Nat}{v:Value}(ho:a7n q mb mc l xb xc l1 rb rc) :
  c7x q mb mc xb xc rb rc v (a0b q mb mc xb xc rb rc v):=by
 obtain⟨_,⟨d1,s1,a0,a1⟩,⟨d2,s2,b0,b1⟩,⟨n1,n2⟩,d,s⟩:=ho;refine⟨⟨rfl,rfl,λb c hw=>?_⟩,⟨?_,?_,?_,?_⟩,A2⟩
 ·unfold fW at hw;show j0 _ _ _ _ _ _=_;rw[b9 (by omega),b9 (by omega),b9 (by omega),b9 (by omega),b9 (by omega)]
 ·simpa [a0b,j0]using a0
 ·simpa [a0b,j0]using a1
 ·simpa [a0b,j0]using b0
 ·simpa [a0b,j0]using b1
noncomputable def a9o:List SV->RRd (Unit)
 | [.slb n mb mc l k, .slb n1 xb xc l1 k1, .ifc t (.int .i64 v), .pb n2 rb rc]=>.read n λo0=>(match I5 o0 with
  | some (ts,q)=>.ret ⟨[.slb 0 mb mc l k, .slb 0 xb xc l1 k1, .ifc t (.int .i64 v), .pb 0 rb rc],[(0,rwO ts q)],some (n=n1/\n=n2/\(a7n q mb mc l xb xc l1 rb rc)),λ_i=>True,λ_i=>⟨[],[], .tup [],[(0,rwO ts (a0b q mb mc xb xc rb rc (.iface t (.int .i64 v))))],[],none⟩⟩
  | none=>.fail)
 | _=>.fail
theorem b6w(R:Option Ob->SV->Prop)(ts:List Nat)(q:RM)(mb mc l k xb xc l1 k1 t:Nat)(v:Int)(rb rc:Nat){T1}(t1:T1=(Value.float .f64 (j6 (j0 q.3 rb (rc+1+0) (Value.float .f64 (j6 (q.3 mb (mc+0)))) xb (xc+0))))){T2}(t2:T2=(j0 q.3 rb (rc+1+0) (Value.float .f64 (j6 (q.3 mb (mc+0)))))){T3}(t3:T3=(Value.float .f64 (j6 (j0 T2 rb
 (rc+3+0) T1 mb (mc+1))))){T4}(t4:T4=(Value.float .f64 (j6 (j0 (j0 T2 rb (rc+3+0) T1) rb (rc+1+1) T3 xb (xc+1))))){T5}(t5:T5=(j0 (j0 T2 rb (rc+3+0) T1) rb (rc+1+1) T3)){T6}(t6:T6=(q.1 rb/\rc+0+1<=q.2
 rb)){T7}(t7:T7=(Value.iface t (Value.int .i64 v))){T8}(t8:T8=(↑l:Int)){T9}(t9:T9=(↑l1:Int)):K8 X0 1 [(7, .iter 3)] [] (p9 f119) (A6 f119.ntmps [.slb 0 mb mc l k, .slb 0 xb xc l1 k1, .ifc t (.int .i64 v), .pb 0 rb rc] [(0,rwO ts q)] 1) (A8 X0.G.E.T f119.results.toList λS v=>R (Go.Sx.look S.H 0) v)=(
 ((T8 != T9)=true->False)/\((T8 != T9)=false->((T8 != (2:Int))=true->False)/\((T8 != (2:Int))=false->(true=true->((0:Int)<=0/\0<T8)/\(q.1 mb/\mc+0<q.2 mb/\z6 .f64 (q.3 mb (mc+0)))/\((0:Int)<=0/\(0:Int) <
 2)/\(q.1 rb/\rc+1+0+1<=q.2 rb)/\true=true/\((0:Int)<=0/\0<T9)/\(q.1 xb/\xc+0<q.2 xb/\z6 .f64 (j0 q.3 rb (rc+1+0) (Value.float .f64 (j6 (q.3 mb (mc+0)))) xb (xc+0)))/\((0:Int)<=0/\(0:Int)<2)/\(q.1 rb
 /\rc+3+0+1<=q.2 rb)/\true=true/\(true=true->((0:Int)<=1/\1<T8)/\(q.1 mb/\mc+1<q.2 mb/\z6 .f64 (j0 T2 rb (rc+3+0) T1 mb (mc+1)))/\((0:Int)<=1/\(1:Int)<2)/\(q.1 rb/\rc+1+1+1<=q.2 rb)/\true=true
 /\((0:Int)<=1/\1<T9)/\(q.1 xb/\xc+1<q.2 xb/\z6 .f64 (j0 (j0 T2 rb (rc+3+0) T1) rb (rc+1+1) T3 xb (xc+1)))/\((0:Int)<=1/\(1:Int)<2)/\(q.1 rb/\rc+3+1+1<=q.2 rb)/\true=true/\(false=true->((0:Int)
 <=2/\2<T8)/\(q.1 mb/\mc+2<q.2 mb/\z6 .f64 (j0 T5 rb (rc+3+1) T4 mb (mc+2)))/\((0:Int)<=2/\(2:Int)<2)/\(q.1 rb/\rc+1+2+1<=q.2 rb)/\true=true/\((0:Int)<=2/\2<T9)/\(q.1 xb/\xc+2<q.2 xb/\z6 .f64
 (j0 (j0 T5 rb (rc+3+1) T4) rb (rc+1+2) (Value.float .f64 (j6 (j0 T5 rb (rc+3+1) T4 mb (mc+2)))) xb (xc+2)))/\((0:Int)<=2/\(2:Int)<2)/\(q.1 rb/\rc+3+2+1<=q.2 rb)/\true=true/\False)/\(false=false->T6/\
 R (Option.some (Ob.mk true 0 (a9.raw ts (RM.D q) q.2 (j0 (j0 T5 rb (rc+3+1) T4) rb (rc+0) T7)) 0)) (SV.tup [])))/\(true=false->T6/\R (Option.some (Ob.mk true 0 (a9.raw ts (RM.D q) q.2 (j0 (j0 T2 rb (rc+3+0) T1) rb (rc+0)
 T7)) 0)) (SV.tup [])))/\(true=false->T6/\R (Option.some (Ob.mk true 0 (a9.raw ts (RM.D q) q.2 (j0 q.3 rb (rc+0) T7)) 0)) (SV.tup []))))):=by subst t1 t2 t3 t4 t5 t6 t7 t8 t9;kernel_rfl
theorem c3Y:z0 prog 119 (o9 (Unit) ⟨()⟩ a9o):=by
 refine D7 x0 func119 rfl (by kernel_rfl) λargs=>?_
 unfold a9o;split;rotate_left;trivial;rename_i n mb mc l k n1 xb xc l1 k1 t v n2 rb rc;intro o0;try dsimp only
 split;rotate_left;trivial;rename_i ts q hm0;intro(ho:n=n1/\n=n2/\(a7n q mb mc l xb xc l1 rb rc));obtain⟨heq0,heq1,ho⟩:=ho;subst heq0 heq1;refine⟨?_,Nat.succ_pos _,ts,λ(_i:Unit)=>a0b q mb mc xb xc rb rc (.iface t (.int .i64 v)),λ(_i:Unit)=>.tup [],λ_=>rfl,?_,_,_,(b6w (I7 1 ts (λ(_i:Unit)=>True) (λ(_i:Unit)=>a0b q mb mc xb xc rb rc (.iface t (.int .i64 v))) (λ(_i:Unit)=>.tup [])) ts q mb mc l k xb xc l1 k1 t v rb rc rfl rfl rfl rfl rfl rfl rfl rfl rfl).mpr ?_⟩
 ·refine j8 rfl ⟨λ_=>rfl,?_,⟨trivial,B8 hm0,trivial⟩⟩;simp[q9,z5,A0,z8,z3,nth,g9]
 ·intro _i _;rfl
 ·have hm:a0b q mb mc xb xc rb rc (.iface t (.int .i64 v))=a0b q mb mc xb xc rb rc (.iface t (.int .i64 v)):=rfl;obtain⟨⟨rfl,rfl⟩,⟨d1,s1,a0,a1⟩,⟨d2,s2,b0,b1⟩,⟨n1',n2'⟩,d,s⟩:=ho;have hoff1:∀(F:Nat->Nat->Value)(c:Nat)(v:Value)(c':Nat),j0 F rb c v mb c'=F mb c':=λ_ _ _ _=>b9 (.inl n1')
  have hoff2:∀(F:Nat->Nat->Value)(c:Nat)(v:Value)(c':Nat),j0 F rb c v xb c'=F xb c':=λ_ _ _ _=>b9 (.inl n2')
  have e0:Value.float .f64 (j6 (q.F mb mc))=q.F mb mc:=a0.1.symm;have e1:Value.float .f64 (j6 (q.F mb (mc+1)))=q.F mb (mc+1):=a1.1.symm;have e2:Value.float .f64 (j6 (q.F xb xc))=q.F xb xc:=b0.1.symm;have e3:Value.float .f64 (j6 (q.F xb (xc+1)))=q.F xb (xc+1):=b1.1.symm;have h2:(((2:Nat):Int) != (2:Int))=false:=rfl;have h3:(((2:Nat):Int) != ((2:Nat):Int))=false:=rfl;simp only[true_and,and_true,eq_self,true_implies,false_implies,Bool.false_eq_true,reduceCtorEq,Int.reduceLE,Int.reduceLT,Int.le_refl]
  simp only[Nat.add_zero,hoff1,hoff2,a0.flt,a1.flt,b0.flt,b1.flt,e0,e1,e2,e3,d,d1,d2,h2,h3,true_and,and_true,true_implies,false_implies,Bool.false_eq_true]
  and_intros
  all_goals first|omega|exact⟨(),trivial,rfl,trivial⟩
noncomputable def a8R:List SV->RRd (Unit)
 | [.slb n mb mc l k, .slb n1 xb xc l1 k1, .ifc t (.pb n3 pb pc), .pb n2 rb rc]=>.read n λo0=>(match I5 o0 with
  | some (ts,q)=>.ret ⟨[.slb 0 mb mc l k, .slb 0 xb xc l1 k1, .ifc t (.pb 0 pb pc), .pb 0 rb rc],[(0,rwO ts q)],some (n=n1/\n=n2/\n=n3/\(a7n q mb mc l xb xc l1 rb rc)),λ_i=>True,λ_i=>⟨[],[], .tup [],[(0,rwO ts (a0b q mb mc xb xc rb rc (.iface t (.pointer (some ⟨pb,pc,none⟩)))))],[],none⟩⟩
  | none=>.fail)
 | _=>.fail
theorem b7Y(R:Option Ob->SV->Prop)(ts:List Nat)(q:RM)(mb mc l k xb xc l1 k1 t pb pc rb rc:Nat){T1}(t1:T1=(Value.float .f64 (j6 (j0 q.3 rb (rc+1+0) (Value.float .f64 (j6 (q.3 mb (mc+0)))) xb (xc+0))))){T2}(t2:T2=(j0 q.3 rb (rc+1+0) (Value.float .f64 (j6 (q.3 mb (mc+0)))))){T3}(t3:T3=(Value.float .f64 (j6 (j0 T2 rb
 (rc+3+0) T1 mb (mc+1))))){T4}(t4:T4=(Value.float .f64 (j6 (j0 (j0 T2 rb (rc+3+0) T1) rb (rc+1+1) T3 xb (xc+1))))){T5}(t5:T5=(j0 (j0 T2 rb (rc+3+0) T1) rb (rc+1+1) T3)){T6}(t6:T6=(Value.iface t (Value.pointer
 (Option.some (Addr.mk pb pc Option.none))))){T7}(t7:T7=(q.1 rb/\rc+0+1<=q.2 rb)){T8}(t8:T8=(↑l:Int)){T9}(t9:T9=(↑l1:Int)):K8 X0 1 [(7, .iter 3)] [] (p9 f119) (A6 f119.ntmps [.slb 0 mb mc l k, .slb 0 xb xc l1 k1, .ifc t (.pb 0 pb pc), .pb 0 rb rc] [(0,rwO ts q)] 1) (A8 X0.G.E.T f119.results.toList λS v=>R (Go.Sx.look S.H 0) v)=(
 ((T8 != T9)=true->False)/\((T8 != T9)=false->((T8 != (2:Int))=true->False)/\((T8 != (2:Int))=false->(true=true->((0:Int)<=0/\0<T8)/\(q.1 mb/\mc+0<q.2 mb/\z6 .f64 (q.3 mb (mc+0)))/\((0:Int)<=0/\(0:Int) <
 2)/\(q.1 rb/\rc+1+0+1<=q.2 rb)/\true=true/\((0:Int)<=0/\0<T9)/\(q.1 xb/\xc+0<q.2 xb/\z6 .f64 (j0 q.3 rb (rc+1+0) (Value.float .f64 (j6 (q.3 mb (mc+0)))) xb (xc+0)))/\((0:Int)<=0/\(0:Int)<2)/\(q.1 rb
 /\rc+3+0+1<=q.2 rb)/\true=true/\(true=true->((0:Int)<=1/\1<T8)/\(q.1 mb/\mc+1<q.2 mb/\z6 .f64 (j0 T2 rb (rc+3+0) T1 mb (mc+1)))/\((0:Int)<=1/\(1:Int)<2)/\(q.1 rb/\rc+1+1+1<=q.2 rb)/\true=true
 /\((0:Int)<=1/\1<T9)/\(q.1 xb/\xc+1<q.2 xb/\z6 .f64 (j0 (j0 T2 rb (rc+3+0) T1) rb (rc+1+1) T3 xb (xc+1)))/\((0:Int)<=1/\(1:Int)<2)/\(q.1 rb/\rc+3+1+1<=q.2 rb)/\true=true/\(false=true->((0:Int)
 <=2/\2<T8)/\(q.1 mb/\mc+2<q.2 mb/\z6 .f64 (j0 T5 rb (rc+3+1) T4 mb (mc+2)))/\((0:Int)<=2/\(2:Int)<2)/\(q.1 rb/\rc+1+2+1<=q.2 rb)/\true=true/\((0:Int)<=2/\2<T9)/\(q.1 xb/\xc+2<q.2 xb/\z6 .f64
 (j0 (j0 T5 rb (rc+3+1) T4) rb (rc+1+2) (Value.float .f64 (j6 (j0 T5 rb (rc+3+1) T4 mb (mc+2)))) xb (xc+2)))/\((0:Int)<=2/\(2:Int)<2)/\(q.1 rb/\rc+3+2+1<=q.2 rb)/\true=true/\False)/\(false=false->T7/\
 R (Option.some (Ob.mk true 0 (a9.raw ts (RM.D q) q.2 (j0 (j0 T5 rb (rc+3+1) T4) rb (rc+0) T6)) 0)) (SV.tup [])))/\(true=false->T7/\R (Option.some (Ob.mk true 0 (a9.raw ts (RM.D q) q.2 (j0 (j0 T2 rb (rc+3+0) T1) rb (rc+0)
 T6)) 0)) (SV.tup [])))/\(true=false->T7/\R (Option.some (Ob.mk true 0 (a9.raw ts (RM.D q) q.2 (j0 q.3 rb (rc+0) T6)) 0)) (SV.tup []))))):=by subst t1 t2 t3 t4 t5 t6 t7 t8 t9;kernel_rfl
theorem c6H:z0 prog 119 (o9 (Unit) ⟨()⟩ a8R):=by
 refine D7 x0 func119 rfl (by kernel_rfl) λargs=>?_
 unfold a8R;split;rotate_left;trivial;rename_i n mb mc l k n1 xb xc l1 k1 t n3 pb pc n2 rb rc;intro o0;try dsimp only
 split;rotate_left;trivial;rename_i ts q hm0;intro(ho:n=n1/\n=n2/\n=n3/\(a7n q mb mc l xb xc l1 rb rc));obtain⟨heq0,heq1,heq2,ho⟩:=ho;subst heq0 heq1 heq2;refine⟨?_,Nat.succ_pos _,ts,λ(_i:Unit)=>a0b q mb mc xb xc rb rc (.iface t (.pointer (some ⟨pb,pc,none⟩))),λ(_i:Unit)=>.tup [],λ_=>rfl,?_,_,_,(b7Y (I7 1 ts (λ(_i:Unit)=>True) (λ(_i:Unit)=>a0b q mb mc xb xc rb rc (.iface t (.pointer (some ⟨pb,pc,none⟩)))) (λ(_i:Unit)=>.tup [])) ts q mb mc l k xb xc l1 k1 t pb pc rb rc rfl rfl rfl rfl rfl rfl rfl rfl rfl).mpr ?_⟩
 ·refine j8 rfl ⟨λ_=>rfl,?_,⟨trivial,B8 hm0,trivial⟩⟩;simp[q9,z5,z8,z3,nth,g9]
 ·intro _i _;rfl
 ·have hm:a0b q mb mc xb xc rb rc (.iface t (.pointer (some ⟨pb,pc,none⟩)))=a0b q mb mc xb xc rb rc (.iface t (.pointer (some ⟨pb,pc,none⟩))):=rfl;obtain⟨⟨rfl,rfl⟩,⟨d1,s1,a0,a1⟩,⟨d2,s2,b0,b1⟩,⟨n1',n2'⟩,d,s⟩:=ho;have hoff1:∀(F:Nat->Nat->Value)(c:Nat)(v:Value)(c':Nat),j0 F rb c v mb c'=F mb c':=λ_ _ _ _=>b9 (.inl n1')
  have hoff2:∀(F:Nat->Nat->Value)(c:Nat)(v:Value)(c':Nat),j0 F rb c v xb c'=F xb c':=λ_ _ _ _=>b9 (.inl n2')
  have e0:Value.float .f64 (j6 (q.F mb mc))=q.F mb mc:=a0.1.symm;have e1:Value.float .f64 (j6 (q.F mb (mc+1)))=q.F mb (mc+1):=a1.1.symm;have e2:Value.float .f64 (j6 (q.F xb xc))=q.F xb xc:=b0.1.symm;have e3:Value.float .f64 (j6 (q.F xb (xc+1)))=q.F xb (xc+1):=b1.1.symm;have h2:(((2:Nat):Int) != (2:Int))=false:=rfl;have h3:(((2:Nat):Int) != ((2:Nat):Int))=false:=rfl;simp only[true_and,and_true,eq_self,true_implies,false_implies,Bool.false_eq_true,reduceCtorEq,Int.reduceLE,Int.reduceLT,Int.le_refl]
  simp only[Nat.add_zero,hoff1,hoff2,a0.flt,a1.flt,b0.flt,b1.flt,e0,e1,e2,e3,d,d1,d2,h2,h3,true_and,and_true,true_implies,false_implies,Bool.false_eq_true]
  and_intros
  all_goals first|omega|exact⟨(),trivial,rfl,trivial⟩
theorem c3x:C4 prog 119 (a4s (o9 Unit ⟨()⟩ a9o) ()):=a9Y c3Y () λ_=>rfl
theorem c2C:C4 prog 119 (a4s (o9 Unit ⟨()⟩ a8R) ()):=a9Y c6H () λ_=>rfl
noncomputable section
structure SpI where
 a:Nat
 x:Nat
 b:Nat
 i:Nat
 v:Value
 q:RM
structure a7l (q0:RM) (b:Nat) (q:RM) (v:Value) (E:List En):Prop where
 sl:isSlN v
 n:slL v=E.length
 le:slL v<=slK v
 D:0<slK v->q.D (slB v)/\slC v+slK v*5<=q.S (slB v)/\¬q0.D (slB v)/\slB v≠b
 c:∀(j:Nat)(e:En),E[j]? = some e->q.F (slB v) (slC v+5*j)=e.v
 o:∀(j:Nat)(e:En),E[j]? = some e->e.v.oneCell'=true
 B:∀ j e,E[j]? = some e->isBox q.F (slB v) (slC v+5*j) e.B
def c3S(W:Nat->Nat->Prop)(q q':RM)(nb:Nat):Prop:=(∀ c,q.D c->q'.D c/\q'.S c=q.S c)/\∀ c k,q.D c->c≠nb->¬W c k->q'.F c k=q.F c k
structure spA (q:RM) (rb rc qb qc:Nat) (p:SpI) (L R E:List En):Prop where
 a:p.a<2
 fr:c3S (λc k=>c=qb/\k=qc) q p.q (kb (q.F rb rc))
 nw:¬q.D p.b
 l:F1 p.q (kb (q.F rb rc)) L
 r:F1 p.q p.b R
 e:a7l q p.b p.q p.v E
 dat:p.q.F qb qc=.iface 207 (.pointer (some ⟨p.b,0,none⟩))
def a0V(a:Nat)(B:Bx)(e:En):Prop:=e.B.lo a-B.lo a<B.hi a-e.B.hi a
def goP(a:Nat)(B:Bx)(e:En):Prop:=B.hi a-e.B.hi a<e.B.lo a-B.lo a
def b0W(q:RM)(rb rc qb qc:Nat)(p:SpI):Prop:=∃ L R E,spA q rb rc qb qc p L R E/\(L++R++E).Perm (A3 q (kb (q.F rb rc)))/\p.i<=L.length/\
 (∀ j e,j<p.i->L[j]? = some e->a0V p.a (bxOf q.F rb rc) e)/\∀ e∈R,goP p.a (bxOf q.F rb rc) e
def spM(q:RM)(rb rc qb qc:Nat)(p:SpI):Prop:=∃ L R E,spA q rb rc qb qc p L R E/\(a2a L p.i++R++E).Perm (A3 q (kb (q.F rb rc)))/\p.i<L.length/\
 (∀ j e,j<p.i->L[j]? = some e->a0V p.a (bxOf q.F rb rc) e)/\∀ e∈R,goP p.a (bxOf q.F rb rc) e
def sp2(q:RM)(rb rc qb qc:Nat)(p:SpI):Prop:=∃ L R E,spA q rb rc qb qc p L R E/\(L++R++E.drop p.i).Perm (A3 q (kb (q.F rb rc)))/\(p.i<=E.length/\E.length<=17)/\
 (L=[]->E.drop p.i≠[])/\(R=[]->E.drop p.i≠[])
def c3N(ts:List Nat)(rb rc qb qc nb:Nat)(p:SpI):St :=
 ⟨194,[(0, .pb 0 rb rc),(1, .pb 0 qb qc),(4, .int .i64 p.a),(6, .pb 0 rb rc),(7, .pb 0 nb 0),(8, .pb 0 p.b 0),(9, .dv 0 p.v),(10, .int .i64 p.i)],[(0,rwO ts p.q)],1⟩
def c3K(ts:List Nat)(rb rc qb qc nb:Nat)(p:SpI):St :=
 ⟨194,[(0, .pb 0 rb rc),(1, .pb 0 qb qc),(6, .pb 0 rb rc),(7, .pb 0 nb 0),(8, .pb 0 p.b 0),(142, .dv 0 p.v),(143, .int .i64 (slL p.v:Nat)),(144, .int .i64 p.i)],[(0,rwO ts p.q)],1⟩
def c8j(ts:List Nat)(q:RM)(rb rc qb qc:Nat):R5 :=
 ⟨⟨SpI,c3N ts rb rc qb qc (kb (q.F rb rc)),b0W q rb rc qb qc,λp=>(p7 (p.q.F (kb (q.F rb rc)) 0)).toNat-p.i⟩,
  λp=>[(16,⟨SpI,c3N ts rb rc qb qc (kb (q.F rb rc)),λp'=>spM q rb rc qb qc p'/\p'.i=p.i/\p'.q.F (kb (q.F rb rc)) 0=p.q.F (kb (q.F rb rc)) 0,λ_=>0⟩)]⟩
def c7v(ts:List Nat)(q:RM)(rb rc qb qc:Nat):R5 :=
 ⟨⟨SpI,c3K ts rb rc qb qc (kb (q.F rb rc)),sp2 q rb rc qb qc,λp=>slL p.v-p.i⟩,λ_=>[]⟩
def spP(q:RM)(rb rc qb qc:Nat)(q':RM):Prop:=∃ b2 L R B1 B2,¬q.D b2/\(L++R).Perm (A3 q (kb (q.F rb rc)))/\L≠[]/\R≠[]/\F1 q' (kb (q.F rb rc)) L/\F1 q' b2 R/\
 q'.F qb qc=.iface 207 (.pointer (some ⟨b2,0,none⟩))/\isBox q'.F rb rc B1/\H7 B1 (L.map (·.B))/\isBox q'.F qb qc B2/\H7 B2 (R.map (·.B))/\
 c3S (λc k=>(c=qb/\qc<=k/\k<qc+5)∨rW rb rc c k) q q' (kb (q.F rb rc))
def spO(q:RM)(rb rc qb qc:Nat):Prop:=hangs q rb rc/\okR q rb rc/\H7 (bxOf q.F rb rc) ((A3 q (kb (q.F rb rc))).map (·.B))/\(A3 q (kb (q.F rb rc))).length=17/\
 (q.D qb/\qc+5<=q.S qb)/\qb≠kb (q.F rb rc)/\apart rb rc qb qc
def cp5(F:Nat->Nat->Value)(b c:Nat)(G:Nat->Nat->Value)(b0 c0:Nat):Nat->Nat->Value :=
 j0 (j0 (j0 (j0 (j0 F b c (G b0 c0)) b (c+1) (G b0 (c0+1))) b (c+1+1) (G b0 (c0+1+1))) b (c+1+1+1) (G b0 (c0+1+1+1))) b (c+1+1+1+1) (G b0 (c0+1+1+1+1))
theorem P2{F:Nat->Nat->Value}{b c:Nat}{G:Nat->Nat->Value}{b0 c0 b' c':Nat}(h:b'≠b∨c'<c∨c+5<=c'):cp5 F b c G b0 c0 b' c'=F b' c':=by
 unfold cp5;rw[b9 (by omega),b9 (by omega),b9 (by omega),b9 (by omega),b9 (by omega)]
theorem b2n{F:Nat->Nat->Value}{b c:Nat}{G:Nat->Nat->Value}{b0 c0 k:Nat}(h:k<5):cp5 F b c G b0 c0 b (c+k)=G b0 (c0+k):=by
 unfold cp5
 match k,h with
 | 0,_=>rw[b9 (by omega),b9 (by omega),b9 (by omega),b9 (by omega)];exact A2
 | 1,_=>rw[b9 (by omega),b9 (by omega),b9 (by omega)];exact A2
 | 2,_=>rw[b9 (by omega),b9 (by omega)];exact A2
 | 3,_=>rw[b9 (by omega)];exact A2
 | 4,_=>exact A2
theorem D0{F G:Nat->Nat->Value}{b c b0 c0:Nat}{B:Bx}(h:∀ k,k<5->F b (c+k)=G b0 (c0+k))(hB:isBox G b0 c0 B):isBox F b c B:=by
 obtain⟨h1,h2,h3,h4⟩:=hB;exact⟨by rw[h 1 (by omega)];exact h1,by rw[h 2 (by omega)];exact h2,by rw[h 3 (by omega)];exact h3,by rw[h 4 (by omega)];exact h4⟩
theorem F1.cpush{q q':RM}{b:Nat}{l:List En}(h:F1 q b l)(hl:l.length<17){G:Nat->Nat->Value}{b0 c0:Nat}{e:En}(he:G b0 c0=e.v)(ho:e.v.oneCell'=true)(hB:isBox G b0 c0 e.B)
  (hD:q'.D b) (hS:q'.S b=q.S b) (hF:∀ c,q'.F b c=j0 (cp5 q.F b (1+l.length*5) G b0 c0) b 0 (.int .i64 (l.length+1:Nat)) b c):F1 q' b (l++[e]):=by
 have e0:∀ k,k<5->q'.F b (1+5*l.length+k)=G b0 (c0+k):=λk hk=>by
  rw[hF,b9 (by omega),Nat.mul_comm 5];exact b2n hk
 refine h.push hl hD hS ho ?_ ?_ ?_ λc c1 c2=>?_
 ·rw[hF];exact A2
 ·have:=e0 0 (by omega);rw[Nat.add_zero,Nat.add_zero]at this;rw[this];exact he
 ·exact D0 e0 hB
 ·rw[hF,b9 (by omega),P2 (by omega)]
theorem F1.swap{q q':RM}{b:Nat}{l:List En}(h:F1 q b l){i:Nat}(hi:i<l.length)(v:Value)
  (hD:q'.D b) (hS:q'.S b=q.S b) (hF:∀ c,q'.F b c=j0 (j0 (cp5 q.F b (1+i*5) q.F b (1+(l.length-1)*5)) b (1+(l.length-1)*5) v) b 0 (.int .i64 (l.length-1:Nat)) b c):F1 q' b (a2a l i):=by
 have hlen:=a3b hi
 have old:∀ j,j<l.length-1->j≠i->∀ k,k<5->q'.F b (1+5*j+k)=q.F b (1+5*j+k):=λj h1 h2 k hk=>by
  rw[hF,b9 (by omega),b9 (by omega),P2 (by omega)]
 have new:i<l.length-1->∀ k,k<5->q'.F b (1+5*i+k)=q.F b (1+5*(l.length-1)+k):=λh1 k hk=>by
  rw[hF,b9 (by omega),b9 (by omega),Nat.mul_comm 5,Nat.mul_comm 5];exact b2n hk
 have get:∀ j e,(a2a l i)[j]? = some e->j<l.length-1/\((j=i/\l[l.length-1]? = some e)∨(j≠i/\l[j]? = some e)):=λj e hj=>by
  have hj1:=(List.getElem?_eq_some_iff.1 hj).1;rw[hlen]at hj1;rw[a7x hi hj1]at hj;refine⟨hj1,?_⟩;by_cases c:j=i
  ·rw[if_pos c]at hj;exact .inl ⟨c,hj⟩
  ·rw[if_neg c]at hj;exact .inr ⟨c,hj⟩
 refine⟨hD,hS.trans h.S,?_,?_,λj e hj=>?_,λj e hj=>?_,λj e hj=>?_⟩
 ·rw[hF,hlen];exact A2
 ·rw[hlen];have:=h.le;omega
 ·obtain⟨h1,h2|h2⟩:=get j e hj
  ·obtain⟨rfl,h3⟩:=h2;have:=new h1 0 (by omega);simp only[Nat.add_zero]at this;rw[this];exact h.v _ _ h3
  ·have:=old j h1 h2.1 0 (by omega);simp only[Nat.add_zero]at this;rw[this];exact h.v _ _ h2.2
 ·obtain⟨h1,h2|h2⟩:=get j e hj
  ·exact h.o _ _ h2.2
  ·exact h.o _ _ h2.2
 ·obtain⟨h1,h2|h2⟩:=get j e hj
  ·obtain⟨rfl,h3⟩:=h2;exact D0 (new h1) (h.B _ _ h3)
  ·exact D0 (old j h1 h2.1) (h.B _ _ h2.2)
theorem a7l.pos{q0 q:RM}{b:Nat}{v:Value}{E:List En}(h:a7l q0 b q v E)(hE:E≠[]):0<slK v:=by
 have h1:=h.n;have h2:=h.le;have:E.length≠0:=λe=>hE (List.length_eq_zero_iff.1 e)
 omega
theorem a7l.same{q0 q q':RM}{b:Nat}{v:Value}{E:List En}(h:a7l q0 b q v E)(hs:0<slK v->q'.D (slB v)/\q'.S (slB v)=q.S (slB v)/\∀ c,q'.F (slB v) c=q.F (slB v) c):a7l q0 b q' v E where
 sl:=h.sl
 n:=h.n
 le:=h.le
 D:=λh0=>by
  obtain⟨h1,h2,h3⟩:=hs h0;obtain⟨h4,h5,h6,h7⟩:=h.D h0;exact⟨h1,by rw[h2];exact h5,h6,h7⟩
 c:=λj e hj=>by
  have:=h.pos (E:=E) (λe=>by rw[e]at hj;simp at hj);rw[(hs this).2.2];exact h.c j e hj
 o:=h.o
 B:=λj e hj=>by
  have:=h.pos (E:=E) (λe=>by rw[e]at hj;simp at hj);exact D0 (λk _=>(hs this).2.2 _) (h.B j e hj)
theorem a7l.app{q0 q:RM}{b:Nat}{v:Value}{E:List En}(h:a7l q0 b q v E)(hle:∀ c,q0.D c->q.D c)(hb:q.D b){G:Nat->Nat->Value}{b0 c0:Nat}{e:En}(he:G b0 c0=e.v)(ho:e.v.oneCell'=true)(hB:isBox G b0 c0 e.B)
  {i:ApI} (hp:P1 q.D q.S q.F 5 (slB v) (slC v) (slL v) (slK v) 1 [G b0 c0,G b0 (c0+1),G b0 (c0+1+1),G b0 (c0+1+1+1),G b0 (c0+1+1+1+1)] i) :
  a7l q0 b ⟨i.D,i.S,i.F⟩ (.slice (some ⟨i.b,i.c,none⟩) (slL v+1) i.k) (E++[e]):=by
 have hn:=h.n
 have us:∀ k,k<5->[G b0 c0,G b0 (c0+1),G b0 (c0+1+1),G b0 (c0+1+1+1),G b0 (c0+1+1+1+1)].getD k (.bool false)=G b0 (c0+k):=λk hk=>by
  match k,hk with
  | 0,_=>rfl
  | 1,_=>rfl
  | 2,_=>rfl
  | 3,_=>rfl
  | 4,_=>rfl
 have main:(∀ j k,j<E.length->k<5->i.F i.b (i.c+5*j+k)=q.F (slB v) (slC v+5*j+k))->(∀ k,k<5->i.F i.b (i.c+5*E.length+k)=G b0 (c0+k))->slL v+1<=i.k->
   (0<i.k->i.D i.b/\i.c+i.k*5<=i.S i.b/\¬q0.D i.b/\i.b≠b)->a7l q0 b ⟨i.D,i.S,i.F⟩ (.slice (some ⟨i.b,i.c,none⟩) (slL v+1) i.k) (E++[e]):=by
  intro m1 m2 m3 m4
  have get:∀ j x,(E++[e])[j]? = some x->(j<E.length/\E[j]? = some x)∨(j=E.length/\x=e):=λj x hj=>by
   by_cases hc:j<E.length
   ·rw[List.getElem?_append_left hc]at hj;exact .inl ⟨hc,hj⟩
   ·have hjl:j=E.length:=by
     have:=(List.getElem?_eq_some_iff.1 hj).1;simp at this;omega
    subst hjl;simp at hj;exact .inr ⟨rfl,hj.symm⟩
  refine⟨.inr rfl,by simp[slL];exact hn,m3,m4,λj x hj=>?_,λj x hj=>?_,λj x hj=>?_⟩
  ·rcases get j x hj with⟨h1,h2⟩|⟨rfl,rfl⟩
   ·have:=m1 j 0 h1 (by omega);simp only[Nat.add_zero]at this;exact this.trans (h.c j x h2)
   ·have:=m2 0 (by omega);simp only[Nat.add_zero]at this;exact this.trans he
  ·rcases get j x hj with⟨h1,h2⟩|⟨rfl,rfl⟩
   ·exact h.o j x h2
   ·exact ho
  ·rcases get j x hj with⟨h1,h2⟩|⟨rfl,rfl⟩
   ·exact D0 (λk hk=>m1 j k h1 hk) (h.B j x h2)
   ·exact D0 (λk hk=>m2 k hk) hB
 rcases hp with⟨h1,h2,h3,h4,h5,h6,h7⟩|⟨h1,h2,h3,h4,h5,h6,h7,z,h8⟩
 ·rw[h2,h3,h4,h5,h6,h7]at main;rw[h2,h3,h4,h5,h6,h7];have hk:0<slK v:=by omega
  refine main (λj k hj hk=>?_) (λk hk=>?_) (by omega) h.D
  ·rw[a0n (by omega)]
  ·rw[a3E,if_pos ⟨rfl,by omega,by simp only[List.length_cons,List.length_nil];omega⟩];rw[show slC v+5*E.length+k-(slC v+slL v*5)=k by omega];exact us k hk
 ·rw[h3,h6,h7,h8]at main;rw[h3,h6,h7,h8];refine main (λj k hj hk=>?_) (λk hk=>?_) h4 λ_=>⟨.inl rfl,?_,λhd=>h2 (hle _ hd),λe=>h2 (e▸hb)⟩
  ·simp only[C8,if_true,a4W];rw[if_pos (by omega)];congr 1;omega
  ·simp only[C8,if_true,a4W];rw[if_neg (by omega),if_pos (by simp only[List.length_cons,List.length_nil];omega),show 0+5*E.length+k-slL v*5=k by omega];exact us k hk
  ·simp only[D8,if_true];omega
theorem a7X{D:Nat->Prop}{S:Nat->Nat}{F:Nat->Nat->Value}{z b c l k m:Nat}{us:List Value}{i:ApI}(hp:P1 D S F z b c l k m us i){x:Nat}(hx:D x)(hb:l+m<=k->x≠b):i.D x/\i.S x=S x/\∀ y,i.F x y=F x y:=by
 rcases hp with⟨h1,h2,h3,h4,h5,h6,h7⟩|⟨h1,h2,h3,h4,h5,h6,h7,zz,h8⟩
 ·rw[h5,h6,h7];exact⟨hx,rfl,λy=>a0n (.inl (hb h1))⟩
 ·rw[h6,h7,h8];have hne:x≠i.b:=λe=>h2 (e▸hx)
  exact⟨.inr hx,by simp only[D8];rw[if_neg hne],λy=>by simp only[C8];rw[if_neg hne]⟩
end
instance (a:Nat) (B:Bx) (e:En):Decidable (a0V a B e):=by unfold a0V;infer_instance
instance (a:Nat) (B:Bx) (e:En):Decidable (goP a B e):=by unfold goP;infer_instance
theorem a9V{F:Nat->Nat->Value}{b c:Nat}{v:Value}(h:c≠0):j0 F b c v b 0=F b 0:=b9 (.inr (Ne.symm h))
section
variable {q:RM} {rb rc qb qc:Nat}
theorem spO.nd(ho:spO q rb rc qb qc):F1 q (kb (q.F rb rc)) (A3 q (kb (q.F rb rc))):=ho.1.2.2.2.2
theorem spO.ne(ho:spO q rb rc qb qc):kb (q.F rb rc)≠rb:=ho.1.2.2.2.1
theorem spO.qD(ho:spO q rb rc qb qc):q.D qb:=ho.2.2.2.2.1.1
theorem spO.qn(ho:spO q rb rc qb qc):qb≠kb (q.F rb rc):=ho.2.2.2.2.2.1
variable {p p':SpI} {L L' R R' E:List En}
theorem spA.bn(ho:spO q rb rc qb qc)(h:spA q rb rc qb qc p L R E):kb (q.F rb rc)≠p.b:=λe=>h.nw (e▸ho.nd.D)
theorem spA.bq(ho:spO q rb rc qb qc)(h:spA q rb rc qb qc p L R E):qb≠p.b:=λe=>h.nw (e▸ho.qD)
theorem spA.br(ho:spO q rb rc qb qc)(h:spA q rb rc qb qc p L R E):rb≠p.b:=λe=>h.nw (e▸ho.1.1)
theorem spA.vn(ho:spO q rb rc qb qc)(h:spA q rb rc qb qc p L R E)(hv:0<slK p.v):slB p.v≠kb (q.F rb rc)/\slB p.v≠p.b :=
 ⟨λe=>(h.e.D hv).2.2.1 (e▸ho.nd.D),(h.e.D hv).2.2.2⟩
theorem spA.box(ho:spO q rb rc qb qc)(h:spA q rb rc qb qc p L R E):p.q.D rb/\rc+5<=p.q.S rb/\isBox p.q.F rb rc (bxOf q.F rb rc)/\(rb≠qb∨rc≠qc):=by
 obtain⟨h1,h2⟩:=h.fr;have hap:=ho.2.2.2.2.2.2;have ho2:=ho.2.1;refine⟨(h1 rb ho2.1).1,by rw[(h1 rb ho2.1).2];exact ho2.2.1,?_,by unfold apart at hap;omega⟩;have hk:∀ k,1<=k->k<5->p.q.F rb (rc+k)=q.F rb (rc+k):=λk k1 k2=>h2 rb (rc+k) ho2.1 (Ne.symm ho.ne) (by unfold apart at hap;omega)
 obtain⟨b1,b2,b3,b4⟩:=ho2.2.2;exact⟨by rw[hk 1 (by omega) (by omega)];exact b1,by rw[hk 2 (by omega) (by omega)];exact b2,by rw[hk 3 (by omega) (by omega)];exact b3,by rw[hk 4 (by omega) (by omega)];exact b4⟩
theorem spA.wb(ho:spO q rb rc qb qc)(h:spA q rb rc qb qc p L R E)(e1:p'.a=p.a)(e2:p'.b=p.b)(e3:p'.v=p.v)(hD:p'.q.D=p.q.D)(hS:p'.q.S=p.q.S)
  (hF:∀ c k,c≠p.b->p'.q.F c k=p.q.F c k) (hR:F1 p'.q p.b R'):spA q rb rc qb qc p' L R' E where
 a:=by rw[e1];exact h.a
 fr:=⟨λc hc=>by rw[hD,hS];exact h.fr.1 c hc,λc k hc h1 h2=>by rw[hF c k (λe=>h.nw (e▸hc))];exact h.fr.2 c k hc h1 h2⟩
 nw:=by rw[e2];exact h.nw
 l:=h.l.same (by rw[hD];exact h.l.D) (by rw[hS]) (λc=>hF _ _ (h.bn ho))
 r:=by rw[e2];exact hR
 e:=by
  rw[e2,e3];exact h.e.same λh0=>⟨by rw[hD];exact(h.e.D h0).1,by rw[hS],λc=>hF _ _ (h.vn ho h0).2⟩
 dat:=by rw[e2,hF _ _ (h.bq ho)];exact h.dat
theorem spA.wn(ho:spO q rb rc qb qc)(h:spA q rb rc qb qc p L R E)(e1:p'.a=p.a)(e2:p'.b=p.b)(e3:p'.v=p.v)(hD:p'.q.D=p.q.D)(hS:p'.q.S=p.q.S)
  (hF:∀ c k,c≠kb (q.F rb rc)->p'.q.F c k=p.q.F c k) (hL:F1 p'.q (kb (q.F rb rc)) L'):spA q rb rc qb qc p' L' R E where
 a:=by rw[e1];exact h.a
 fr:=⟨λc hc=>by rw[hD,hS];exact h.fr.1 c hc,λc k hc h1 h2=>by rw[hF c k h1];exact h.fr.2 c k hc h1 h2⟩
 nw:=by rw[e2];exact h.nw
 l:=hL
 r:=by rw[e2];exact h.r.same (by rw[hD];exact h.r.D) (by rw[hS]) (λc=>hF _ _ (Ne.symm (h.bn ho)))
 e:=by
  rw[e2,e3];exact h.e.same λh0=>⟨by rw[hD];exact(h.e.D h0).1,by rw[hS],λc=>hF _ _ (h.vn ho h0).1⟩
 dat:=by rw[e2,hF _ _ ho.qn];exact h.dat
theorem spA.at(h:spA q rb rc qb qc p L R E)(e1:p'.a=p.a)(e2:p'.b=p.b)(e3:p'.v=p.v)(e4:p'.q=p.q):spA q rb rc qb qc p' L R E where
 a:=by rw[e1];exact h.a
 fr:=by rw[e4];exact h.fr
 nw:=by rw[e2];exact h.nw
 l:=by rw[e4];exact h.l
 r:=by rw[e2,e4];exact h.r
 e:=by rw[e2,e3,e4];exact h.e
 dat:=by rw[e2,e4];exact h.dat
theorem c0M:rz tys 210 0=.int .i64 0:=by rfl
theorem a6s(ho:spO q rb rc qb qc){l:List En}(h:l.Perm (A3 q (kb (q.F rb rc)))):l.length=17:=h.length_eq.trans ho.2.2.2.1
theorem b6k(ho:spO q rb rc qb qc){b a x:Nat}(ha:a<2)(hb:¬q.D b) :
  b0W q rb rc qb qc ⟨a,x,b,0, .slice none 0 0,⟨K5 q.D b,D8 q.S b 86,j0 (C8 q.F b (rz tys 210)) qb qc (.iface 207 (.pointer (some ⟨b,0,none⟩)))⟩⟩:=by
 have hnb:kb (q.F rb rc)≠b:=λe=>hb (e▸ho.nd.D)
 have hqb:qb≠b:=λe=>hb (e▸ho.qD)
 have hold:∀ c k,q.D c->¬(c=qb/\k=qc)->j0 (C8 q.F b (rz tys 210)) qb qc (.iface 207 (.pointer (some ⟨b,0,none⟩))) c k=q.F c k:=λc k hc h2=>by
  have hne:c≠b:=λe=>hb (e▸hc)
  rw[b9 (by omega)];simp only[C8];rw[if_neg hne]
 have hS:∀ c,q.D c->D8 q.S b 86 c=q.S c:=λc hc=>by
  have hne:c≠b:=λe=>hb (e▸hc)
  simp only[D8];rw[if_neg hne]
 refine⟨A3 q (kb (q.F rb rc)),[],[],⟨ha,⟨λc hc=>⟨.inr hc,hS c hc⟩,λc k hc _ h2=>hold c k hc h2⟩,hb,?_,?_,?_,A2⟩,by simp,Nat.zero_le _,λj e hj=>absurd hj (Nat.not_lt_zero j),by simp⟩
 ·exact ho.nd.same (.inr ho.nd.D) (hS _ ho.nd.D) λc=>hold _ _ ho.nd.D λe=>ho.qn e.1.symm
 ·refine⟨.inl rfl,by simp[D8],?_,by simp,by simp,by simp,by simp⟩;show j0 (C8 q.F b (rz tys 210)) qb qc _ b 0=_;rw[b9 (.inl (Ne.symm hqb))];simp only[C8,if_true];exact c0M
 ·exact⟨.inl rfl,rfl,Nat.le_refl _,λh=>absurd h (Nat.lt_irrefl 0),by simp,by simp,by simp⟩
theorem b6Y{i:Nat}(h:spA q rb rc qb qc p L R E)(hp:(L++R++E).Perm (A3 q (kb (q.F rb rc))))(hs:∀ j e,j<p.i->L[j]? = some e->a0V p.a (bxOf q.F rb rc) e)(hg:∀ e∈R,goP p.a (bxOf q.F rb rc) e)
  {e:En} (he:L[p.i]? = some e) (hst:a0V p.a (bxOf q.F rb rc) e) (hi:i=p.i+1):b0W q rb rc qb qc ⟨p.a,p.x,p.b,i,p.v,p.q⟩:=by
 subst hi;refine⟨L,R,E,h.at rfl rfl rfl rfl,hp,(List.getElem?_eq_some_iff.1 he).1,λj x hj hx=>?_,hg⟩;rcases Nat.lt_or_ge j p.i with c|c
 ·exact hs j x c hx
 ·have:j=p.i:=by show j=p.i;have hj:j<p.i+1:=hj;omega
  subst this;rw[he]at hx;cases hx;exact hst
theorem b2p{A B C D:List En}{e:En}(h:(A++B++C).Perm D)(hA:A.Perm (e :: L)):(L++(B++[e])++C).Perm D:=by
 refine List.Perm.trans ?_ h;refine List.Perm.append_right C ?_;refine List.Perm.trans ?_ (List.Perm.append_right B hA).symm;rw[<-List.append_assoc];exact List.perm_append_singleton e (L++B)
theorem b1S{A B C D:List En}{e:En}(h:(A++B++C).Perm D)(hA:A.Perm (e :: L)):(L++B++(C++[e])).Perm D:=by
 refine List.Perm.trans ?_ h;rw[<-List.append_assoc];refine(List.perm_append_singleton e _).trans ?_;rw[List.append_assoc,List.append_assoc];exact(List.Perm.append_right (B++C) hA).symm
theorem b3X(ho:spO q rb rc qb qc){A B C:List En}(hp:(A++B++C).Perm (A3 q (kb (q.F rb rc)))){j:Nat}{e:En}(he:A[j]? = some e):B.length<17/\C.length<17:=by
 have h1:=a6s ho hp;have h2:=(List.getElem?_eq_some_iff.1 he).1;simp only[List.length_append]at h1;omega
theorem b5a(ho:spO q rb rc qb qc)(h:spA q rb rc qb qc p L R E)(hp:(L++R++E).Perm (A3 q (kb (q.F rb rc))))(hs:∀ j e,j<p.i->L[j]? = some e->a0V p.a (bxOf q.F rb rc) e)(hg:∀ e∈R,goP p.a (bxOf q.F rb rc) e)
  {e:En} (he:L[p.i]? = some e) (hst:goP p.a (bxOf q.F rb rc) e) :
  spM q rb rc qb qc ⟨p.a,p.x,p.b,p.i,p.v,⟨p.q.D,p.q.S,j0 (cp5 p.q.F p.b (1+R.length*5) p.q.F (kb (q.F rb rc)) (1+p.i*5)) p.b 0 (.int .i64 (R.length+1:Nat))⟩⟩:=by
 have hb:=h.l.B _ _ he;have hv:=h.l.v _ _ he;rw[Nat.mul_comm]at hb hv;refine⟨L,R++[e],E,h.wb ho rfl rfl rfl rfl rfl (λc k hc=>?_) ?_,b2p hp (a5I he),(List.getElem?_eq_some_iff.1 he).1,hs,λx hx=>?_⟩
 ·show j0 _ _ _ _ _ _=_;rw[b9 (.inl hc),P2 (.inl hc)]
 ·exact h.r.cpush (b3X ho hp he).1 hv (h.l.o _ _ he) hb h.r.D rfl (λ_=>rfl)
 ·rcases List.mem_append.1 hx with hx|hx
  ·exact hg x hx
  ·simp at hx;subst hx;exact hst
theorem b4o(ho:spO q rb rc qb qc)(h:spA q rb rc qb qc p L R E)(hp:(L++R++E).Perm (A3 q (kb (q.F rb rc))))(hs:∀ j e,j<p.i->L[j]? = some e->a0V p.a (bxOf q.F rb rc) e)(hg:∀ e∈R,goP p.a (bxOf q.F rb rc) e)
  {e:En} (he:L[p.i]? = some e) {i:ApI} (hap:P1 p.q.D p.q.S p.q.F 5 (slB p.v) (slC p.v) (slL p.v) (slK p.v) 1 [p.q.F (kb (q.F rb rc)) (1+p.i*5),p.q.F (kb (q.F rb rc)) (1+p.i*5+1),p.q.F (kb (q.F rb rc)) (1+p.i*5+1+1),p.q.F (kb (q.F rb rc)) (1+p.i*5+1+1+1),p.q.F (kb (q.F rb rc)) (1+p.i*5+1+1+1+1)] i) :
  spM q rb rc qb qc ⟨p.a,p.x,p.b,p.i, .slice (some ⟨i.b,i.c,none⟩) (slL p.v+1) i.k,⟨i.D,i.S,i.F⟩⟩:=by
 have hb:=h.l.B _ _ he;have hv:=h.l.v _ _ he;rw[Nat.mul_comm]at hb hv;have keep:∀ c,p.q.D c->(0<slK p.v->c≠slB p.v)->i.D c/\i.S c=p.q.S c/\∀ y,i.F c y=p.q.F c y:=λc hc hne=>a7X hap hc λhr=>hne (by omega)
 have hq:∀ c,q.D c->i.D c/\i.S c=p.q.S c/\∀ y,i.F c y=p.q.F c y:=λc hc=>keep c (h.fr.1 c hc).1 λh0 e=>(h.e.D h0).2.2.1 (e▸hc)
 refine⟨L,R,E++[e],⟨h.a,⟨λc hc=>⟨(hq c hc).1,(hq c hc).2.1.trans (h.fr.1 c hc).2⟩,λc k hc h1 h2=>((hq c hc).2.2 k).trans (h.fr.2 c k hc h1 h2)⟩,h.nw,?_,?_,?_,?_⟩,b1S hp (a5I he),(List.getElem?_eq_some_iff.1 he).1,hs,hg⟩
 ·have:=hq _ ho.nd.D;exact h.l.same this.1 this.2.1 this.2.2
 ·have:=keep p.b h.r.D λh0 e=>(h.vn ho h0).2 e.symm
  exact h.r.same this.1 this.2.1 this.2.2
 ·exact h.e.app (λc hc=>(h.fr.1 c hc).1) h.r.D hv (h.l.o _ _ he) hb hap
 ·exact((hq _ ho.qD).2.2 _).trans h.dat
theorem b5G(ho:spO q rb rc qb qc)(h:spA q rb rc qb qc p L R E)(hp:(a2a L p.i++R++E).Perm (A3 q (kb (q.F rb rc))))(hi:p.i<L.length)(hs:∀ j e,j<p.i->L[j]? = some e->a0V p.a (bxOf q.F rb rc) e)(hg:∀ e∈R,goP p.a (bxOf q.F rb rc) e)(v:Value) :
  b0W q rb rc qb qc ⟨p.a,p.x,p.b,p.i,p.v,⟨p.q.D,p.q.S,j0 (j0 (cp5 p.q.F (kb (q.F rb rc)) (1+p.i*5) p.q.F (kb (q.F rb rc)) (1+(L.length-1)*5)) (kb (q.F rb rc)) (1+(L.length-1)*5) v) (kb (q.F rb rc)) 0 (.int .i64 (L.length-1:Nat))⟩⟩:=by
 refine⟨a2a L p.i,R,E,h.wn ho rfl rfl rfl rfl rfl (λc k hc=>?_) (h.l.swap hi v h.l.D rfl λ_=>rfl),hp,?_,λj e hj he=>?_,hg⟩
 ·show j0 _ _ _ _ _ _=_;rw[b9 (.inl hc),b9 (.inl hc),P2 (.inl hc)]
 ·show p.i<=_;rw[a3b hi];omega
 ·have hj:j<p.i:=hj;rw[a7x hi (by omega),if_neg (by omega)]at he;exact hs j e hj he
theorem b4I(ho:spO q rb rc qb qc)(h:spA q rb rc qb qc p L R E)(hp:(L++R++E).Perm (A3 q (kb (q.F rb rc))))(hi:p.i=L.length)(hs:∀ j e,j<p.i->L[j]? = some e->a0V p.a (bxOf q.F rb rc) e)(hg:∀ e∈R,goP p.a (bxOf q.F rb rc) e) :
  sp2 q rb rc qb qc ⟨p.a,p.x,p.b,0,p.v,p.q⟩:=by
 have hne:A3 q (kb (q.F rb rc))≠[]:=λe=>by have:=ho.2.2.2.1;rw[e]at this;simp at this
 obtain⟨t1,t2⟩:=ho.2.2.1;obtain⟨⟨a1,m1,e1⟩,⟨a2,m2,e2⟩,⟨a3,m3,e3⟩,⟨a4,m4,e4⟩⟩:=t2 (by simpa using hne)
 have hloE:∃ e∈A3 q (kb (q.F rb rc)),e.B.lo p.a=(bxOf q.F rb rc).lo p.a:=by
  have:=h.a;rcases (by omega:p.a=0∨p.a=1)with c|c <;> rw[c]
  ·obtain⟨e,he,rfl⟩:=List.mem_map.1 m1;exact⟨e,he,e1⟩
  ·obtain⟨e,he,rfl⟩:=List.mem_map.1 m2;exact⟨e,he,e2⟩
 have hhiE:∃ e∈A3 q (kb (q.F rb rc)),e.B.hi p.a=(bxOf q.F rb rc).hi p.a:=by
  have:=h.a;rcases (by omega:p.a=0∨p.a=1)with c|c <;> rw[c]
  ·obtain⟨e,he,rfl⟩:=List.mem_map.1 m3;exact⟨e,he,e3⟩
  ·obtain⟨e,he,rfl⟩:=List.mem_map.1 m4;exact⟨e,he,e4⟩
 have hin:∀ e∈A3 q (kb (q.F rb rc)),(bxOf q.F rb rc).lo p.a<=e.B.lo p.a/\e.B.hi p.a<=(bxOf q.F rb rc).hi p.a:=λe he=>by
  have h1:=t1 e.B (List.mem_map.2 ⟨e,he,rfl⟩);obtain⟨k1,k2,k3,k4⟩:=h1;have:=h.a;rcases (by omega:p.a=0∨p.a=1)with c|c <;> rw[c]
  ·exact⟨k1,k3⟩
  ·exact⟨k2,k4⟩
 have hlen:=a6s ho hp;simp only[List.length_append]at hlen;refine⟨L,R,E,h.at rfl rfl rfl rfl,by simpa using hp,⟨Nat.zero_le _,by omega⟩,λhL=>?_,λhR=>?_⟩
 ·obtain⟨e,he,h1⟩:=hloE;intro hE;have hm:=hp.mem_iff.2 he;have hE:E=[]:=by simpa using hE
  rw[hL,hE]at hm;have hm:e∈R:=by simpa using hm
  have h2:=hg e hm;have h3:=(hin e he).2;unfold goP at h2;omega
 ·obtain⟨e,he,h1⟩:=hhiE;intro hE;have hm:=hp.mem_iff.2 he;have hE:E=[]:=by simpa using hE
  rw[hR,hE]at hm;have hm:e∈L:=by simpa using hm
  obtain⟨j,hj,h4⟩:=List.getElem_of_mem hm;have h2:=hs j e (by omega) (by rw[List.getElem?_eq_getElem hj,h4]);have h3:=(hin e he).1;unfold a0V at h2;omega
theorem a4m{i:Nat}{e:En}(he:E[i]? = some e):E.drop i=e :: E.drop (i+1):=by
 obtain⟨h1,rfl⟩:=List.getElem?_eq_some_iff.1 he;exact List.drop_eq_getElem_cons h1
theorem b7N(ho:spO q rb rc qb qc)(h:spA q rb rc qb qc p L R E)(hp:(L++R++E.drop p.i).Perm (A3 q (kb (q.F rb rc)))){e:En}(he:E[p.i]? = some e)(hE:E.length<=17)(hlt:L.length<R.length){i:Nat}(hi:i=p.i+1) :
  sp2 q rb rc qb qc ⟨p.a,p.x,p.b,i,p.v,⟨p.q.D,p.q.S,j0 (cp5 p.q.F (kb (q.F rb rc)) (1+L.length*5) p.q.F (slB p.v) (slC p.v+p.i*5)) (kb (q.F rb rc)) 0 (.int .i64 (L.length+1:Nat))⟩⟩:=by
 subst hi;have hb:=h.e.B _ _ he;have hv:=h.e.c _ _ he;rw[Nat.mul_comm]at hb hv;have hl:=a6s ho hp;rw[a4m he]at hp hl;simp only[List.length_append,List.length_cons]at hl;refine⟨L++[e],R,E,h.wn ho rfl rfl rfl rfl rfl (λc k hc=>?_) (h.l.cpush (by omega) hv (h.e.o _ _ he) hb h.l.D rfl λ_=>rfl),?_,⟨(List.getElem?_eq_some_iff.1 he).1,hE⟩,λhn=>by simp at hn,λhn=>?_⟩
 ·show j0 _ _ _ _ _ _=_;rw[b9 (.inl hc),P2 (.inl hc)]
 ·refine List.Perm.trans ?_ hp;show (L++[e]++R++E.drop (p.i+1)).Perm _;refine List.Perm.trans ?_ List.perm_middle.symm;rw[List.append_assoc,List.append_assoc];refine List.perm_middle.trans ?_;rw[List.append_assoc];exact List.Perm.refl _
 ·rw[hn]at hlt;simp at hlt
theorem b5o(ho:spO q rb rc qb qc)(h:spA q rb rc qb qc p L R E)(hp:(L++R++E.drop p.i).Perm (A3 q (kb (q.F rb rc)))){e:En}(he:E[p.i]? = some e)(hE:E.length<=17)(hlt:¬L.length<R.length){i:Nat}(hi:i=p.i+1) :
  sp2 q rb rc qb qc ⟨p.a,p.x,p.b,i,p.v,⟨p.q.D,p.q.S,j0 (cp5 p.q.F p.b (1+R.length*5) p.q.F (slB p.v) (slC p.v+p.i*5)) p.b 0 (.int .i64 (R.length+1:Nat))⟩⟩:=by
 subst hi;have hb:=h.e.B _ _ he;have hv:=h.e.c _ _ he;rw[Nat.mul_comm]at hb hv;have hl:=a6s ho hp;rw[a4m he]at hp hl;simp only[List.length_append,List.length_cons]at hl;refine⟨L,R++[e],E,h.wb ho rfl rfl rfl rfl rfl (λc k hc=>?_) (h.r.cpush (by omega) hv (h.e.o _ _ he) hb h.r.D rfl λ_=>rfl),?_,⟨(List.getElem?_eq_some_iff.1 he).1,hE⟩,λhn hd=>?_,λhn=>by simp at hn⟩
 ·show j0 _ _ _ _ _ _=_;rw[b9 (.inl hc),P2 (.inl hc)]
 ·refine List.Perm.trans ?_ hp;show (L++(R++[e])++E.drop (p.i+1)).Perm _;rw[<-List.append_assoc,List.append_assoc];exact List.Perm.refl _
 ·have hd:E.drop (p.i+1)=[]:=hd;rw[hd]at hl;rw[hn]at hl hlt;simp at hl hlt;rw[hlt]at hl;simp at hl
theorem c3u(ho:spO q rb rc qb qc)(h:spA q rb rc qb qc p L R E)(hp:(L++R++E.drop p.i).Perm (A3 q (kb (q.F rb rc))))(hi:p.i=E.length)(hL:L=[]->E.drop p.i≠[])(hR:R=[]->E.drop p.i≠[]) :
  hangs p.q rb rc/\A3 p.q (kb (p.q.F rb rc))≠[]/\∀ q1,rcP p.q rb rc (kb (p.q.F rb rc)) (A3 p.q (kb (p.q.F rb rc))).length q1->hangs q1 qb qc/\A3 q1 (kb (q1.F qb qc))≠[]/\
   ∀ q2,rcP q1 qb qc (kb (q1.F qb qc)) (A3 q1 (kb (q1.F qb qc))).length q2->spP q rb rc qb qc q2:=by
 have hd:E.drop p.i=[]:=by rw[hi];exact List.drop_length
 rw[hd]at hp hL hR;have hL:L≠[]:=λe=>hL e rfl
 have hR:R≠[]:=λe=>hR e rfl
 obtain⟨x1,x2,x3,x4⟩:=h.box ho;have hap:=ho.2.2.2.2.2.2;have hne:=ho.ne;have hbn:=h.bn ho;have hbq:=h.bq ho;have hbr:=h.br ho;have hrr:p.q.F rb rc=q.F rb rc:=h.fr.2 rb rc ho.2.1.1 (Ne.symm hne) (λe=>by unfold apart at hap;omega);rw[hrr,h.l.of];refine⟨⟨x1,x2,by rw[hrr];exact ho.1.2.2.1,by rw[hrr];exact hne,by rw[hrr,h.l.of];exact h.l⟩,hL,?_⟩;rintro q1 ⟨hs1,B1,hB1,ht1⟩;rw[h.l.of,List.take_length]at ht1;have hqq:q1.F qb qc=.iface 207 (.pointer (some ⟨p.b,0,none⟩)):=(hs1.2.2 qb qc (by unfold rW;unfold apart at hap;omega)).trans h.dat;have hk:kb (q1.F qb qc)=p.b:=by rw[hqq];rfl
 have hr1:F1 q1 p.b R:=h.r.same (by rw[hs1.1];exact h.r.D) (by rw[hs1.2.1]) λc=>hs1.2.2 _ _ (by unfold rW;omega)
 rw[hk,hr1.of];have hfq:=h.fr.1 qb ho.qD;refine⟨⟨by rw[hs1.1];exact hfq.1,by rw[hs1.2.1,hfq.2];exact ho.2.2.2.2.1.2,by rw[hqq];rfl,by rw[hk];omega,by rw[hk,hr1.of];exact hr1⟩,hR,?_⟩;rintro q2 ⟨hs2,B2,hB2,ht2⟩;rw[hr1.of,List.take_length]at ht2;have hl1:F1 q1 (kb (q.F rb rc)) L:=h.l.same (by rw[hs1.1];exact h.l.D) (by rw[hs1.2.1]) λc=>hs1.2.2 _ _ (by unfold rW;omega)
 refine⟨p.b,L,R,B1,B2,h.nw,by simpa using hp,hL,hR,hl1.same (by rw[hs2.1];exact hl1.D) (by rw[hs2.2.1]) λc=>hs2.2.2 _ _ (by have:=ho.qn;unfold rW;omega),
  hr1.same (by rw[hs2.1];exact hr1.D) (by rw[hs2.2.1]) λc=>hs2.2.2 _ _ (by unfold rW;omega),?_,?_,ht1,hB2,ht2,λc hc=>?_,λc k hc h1 h2=>?_⟩
 ·rw[hs2.2.2 qb qc (by unfold rW;omega)];exact hqq
 ·have hk:∀ k,1<=k->k<5->q2.F rb (rc+k)=q1.F rb (rc+k):=λk k1 k2=>hs2.2.2 _ _ (by unfold rW;unfold apart at hap;omega)
  obtain⟨b1,b2,b3,b4⟩:=hB1;exact⟨by rw[hk 1 (by omega) (by omega)];exact b1,by rw[hk 2 (by omega) (by omega)];exact b2,by rw[hk 3 (by omega) (by omega)];exact b3,by rw[hk 4 (by omega) (by omega)];exact b4⟩
 ·rw[hs2.1,hs1.1,hs2.2.1,hs1.2.1];exact h.fr.1 c hc
 ·unfold rW at h2;rw[hs2.2.2 c k (by unfold rW;omega),hs1.2.2 c k (by unfold rW;omega)];exact h.fr.2 c k hc h1 (by omega)
end
noncomputable def X2:F3:=⟨G0,[(135,o9 (Nat×Nat) ⟨default⟩ a8D),(130,o9 RM ⟨default⟩ a9m)],[(210,0)],[],[(178,0)]⟩
theorem x2:A7 prog X2:=⟨g0,q8.cons c0p (q8.cons c0R q8.nil)⟩
noncomputable def a5j:List SV->RRd (RM)
 | [.pb n rb rc, .pb n1 qb qc]=>.read n λo0=>(match I5 o0 with
  | some (ts,q)=>.ret ⟨[.pb 0 rb rc, .pb 0 qb qc],[(0,rwO ts q)],some (n=n1/\(spO q rb rc qb qc)),λi=>spP q rb rc qb qc i,λi=>⟨[],[], .tup [],[(0,rwO ts (i))],[],none⟩⟩
  | none=>.fail)
 | _=>.fail
theorem b4P(R:Option Ob->SV->Prop)(ts:List Nat)(q:RM)(rb rc qb qc:Nat){T1}(t1:T1=λ(j:SpI)=>(j0 (j0 (j0 (j0 (SpI.q j).3 (kb (q.3 rb rc)) (1+toNat (↑(SpI.i j):Int)*5) ((SpI.q j).3 (kb (q.3 rb rc)) (1+toNat (wrap .i64 (p7 ((SpI.q j).3 (kb (q.3 rb rc)) 0)-(1:Int)))*5))) (kb (q.3
 rb rc)) (1+toNat (↑(SpI.i j):Int)*5+1) ((SpI.q j).3 (kb (q.3 rb rc)) (1+toNat (wrap .i64 (p7 ((SpI.q j).3 (kb (q.3 rb rc)) 0)-(1:Int)))*5+1))) (kb (q.3 rb rc)) (1+toNat (↑(SpI.i j):Int)*5+1+1)
 ((SpI.q j).3 (kb (q.3 rb rc)) (1+toNat (wrap .i64 (p7 ((SpI.q j).3 (kb (q.3 rb rc)) 0)-(1:Int)))*5+1+1))) (kb (q.3 rb rc)) (1+toNat (↑(SpI.i j):Int)*5+1+1+1) ((SpI.q j).3 (kb (q.3 rb rc)) (1+toNat
 (wrap .i64 (p7 ((SpI.q j).3 (kb (q.3 rb rc)) 0)-(1:Int)))*5+1+1+1)))){T2}(t2:T2=(kb (q.3 rb rc))){T3}(t3:T3=λ(i:SpI)=>(↑(SpI.i i):Int)){T4}(t4:T4=λ(i:SpI)=>(j0 (j0 (j0 (j0 (SpI.q i).3 (SpI.b i) (1+toNat
 (p7 ((SpI.q i).3 (SpI.b i) 0))*5) ((SpI.q i).3 (slB (SpI.v i)) (slC (SpI.v i)+toNat (T3 i)*5))) (SpI.b i) (1+toNat (p7 ((SpI.q i).3 (SpI.b i) 0))*5+1) ((SpI.q i).3 (slB (SpI.v i)) (slC (SpI.v i)+toNat (T3 i)*5+1)))
 (SpI.b i) (1+toNat (p7 ((SpI.q i).3 (SpI.b i) 0))*5+1+1) ((SpI.q i).3 (slB (SpI.v i)) (slC (SpI.v i)+toNat (T3 i)*5+1+1))) (SpI.b i) (1+toNat (p7 ((SpI.q i).3 (SpI.b i) 0))*5+1+1+1) ((SpI.q i).3 (slB (SpI.v
 i)) (slC (SpI.v i)+toNat (T3 i)*5+1+1+1)))){T5}(t5:T5=λ(i:SpI)=>(j0 (j0 (j0 (j0 (SpI.q i).3 T2 (1+toNat (p7 ((SpI.q i).3 T2 0))*5) ((SpI.q i).3 (slB (SpI.v i)) (slC (SpI.v i)+toNat (T3 i)*5))) T2 (1 +
 toNat (p7 ((SpI.q i).3 T2 0))*5+1) ((SpI.q i).3 (slB (SpI.v i)) (slC (SpI.v i)+toNat (T3 i)*5+1))) T2 (1+toNat (p7 ((SpI.q i).3 T2 0))*5+1+1) ((SpI.q i).3 (slB (SpI.v i)) (slC (SpI.v i)+toNat (T3 i)*5+1 +
 1))) T2 (1+toNat (p7 ((SpI.q i).3 T2 0))*5+1+1+1) ((SpI.q i).3 (slB (SpI.v i)) (slC (SpI.v i)+toNat (T3 i)*5+1+1+1)))){T6}(t6:T6=λ(j:SpI)=>(j0 (T1 j) T2 (1+toNat (↑(SpI.i j):Int)*5+1+1+1+1)
 ((SpI.q j).3 T2 (1+toNat (wrap .i64 (p7 ((SpI.q j).3 T2 0)-(1:Int)))*5+1+1+1+1)) T2 0)){T7}(t7:T7=λ(i:SpI)=>(j0 (j0 (j0 (j0 (SpI.q i).3 (SpI.b i) (1+toNat (p7 ((SpI.q i).3 (SpI.b i) 0))*5) ((SpI.q
 i).3 T2 (1+toNat (T3 i)*5))) (SpI.b i) (1+toNat (p7 ((SpI.q i).3 (SpI.b i) 0))*5+1) ((SpI.q i).3 T2 (1+toNat (T3 i)*5+1))) (SpI.b i) (1+toNat (p7 ((SpI.q i).3 (SpI.b i) 0))*5+1+1) ((SpI.q i).3 T2 (1 +
 toNat (T3 i)*5+1+1))) (SpI.b i) (1+toNat (p7 ((SpI.q i).3 (SpI.b i) 0))*5+1+1+1) ((SpI.q i).3 T2 (1+toNat (T3 i)*5+1+1+1)))){T8}(t8:T8=λ(i:SpI)=>((SpI.q i).3 (slB (SpI.v i)) (slC (SpI.v i)+toNat (T3
 i)*5+1+1+1+1))){T9}(t9:T9=λ(i:SpI)=>(↑(SpI.a i):Int)){T10}(t10:T10=λ(i:SpI)=>(fop BinOp.sub .f64 (j6 ((SpI.q i).3 T2 (1+toNat (T3 i)*5+1+toNat (T9 i)*1))) (j6 ((SpI.q i).3 rb (rc+1+toNat (T9 i) *
 1))))){T11}(t11:T11=λ(i:SpI)=>(fop BinOp.sub .f64 (j6 ((SpI.q i).3 rb (rc+3+toNat (T9 i)*1))) (j6 ((SpI.q i).3 T2 (1+toNat (T3 i)*5+3+toNat (T9 i)*1))))){T12}(t12:T12=(True/\rb=rb/\rc=rc)){T13}(t13:T13=fun
 (j:SpI)=>(wrap .i64 (p7 ((SpI.q j).3 T2 0)-(1:Int)))){T14}(t14:T14=(True/\kb (q.3 rb rc)=kb (q.3 rb rc)/\0=0)){T15}(t15:T15=λ(i:SpI)=>(1+toNat (p7 ((SpI.q i).3 (SpI.b i) 0))*5+1+1+1+1)){T16}(t16:T16=(RM.mk
 (RM.D q) (RM.S q) (RM.F q))){T17}(t17:T17=λ(j:SpI)=>(j0 (T1 j) T2 (1+toNat (↑(SpI.i j):Int)*5+1+1+1+1) ((SpI.q j).3 T2 (1+toNat (T13 j)*5+1+1+1+1)))){T18}(t18:T18=λ(i:SpI) (pq:SpI)=>(T12/\(True/\qb=qb/\
 qc=qc)/\T12/\T14/\(True/\SpI.b i=SpI.b pq/\0=0)/\(True/\SpI.v i=SpI.v pq)/\(↑(slL (SpI.v i)):Int)=(↑(slL (SpI.v pq)):Int)/\wrap .i64 ((T3 i)+1)=(↑(SpI.i pq):Int)/\True)){T19}(t19:T19=λ(i:SpI)=>((SpI.q i).3 T2
 (1+toNat (T3 i)*5+1+1+1+1))){T20}(t20:T20=λ(i:SpI)=>((SpI.q i).3 (SpI.b i) 0)){T21}(t21:T21=λ(i:SpI)=>((SpI.q i).3 T2 0)){T22}(t22:T22=(True/\qb=qb/\qc=qc)){T23}(t23:T23=λ(i:SpI)=>((SpI.q i).1 (SpI.b i)/\0<(SpI.q
 i).2 (SpI.b i)/\B9 .i64 (T20 i))){T24}(t24:T24=λ(i:SpI)=>(kb ((RM.mk (RM.D (SpI.q i)) (RM.S (SpI.q i)) (RM.F (SpI.q i))).3 rb rc))){T25}(t25:T25=λ(j:SpI)=>(1+toNat (wrap .i64 (p7 (T6 j)-(1:Int)))*5 +
 0)){T26}(t26:T26=λ(i:SpI)=>(RM.mk (RM.D (SpI.q i)) (SpI.q i).2 (SpI.q i).3)){T27}(t27:T27=λ(i:SpI)=>((SpI.q i).1 T2/\0<(SpI.q i).2 T2/\B9 .i64 (T21 i))){T28}(t28:T28=λ(i:SpI) (pq:SpI)=>(0=0/\0=0/\ts=ts/\(SpI.q i).3=(SpI.q
 pq).3/\(SpI.q i).2=(SpI.q pq).2/\RM.D (SpI.q i)=RM.D (SpI.q pq))){T29}(t29:T29=λ(i_2:RM)=>(kb ((RM.mk (RM.D i_2) (RM.S i_2) (RM.F i_2)).3 qb qc))){T30}(t30:T30=λ(i:SpI)=>(slB (SpI.v i))){T31}(t31:T31=λ(i:SpI)=>(1+toNat (p7
 (T21 i))*5+1+1+1+1)){T32}(t32:T32=λ(i:SpI)=>((SpI.q i).1 (SpI.b i)/\1+toNat (p7 (T20 i))*5+5<=(SpI.q i).2 (SpI.b i))){T33}(t33:T33=λ(i:SpI) (pq:SpI)=>(True/\SpI.b i=SpI.b pq/\0=0)){T34}(t34:T34=fun
 (i:SpI)=>((SpI.q i).3 (T30 i) (slC (SpI.v i)+toNat (T3 i)*5+1+1+1))){T35}(t35:T35=λ(i:SpI) (pq:SpI)=>(spM q rb rc qb qc pq/\SpI.i pq=SpI.i i/\(SpI.q pq).3 T2 0=(SpI.q i).3 T2 0)){T36}(t36:T36=λ(pq:SpI)=>(↑(SpI.i pq) :
 Int)){T37}(t37:T37=λ(i:SpI)=>((SpI.q i).3 T2 (1+toNat (T3 i)*5+1+toNat (T9 i)*1))){T38}(t38:T38=λ(i:SpI)=>((SpI.q i).3 T2 (1+toNat (T3 i)*5+3+toNat (T9 i)*1))){T39}(t39:T39=λ(i:SpI)=>(1+toNat (T3 i)
 * 5+1+1+1)){T40}(t40:T40=λ(i:SpI)=>((SpI.q i).1 T2/\1+toNat (T3 i)*5+5<=(SpI.q i).2 T2)){T41}(t41:T41=λ(i:SpI)=>((SpI.q i).3 (T30 i) (slC (SpI.v i)+toNat (T3 i)*5+1+1))){T42}(t42:T42=λ(i_2:RM)=>(RM.mk (RM.D
 i_2) i_2.2 i_2.3)){T43}(t43:T43=(T16.3 rb (rc+0))){T44}(t44:T44=λ(i:SpI)=>(↑(slL (SpI.v i)):Int)){T45}(t45:T45=λ(i:SpI)=>((SpI.q i).3 (T30 i) (slC (SpI.v i)+toNat (T3 i)*5+1))):K8 X2 1 [(7,c8j ts q rb rc qb qc),(21,c7v ts q rb rc qb qc)] [] (p9 f129) (A6 f129.ntmps [.pb 0 rb rc, .pb 0 qb qc] [(0,rwO ts q)] 1) (A8 X2.G.E.T f129.results.toList λS v=>R (Go.Sx.look S.H 0) v)=(
 ∀(i:Nat×Nat),okR (RM.mk (RM.D q) q.2 q.3) rb rc/\(i.1<2->(q.1 rb/\rc+0<T16.2 rb)/\(a2u 207 T43/\a1d (K0 T43))/\∀(i_1:Nat),¬q.1 i_1->((qb=i_1∨q.1 qb)/\qc+0+1<=K2 (RM.D T16) q.2 i_1 86 qb)/\(∃(pq:SpI),b0W q
 rb rc qb qc pq/\(T12/\T22/\(↑(i.1):Int)=(↑(SpI.a pq):Int)/\T12/\(True/\ptB (K0 T43)=kb (q.3 rb rc)/\ptC (K0 T43)=0)/\(True/\i_1=SpI.b pq/\0=0)/\SpI.v pq=Value.slice Option.none 0 0/\0=(T36 pq)/\True)/\True/\(0=0
 /\0=0/\ts=ts/\j0 (I4 (RM.D T16) q.3 i_1 (Go.Sx.rz tys 210)) qb (qc+0) (Value.iface 207 (Value.pointer (Option.some (Addr.mk i_1 0 Option.none))))=(SpI.q pq).3/\K2 (RM.D T16) q.2 i_1 86=(SpI.q pq).2/\K5 (RM.D T16) i_1=RM.D
 (SpI.q pq))/\True)/\∀(i:SpI),b0W q rb rc qb qc i->(T27 i)/\(decide ((T3 i)<p7 (T21 i))=true->((0:Int)<=(T3 i)/\(T3 i)<17)/\(0<=(T9 i)/\(T9 i)<2)/\((SpI.q i).1 T2/\1+toNat (T3 i)*5+1+toNat (T9 i)*1 <
 (SpI.q i).2 T2/\z6 .f64 (T37 i))/\((0:Int)<=(T9 i)/\(T9 i)<2)/\((SpI.q i).1 rb/\rc+1+toNat (T9 i)*1<(SpI.q i).2 rb/\z6 .f64 ((SpI.q i).3 rb (rc+1+toNat (T9 i)*1)))/\fok BinOp.sub .f64 (j6 (T37 i)) (j6
 ((SpI.q i).3 rb (rc+1+toNat (T9 i)*1)))/\true=true/\(0<=(T9 i)/\(T9 i)<2)/\((SpI.q i).1 rb/\rc+3+toNat (T9 i)*1<(SpI.q i).2 rb/\z6 .f64 ((SpI.q i).3 rb (rc+3+toNat (T9 i)*1)))/\(0<=(T3 i)/\(T3 i)<17)
 /\(0<=(T9 i)/\(T9 i)<2)/\((SpI.q i).1 T2/\1+toNat (T3 i)*5+3+toNat (T9 i)*1<(SpI.q i).2 T2/\z6 .f64 (T38 i))/\fok BinOp.sub .f64 (j6 ((SpI.q i).3 rb (rc+3+toNat (T9 i)*1))) (j6 (T38 i))/\true=true/\
 (fLt .f64 (T10 i) (T11 i)=true->∃(pq:SpI),b0W q rb rc qb qc pq/\toNat (p7 ((SpI.q pq).3 T2 0))-SpI.i pq<toNat (p7 (T21 i))-SpI.i i/\(T12/\T22/\(T9 i)=(↑(SpI.a pq):Int)/\T12/\T14/\(T33 i pq)/\(True/\SpI.v i =
 SpI.v pq)/\wrap .i64 ((T3 i)+1)=(T36 pq)/\True)/\True/\(T28 i pq)/\True)/\(fLt .f64 (T10 i) (T11 i)=false->((fGt .f64 (T10 i) (T11 i)=true->(T23 i)/\(0<=(T3 i)/\(T3 i)<(17:Int))/\(T40 i)/\((0:Int)<=p7 (T20 i)/\
 p7 (T20 i)<(17:Int))/\((((((T32 i)/\Value.oneCell' ((SpI.q i).3 T2 (1+toNat (T3 i)*5))=true)/\Value.oneCell' ((SpI.q i).3 T2 (1+toNat (T3 i)*5+1))=true)/\Value.oneCell' ((SpI.q i).3 T2 (1+toNat (T3 i)*5+1 +
 1))=true)/\Value.oneCell' ((SpI.q i).3 T2 (T39 i))=true)/\Value.oneCell' (T19 i)=true)/\true=true/\((SpI.q i).1 (SpI.b i)/\0<(SpI.q i).2 (SpI.b i)/\B9 .i64 (j0 (T7 i) (SpI.b i) (T15 i) (T19 i) (SpI.b i) 0))/\((SpI.q i).1 (SpI.b
 i)/\1<=(SpI.q i).2 (SpI.b i))/\∃(pq:SpI),(T35 i pq)/\(T12/\T22/\(T9 i)=(↑(SpI.a pq):Int)/\T12/\T14/\(T33 i pq)/\(True/\SpI.v i=SpI.v pq)/\(T3 i)=(T36 pq)/\True)/\True/\(0=0/\0=0/\ts=ts/\j0 (j0 (T7 i) (SpI.b i)
 (T15 i) (T19 i)) (SpI.b i) 0 (Value.int .i64 (wrap .i64 (p7 (j0 (T7 i) (SpI.b i) (T15 i) (T19 i) (SpI.b i) 0)+(1:Int))))=(SpI.q pq).3/\(SpI.q i).2=(SpI.q pq).2/\RM.D (SpI.q i)=RM.D (SpI.q pq))/\True)/\(fGt .f64 (T10 i) (T11
 i)=false->(0<=(T3 i)/\(T3 i)<17)/\(T40 i)/\∀(i_2:ApI),((((((Value.oneCell' ((SpI.q i).3 T2 (1+toNat (T3 i)*5))=true/\Value.oneCell' ((SpI.q i).3 T2 (1+toNat (T3 i)*5+1))=true)/\Value.oneCell' ((SpI.q i).3 T2 (1 +
 toNat (T3 i)*5+1+1))=true)/\Value.oneCell' ((SpI.q i).3 T2 (T39 i))=true)/\Value.oneCell' (T19 i)=true)/\isSlN (SpI.v i))/\appO (RM.D (SpI.q i)) (SpI.q i).2 5 48 (T30 i) (slC (SpI.v i)) (slL (SpI.v i)) (slK (SpI.v i)) 1)/\(P1
 (RM.D (SpI.q i)) (SpI.q i).2 (SpI.q i).3 5 (T30 i) (slC (SpI.v i)) (slL (SpI.v i)) (slK (SpI.v i)) 1 [(SpI.q i).3 T2 (1+toNat (T3 i)*5),(SpI.q i).3 T2 (1+toNat (T3 i)*5+1),(SpI.q i).3 T2 (1+toNat (T3 i)*5+1+1),(SpI.q
 i).3 T2 (T39 i),(SpI.q i).3 T2 (1+toNat (T3 i)*5+1+1+1+1)] i_2->∃(pq:SpI),(T35 i pq)/\(T12/\T22/\(T9 i)=(↑(SpI.a pq):Int)/\T12/\T14/\(T33 i pq)/\(True/\SpI.v pq=Value.slice (Option.some (Addr.mk i_2.1 i_2.2
 Option.none)) (slL (SpI.v i)+1) i_2.3)/\(T3 i)=(T36 pq)/\True)/\True/\(0=0/\0=0/\ts=ts/\i_2.6=(SpI.q pq).3/\i_2.5=(SpI.q pq).2/\ApI.D i_2=RM.D (SpI.q pq))/\True)))/\∀(j:SpI),spM q rb rc qb qc j/\SpI.i j=SpI.i i/\
 (SpI.q j).3 T2 0=(SpI.q i).3 T2 0->((SpI.q j).1 T2/\0<(SpI.q j).2 T2/\B9 .i64 ((SpI.q j).3 T2 0))/\((0:Int)<=wrap .i64 (p7 ((SpI.q j).3 T2 0)-(1:Int))/\wrap .i64 (p7 ((SpI.q j).3 T2 0)-(1:Int))<(17:Int))
 /\((SpI.q j).1 T2/\1+toNat (T13 j)*5+5<=(SpI.q j).2 T2)/\(0<=(↑(SpI.i j):Int)/\(↑(SpI.i j):Int)<17)/\(((((((SpI.q j).1 T2/\1+toNat (↑(SpI.i j):Int)*5+5<=(SpI.q j).2 T2)/\Value.oneCell' ((SpI.q j).3 T2 (1 +
 toNat (T13 j)*5))=true)/\Value.oneCell' ((SpI.q j).3 T2 (1+toNat (T13 j)*5+1))=true)/\Value.oneCell' ((SpI.q j).3 T2 (1+toNat (T13 j)*5+1+1))=true)/\Value.oneCell' ((SpI.q j).3 T2 (1+toNat (T13 j)*5+1 +
 1+1))=true)/\Value.oneCell' ((SpI.q j).3 T2 (1+toNat (T13 j)*5+1+1+1+1))=true)/\true=true/\((SpI.q j).1 T2/\0<(SpI.q j).2 T2/\B9 .i64 (T6 j))/\((0:Int)<=wrap .i64 (p7 (T6 j)-(1:Int))/\wrap
 .i64 (p7 (T6 j)-(1:Int))<(17:Int))/\((SpI.q j).1 T2/\1+toNat (wrap .i64 (p7 (T6 j)-(1:Int)))*5+0+1<=(SpI.q j).2 T2)/\true=true/\((SpI.q j).1 T2/\0<(SpI.q j).2 T2/\B9 .i64 (j0 (T17 j) T2 (T25 j)
 Value.nilIface T2 0))/\((SpI.q j).1 T2/\1<=(SpI.q j).2 T2)/\∃(pq:SpI),b0W q rb rc qb qc pq/\toNat (p7 ((SpI.q pq).3 T2 0))-SpI.i pq<toNat (p7 (T21 i))-SpI.i i/\(T12/\T22/\(↑(SpI.a j):Int)=(↑(SpI.a pq):Int)/\T12/\
 T14/\(True/\SpI.b j=SpI.b pq/\0=0)/\(True/\SpI.v j=SpI.v pq)/\wrap .i64 (wrap .i64 ((↑(SpI.i j):Int)-1)+(1:Int))=(T36 pq)/\True)/\True/\(0=0/\0=0/\ts=ts/\j0 (j0 (T17 j) T2 (T25 j) Value.nilIface)
 T2 0 (Value.int .i64 (wrap .i64 (p7 (j0 (T17 j) T2 (T25 j) Value.nilIface T2 0)-(1:Int))))=(SpI.q pq).3/\(SpI.q j).2=(SpI.q pq).2/\RM.D (SpI.q j)=RM.D (SpI.q pq))/\True))/\(decide ((T3 i)<p7 (T21 i))=false->isSlN
 (SpI.v i)/\(∃(pq:SpI),sp2 q rb rc qb qc pq/\(T12/\T22/\T12/\T14/\(T33 i pq)/\(True/\SpI.v i=SpI.v pq)/\(T44 i)=(↑(slL (SpI.v pq)):Int)/\0=(T36 pq)/\True)/\True/\(T28 i pq)/\True)/\∀(i:SpI),sp2 q rb rc qb qc i->(decide
 ((T3 i)<(T44 i))=true->(a5G (SpI.v i)/\0<=(T3 i)/\(T3 i)<(T44 i))/\((SpI.q i).1 (T30 i)/\slC (SpI.v i)+toNat (T3 i)*5+5<=(SpI.q i).2 (T30 i))/\(T27 i)/\(T23 i)/\true=true/\(decide (p7 (T21 i)<p7 (T20 i))=true->
 (T27 i)/\((0:Int)<=p7 (T21 i)/\p7 (T21 i)<(17:Int))/\(((((((SpI.q i).1 T2/\1+toNat (p7 (T21 i))*5+5<=(SpI.q i).2 T2)/\Value.oneCell' ((SpI.q i).3 (T30 i) (slC (SpI.v i)+toNat (T3 i)*5))=true)/\Value.oneCell'
 (T45 i)=true)/\Value.oneCell' (T41 i)=true)/\Value.oneCell' (T34 i)=true)/\Value.oneCell' (T8 i)=true)/\true=true/\((SpI.q i).1 T2/\0<(SpI.q i).2 T2/\B9 .i64 (j0 (T5 i) T2 (T31 i) (T8 i) T2 0))/\((SpI.q i).1 T2/\1<=(SpI.q
 i).2 T2)/\∃(pq:SpI),sp2 q rb rc qb qc pq/\slL (SpI.v pq)-SpI.i pq<slL (SpI.v i)-SpI.i i/\(T18 i pq)/\True/\(0=0/\0=0/\ts=ts/\j0 (j0 (T5 i) T2 (T31 i) (T8 i)) T2 0 (Value.int .i64 (wrap .i64 (p7 (j0 (T5 i) T2
 (T31 i) (T8 i) T2 0)+(1:Int))))=(SpI.q pq).3/\(SpI.q i).2=(SpI.q pq).2/\RM.D (SpI.q i)=RM.D (SpI.q pq))/\True)/\(decide (p7 (T21 i)<p7 (T20 i))=false->(T23 i)/\((0:Int)<=p7 (T20 i)/\p7 (T20 i)<(17:Int))/\((((((T32
 i)/\Value.oneCell' ((SpI.q i).3 (T30 i) (slC (SpI.v i)+toNat (T3 i)*5))=true)/\Value.oneCell' (T45 i)=true)/\Value.oneCell' (T41 i)=true)/\Value.oneCell' (T34 i)=true)/\Value.oneCell' (T8 i)=true)/\true=true/\((SpI.q i).1
 (SpI.b i)/\0<(SpI.q i).2 (SpI.b i)/\B9 .i64 (j0 (T4 i) (SpI.b i) (T15 i) (T8 i) (SpI.b i) 0))/\((SpI.q i).1 (SpI.b i)/\1<=(SpI.q i).2 (SpI.b i))/\∃(pq:SpI),sp2 q rb rc qb qc pq/\slL (SpI.v pq)-SpI.i pq<slL (SpI.v i)-SpI.i i/\
 (T18 i pq)/\True/\(0=0/\0=0/\ts=ts/\j0 (j0 (T4 i) (SpI.b i) (T15 i) (T8 i)) (SpI.b i) 0 (Value.int .i64 (wrap .i64 (p7 (j0 (T4 i) (SpI.b i) (T15 i) (T8 i) (SpI.b i) 0)+(1:Int))))=(SpI.q pq).3/\(SpI.q i).2=(SpI.q
 pq).2/\RM.D (SpI.q i)=RM.D (SpI.q pq))/\True))/\(decide ((T3 i)<(T44 i))=false->∀(i_2:RM),(hangs (T26 i) rb rc/\A3 (T26 i) (T24 i)≠[])/\(rcP (T26 i) rb rc (T24 i) (List.length (A3 (T26 i) (T24 i))) i_2->∀(i:RM),(hangs (T42
 i_2) qb qc/\A3 (T42 i_2) (T29 i_2)≠[])/\(rcP (T42 i_2) qb qc (T29 i_2) (List.length (A3 (T42 i_2) (T29 i_2))) i->R (Option.some (Ob.mk true 0 (a9.raw ts (RM.D i) i.2 i.3) 0)) (SV.tup []))))))):=by subst t1 t2 t3 t4 t5 t6 t7 t8 t9 t10 t11 t12 t13 t14 t15 t16 t17 t18 t19 t20 t21 t22 t23 t24 t25 t26 t27 t28 t29 t30 t31 t32 t33 t34 t35 t36 t37 t38 t39 t40 t41 t42 t43 t44 t45;kernel_rfl
theorem b6z:z0 prog 129 (o9 (RM) ⟨default⟩ a5j):=by
 refine D7 x2 func129 rfl (by kernel_rfl) λargs=>?_
 unfold a5j;split;rotate_left;trivial;rename_i n rb rc n1 qb qc;intro o0;try dsimp only
 split;rotate_left;trivial;rename_i ts q hm0;intro(ho:n=n1/\(spO q rb rc qb qc));obtain⟨heq0,ho⟩:=ho;subst heq0;refine⟨?_,Nat.succ_pos _,ts,λ(i:RM)=>i,λ(i:RM)=>.tup [],λ_=>rfl,?_,_,_,(b4P (I7 1 ts (λ(i:RM)=>spP q rb rc qb qc i) (λ(i:RM)=>i) (λ(i:RM)=>.tup [])) ts q rb rc qb qc rfl rfl rfl rfl rfl rfl rfl rfl rfl rfl rfl rfl rfl rfl rfl rfl rfl rfl rfl rfl rfl rfl rfl rfl rfl rfl rfl rfl rfl rfl rfl rfl rfl rfl rfl rfl rfl rfl rfl rfl rfl rfl rfl rfl rfl).mpr ?_⟩
 ·refine j8 rfl ⟨λ_=>rfl,?_,⟨trivial,B8 hm0,trivial⟩⟩;simp[q9,z5,z8,z3,nth,g9]
 ·intro i _;rfl
 ·obtain⟨hD,hSz,hr,hne,hnd⟩:=ho.1;obtain⟨f1,f2,f3,f4⟩:=hr.facts;have hnd17:=hnd.le;have hS0:=hnd.S;simp only[true_and,and_true,eq_self,tN9,Nat.mul_one,decide_eq_true_eq,decide_eq_false_iff_not];simp only[Nat.add_zero,f3,f4];rintro⟨a,x⟩;refine⟨ho.2.1,λha=>⟨⟨hD,by omega⟩,⟨f1,f2⟩,λb hb=>?_⟩⟩;simp only[Q7 hb,Q2 hb];refine⟨⟨.inr ho.qD,?_⟩,⟨⟨a,x,b,0, .slice none 0 0,⟨_,_,_⟩⟩,b6k ho ha hb,(by and_intros <;> first|trivial|rfl|(rw[j5 (by omega) (by omega)];first|rfl|omega))⟩,?_⟩
  ·have:qb≠b:=λe=>hb (e▸ho.qD)
   have:=ho.2.2.2.2.1.2;simp only[D8];rw[if_neg ‹qb≠b›];omega
  ·intro p hsp;have hsp':=hsp;obtain⟨L,R,E,h,hp,hi,hs,hg⟩:=hsp;obtain⟨x1,x2,x3,x4⟩:=h.box ho;have hn:p7 (p.q.F (kb (q.F rb rc)) 0)=(L.length:Nat):=by rw[h.l.n];rfl
   have hm:p7 (p.q.F p.b 0)=(R.length:Nat):=by rw[h.r.n];rfl
   have hLS:=h.l.S;have hRS:=h.r.S;have hL17:=h.l.le;have hR17:=h.r.le;have ha2:=h.a;simp only[hn,hm,tN9];refine⟨⟨h.l.D,by omega,by rw[h.l.n];rfl⟩,λhlt=>?_,λhge=>?_⟩
   ·have hi2:p.i<L.length:=by omega
    have he:=List.getElem?_eq_getElem hi2;generalize L[p.i]=e at he;have hb:=h.l.B _ _ he;have hvv:=h.l.v _ _ he;rw[Nat.mul_comm]at hb hvv;have a0:=hb.lo ha2;have a1:=hb.hi ha2;have b0:=x3.lo ha2;have b1:=x3.hi ha2;obtain⟨k1,k2,k3⟩:=a0.sub b0;obtain⟨k4,k5,k6⟩:=b1.sub a1;have hi17:(0:Int)<=p.i/\(p.i:Int)<17:=by omega
    have ha3:(0:Int)<=p.a/\(p.a:Int)<2:=by omega
    have one:∀ k,k<5->(p.q.F (kb (q.F rb rc)) (1+p.i*5+k)).oneCell'=true:=λk hk=>by
     match k,hk with
     | 0,_=>rw[Nat.add_zero,hvv];exact h.l.o _ _ he
     | 1,_=>rw[hb.1.1];rfl
     | 2,_=>rw[hb.2.1.1];rfl
     | 3,_=>rw[hb.2.2.1.1];rfl
     | 4,_=>rw[hb.2.2.2.1];rfl
    have o0:=one 0 (by omega);have o1:=one 1 (by omega);have o2:=one 2 (by omega);have o3:=one 3 (by omega);have o4:=one 4 (by omega);simp only[Nat.add_zero]at o0;have hcmp:fLt .f64 (fop .sub .f64 (j6 (p.q.F (kb (q.F rb rc)) (1+p.i*5+1+p.a))) (j6 (p.q.F rb (rc+1+p.a)))) (fop .sub .f64 (j6 (p.q.F rb (rc+3+p.a))) (j6 (p.q.F (kb (q.F rb rc)) (1+p.i*5+3+p.a))))=decide (a0V p.a (bxOf q.F rb rc) e):=Z5 k2 k5
    have hcmp2:fGt .f64 (fop .sub .f64 (j6 (p.q.F (kb (q.F rb rc)) (1+p.i*5+1+p.a))) (j6 (p.q.F rb (rc+1+p.a)))) (fop .sub .f64 (j6 (p.q.F rb (rc+3+p.a))) (j6 (p.q.F (kb (q.F rb rc)) (1+p.i*5+3+p.a))))=decide (goP p.a (bxOf q.F rb rc) e):=a1b k2 k5;obtain⟨hr17,he17⟩:=b3X ho hp he;simp only[a0.flt,a1.flt,b0.flt,b1.flt,k1,k4,h.l.D,x1,hi17,ha3,hcmp,hcmp2,h.r.D,and_true,true_and];have hz:∀(F:Nat->Nat->Value)(b x:Nat)(v:Value),j0 F b (1+x) v b 0=F b 0:=λ_ _ _ _=>a9V (by omega)
    simp (disch:=omega) only[a9V,hm,j5];refine⟨by omega,by omega,by omega,by omega,λhc=>⟨⟨p.a,p.x,p.b,p.i+1,p.v,p.q⟩,b6Y h hp hs hg he (oT9 hc) rfl,?_,(by and_intros <;> first|trivial|rfl|(rw[j5 (by omega) (by omega)];first|rfl|omega))⟩,λhc=>⟨⟨λhc2=>?_,λhc2=>?_⟩,?_⟩⟩
    ·show (p7 (p.q.F (kb (q.F rb rc)) 0)).toNat-(p.i+1)<_;rw[hn];omega
    ·refine⟨⟨by omega,by rw[h.r.n];rfl⟩,by omega,by omega,⟨⟨⟨⟨⟨by omega,o0⟩,o1⟩,o2⟩,o3⟩,o4⟩,⟨by omega,by rw[h.r.n];rfl⟩,by omega,_,⟨b5a ho h hp hs hg he (oT9 hc2),rfl,?_⟩,(by and_intros <;> first|trivial|rfl|(rw[j5 (by omega) (by omega)];first|rfl|omega))⟩;show j0 _ _ _ _ _ _=_;rw[b9 (.inl (h.bn ho)),P2 (.inl (h.bn ho))]
    ·refine⟨by omega,λj=>⟨⟨⟨⟨⟨⟨⟨o0,o1⟩,o2⟩,o3⟩,o4⟩,h.e.sl⟩,?_⟩,λhap=>⟨_,⟨b4o ho h hp hs hg he hap,rfl,?_⟩,(by and_intros <;> first|trivial|rfl|(rw[j5 (by omega) (by omega)];first|rfl|omega))⟩⟩⟩
     ·have h1:=h.e.n;have h2:=h.e.le;refine⟨λhk=>?_,λhk=>?_,by omega,by simp only[maxLen];omega⟩
      ·obtain⟨d1,d2,_⟩:=h.e.D (by omega);exact⟨d1,by omega⟩
      ·obtain⟨d1,d2,_⟩:=h.e.D (by omega);exact⟨d1,by omega⟩
     ·exact(a7X hap h.l.D λhr2=>Ne.symm (h.vn ho (by omega)).1).2.2 0
    ·rintro p2 ⟨⟨L2,R2,E2,h2,hp2,hi2',hs2,hg2⟩,hpi,hpn⟩;have hn2:p7 (p2.q.F (kb (q.F rb rc)) 0)=(L2.length:Nat):=by rw[h2.l.n];rfl
     have hLL:L2.length=L.length:=by
      have:p7 (p2.q.F (kb (q.F rb rc)) 0)=p7 (p.q.F (kb (q.F rb rc)) 0):=by rw[hpn]
      rw[hn2,hn]at this;omega
     have hsub:((L2.length:Nat):Int)-1=((L2.length-1:Nat):Int):=by omega
     have hS2:=h2.l.S;have h17:=h2.l.le;have he2:=List.getElem?_eq_getElem (by omega:L2.length-1<L2.length);generalize L2[L2.length-1]'(by omega)=e2 at he2;have hb2:=h2.l.B _ _ he2;have hv2:=h2.l.v _ _ he2;rw[Nat.mul_comm]at hb2 hv2;have q0:(p2.q.F (kb (q.F rb rc)) (1+(L2.length-1)*5)).oneCell'=true:=by rw[hv2];exact h2.l.o _ _ he2
     have q1:(p2.q.F (kb (q.F rb rc)) (1+(L2.length-1)*5+1)).oneCell'=true:=by rw[hb2.1.1];rfl
     have q2:(p2.q.F (kb (q.F rb rc)) (1+(L2.length-1)*5+1+1)).oneCell'=true:=by
      have:=hb2.2.1.1;rw[show 1+(L2.length-1)*5+1+1=1+(L2.length-1)*5+2 from rfl,this];rfl
     have q3:(p2.q.F (kb (q.F rb rc)) (1+(L2.length-1)*5+1+1+1)).oneCell'=true:=by
      have:=hb2.2.2.1.1;rw[show 1+(L2.length-1)*5+1+1+1=1+(L2.length-1)*5+3 from rfl,this];rfl
     have q4:(p2.q.F (kb (q.F rb rc)) (1+(L2.length-1)*5+1+1+1+1)).oneCell'=true:=by
      have:=hb2.2.2.2.1;rw[show 1+(L2.length-1)*5+1+1+1+1=1+(L2.length-1)*5+4 from rfl,this];rfl
     have hw2:IntKind.i64.wrap (IntKind.i64.wrap ((p2.i:Int)-1)+1)=(p2.i:Int):=by
      rw[j5 (n:=(p2.i:Int)-1) (by omega) (by omega),j5 (by omega) (by omega)];omega
     have hw3:IntKind.i64.wrap ((L2.length:Int)-1)=((L2.length-1:Nat):Int):=by
      rw[j5 (by omega) (by omega)];omega
     simp (disch:=omega) only[hn2,hw2,hw3,tN9,h2.l.D,q0,q1,q2,q3,q4,true_and,and_true];refine⟨⟨by omega,by rw[h2.l.n];rfl⟩,⟨by omega,by omega⟩,by omega,⟨by omega,by omega⟩,by omega,⟨by omega,by rw[h2.l.n];rfl⟩,⟨by omega,by omega⟩,by omega,⟨by omega,by rw[h2.l.n];rfl⟩,by omega,_,b5G ho h2 hp2 hi2' hs2 hg2 .nilIface,?_,(by and_intros <;> first|trivial|rfl|(rw[j5 (by omega) (by omega)];first|rfl|omega))⟩;show (p7 (j0 _ (kb (q.F rb rc)) 0 _ (kb (q.F rb rc)) 0)).toNat-p2.i<_;rw[A2];have hpi:p2.i=p.i:=hpi;show ((L2.length-1:Nat):Int).toNat-p2.i<L.length-p.i
     rw[tN9];omega
   ·have hi2:p.i=L.length:=by omega
    refine⟨h.e.sl,⟨⟨p.a,p.x,p.b,0,p.v,p.q⟩,b4I ho h hp hi2 hs hg,(by and_intros <;> first|trivial|rfl|(rw[j5 (by omega) (by omega)];first|rfl|omega))⟩,?_⟩;rintro p2 ⟨L2,R2,E2,h2,hp2,⟨hi3,hE3⟩,hL2,hR2⟩;have hn2:p7 (p2.q.F (kb (q.F rb rc)) 0)=(L2.length:Nat):=by rw[h2.l.n];rfl
    have hm2:p7 (p2.q.F p2.b 0)=(R2.length:Nat):=by rw[h2.r.n];rfl
    have hLS2:=h2.l.S;have hRS2:=h2.r.S;have hL172:=h2.l.le;have hR172:=h2.r.le;have hEn:=h2.e.n;refine⟨λhlt=>?_,λhge2=>?_⟩
    ·have hi4:p2.i<E2.length:=by omega
     have he:=List.getElem?_eq_getElem hi4;generalize E2[p2.i]=e at he;have hb:=h2.e.B _ _ he;have hvv:=h2.e.c _ _ he;rw[Nat.mul_comm]at hb hvv;have hpos:=h2.e.pos (E:=E2) (λe=>by rw[e]at hi4;simp at hi4);obtain⟨d1,d2,d3,d4⟩:=h2.e.D hpos;have hle:=h2.e.le
     have hsl:a5G p2.v:=by
      rcases h2.e.sl with e1|e1
      ·exfalso;rw[e1]at hpos;exact absurd hpos (by decide)
      ·exact e1
     have q0:(p2.q.F (slB p2.v) (slC p2.v+p2.i*5)).oneCell'=true:=by rw[hvv];exact h2.e.o _ _ he
     have q1:(p2.q.F (slB p2.v) (slC p2.v+p2.i*5+1)).oneCell'=true:=by rw[hb.1.1];rfl
     have q2:(p2.q.F (slB p2.v) (slC p2.v+p2.i*5+1+1)).oneCell'=true:=by
      have:=hb.2.1.1;rw[show slC p2.v+p2.i*5+1+1=slC p2.v+p2.i*5+2 from rfl,this];rfl
     have q3:(p2.q.F (slB p2.v) (slC p2.v+p2.i*5+1+1+1)).oneCell'=true:=by
      have:=hb.2.2.1.1;rw[show slC p2.v+p2.i*5+1+1+1=slC p2.v+p2.i*5+3 from rfl,this];rfl
     have q4:(p2.q.F (slB p2.v) (slC p2.v+p2.i*5+1+1+1+1)).oneCell'=true:=by
      have:=hb.2.2.2.1;rw[show slC p2.v+p2.i*5+1+1+1+1=slC p2.v+p2.i*5+4 from rfl,this];rfl
     have hlen:=a6s ho hp2;rw[a4m he]at hlen;simp only[List.length_append,List.length_cons]at hlen;have c1:(0:Int)<=(p2.i:Int):=by omega
     have c2:(p2.i:Int)<((slL p2.v:Nat):Int):=by omega
     simp (disch:=omega) only[a9V,hn2,hm2,j5,tN9,h2.l.D,h2.r.D,d1,q0,q1,q2,q3,q4,hsl,c1,c2,true_and,and_true];refine⟨by omega,⟨by omega,by rw[h2.l.n];rfl⟩,⟨by omega,by rw[h2.r.n];rfl⟩,λhc=>?_,λhc=>?_⟩
     ·refine⟨⟨by omega,by rw[h2.l.n];rfl⟩,⟨by omega,by omega⟩,by omega,⟨by omega,by rw[h2.l.n];rfl⟩,by omega,_,b7N ho h2 hp2 he hE3 (by omega) rfl,?_,(by and_intros <;> first|trivial|rfl|(rw[j5 (by omega) (by omega)];first|rfl|omega))⟩;show slL p2.v-(p2.i+1)<slL p2.v-p2.i;omega
     ·refine⟨⟨by omega,by rw[h2.r.n];rfl⟩,⟨by omega,by omega⟩,by omega,⟨by omega,by rw[h2.r.n];rfl⟩,by omega,_,b5o ho h2 hp2 he hE3 (by omega) rfl,?_,(by and_intros <;> first|trivial|rfl|(rw[j5 (by omega) (by omega)];first|rfl|omega))⟩;show slL p2.v-(p2.i+1)<slL p2.v-p2.i;omega
    ·obtain⟨g1,g2,g3⟩:=c3u ho h2 hp2 (by omega) hL2 hR2;refine λq1=>⟨⟨g1,g2⟩,λhq1=>?_⟩
     obtain⟨g4,g5,g6⟩:=g3 q1 hq1;exact λq2=>⟨⟨g4,g5⟩,λhq2=>⟨q2,g6 q2 hq2,rfl,trivial⟩⟩
structure N4 (q:RM) (rb rc ib ic h:Nat) (k:Kid) (it:Int×Bx):Prop where
 D:q.D rb
 S:rc+5<=q.S rb
 ref:q.F rb rc=.iface 207 (.pointer (some ⟨k.b,0,none⟩))
 box:isBox q.F rb rc k.B
 tr:isTr q h k
 nd:k.fp.Nodup
 n:k.n<=16
 n0:k.n=0->h=0/\k.B=it.2
 rfp:rb∉k.fp
 iD:q.D ib
 iS:ic+5<=q.S ib
 iv:q.F ib ic=.iface 3 (.int .i64 it.1)
 ibx:isBox q.F ib ic it.2
 ifp:ib∉k.fp
def b2m(q q':RM)(fp:List Nat):Prop:=(∀ b,q.D b->q'.D b/\q'.S b=q.S b)/\∀ b c,q.D b->b∉fp->q'.F b c=q.F b c
def a6h(q:RM)(rb rc ib ic h:Nat)(q':RM)(g:Bool):Prop:=∀ k it,N4 q rb rc ib ic h k it->g=decide (¬D6 k.B it.2)/\b2m q q' k.fp/\
 ∃ k':Kid,k'.b=k.b/\k'.n<=17/\1<=k'.n/\isTr q' h k'/\k'.fp.Nodup/\(∀ b∈k'.fp,b∈k.fp∨¬q.D b)/\k'.its.Perm (k.its++[it])/\k'.B=B5 k.B it.2
def b6U(q:RM)(rb rc ib ic h:Nat):Prop:=∃ k it,N4 q rb rc ib ic h k it
def a7B(q:RM)(ib ic nb:Nat)(q':RM):Prop:=L4 q q' (λb _=>b=nb)/\F1 q' nb (A3 q nb++[⟨q.F ib ic,bxOf q.F ib ic⟩])
structure InI where
 j:Nat
 q:RM
 g:Bool
def inC(q:RM)(nb ib ic h:Nat)(p:InI):Prop:=p.j<(A3 q nb).length/\a6h q nb (1+p.j*5) ib ic h p.q p.g
def inE(q:RM)(rb rc nb ib ic h:Nat)(p:InI):Prop:=p.j<(A3 q nb).length/\∃ q1 g,a6h q nb (1+p.j*5) ib ic h q1 g/\L4 q1 p.q (rW nb (1+p.j*5))/\
 isBox p.q.F nb (1+p.j*5) (B5 (bxOf q1.F nb (1+p.j*5)) (bxOf q1.F ib ic))/\p.g=(g&&decide (¬D6 (bxOf q.F rb rc) (bxOf q.F ib ic)))
theorem a9W{α β:Type}{f:α->β}:∀ {m m':List β},m.Perm m'->∀ l:List α,m'=l.map f->∃ l':List α,l'.Perm l/\l'.map f=m:=by
 intro m m' h
 induction h with
 | nil=>intro l hl;exact⟨[],by cases l with|nil=>exact List.Perm.refl _|cons a r=>simp at hl,rfl⟩
 | cons x h ih =>
  intro l hl
  cases l with
  | nil=>simp at hl
  | cons a r =>
   simp only[List.map_cons,List.cons.injEq]at hl;obtain⟨l',h1,h2⟩:=ih r hl.2;exact⟨a :: l',h1.cons a,by simp[h2,hl.1]⟩
 | swap x y t =>
  intro l hl
  cases l with
  | nil=>simp at hl
  | cons a r =>
   cases r with
   | nil=>simp at hl
   | cons b r =>
    simp only[List.map_cons,List.cons.injEq]at hl;exact⟨b :: a :: r,List.Perm.swap a b r,by simp[hl.1,hl.2.1,hl.2.2]⟩
 | trans h1 h2 ih1 ih2 =>
  intro l hl;obtain⟨l2,h3,h4⟩:=ih2 l hl;obtain⟨l1,h5,h6⟩:=ih1 l2 h4.symm;exact⟨l1,h5.trans h3,h6⟩
theorem a1C{α β:Type}{f:α->β}{L R:List β}{l:List α}(h:(L++R).Perm (l.map f)):∃(l1 l2:List α),L=l1.map f/\R=l2.map f/\(l1++l2).Perm l:=by
 obtain⟨l',h1,h2⟩:=a9W h l rfl;obtain⟨l1,l2,rfl,h3,h4⟩:=List.map_eq_append_iff.1 h2;exact⟨l1,l2,h3.symm,h4.symm,h1⟩
theorem a8f{P Q Q' S:List Nat}(h:(P++(Q++S)).Nodup)(hq:Q'.Nodup)(hd:∀ b∈Q',b∈Q∨(b∉P/\b∉S)):(P++(Q'++S)).Nodup:=by
 rw[List.nodup_append,List.nodup_append]at h ⊢;obtain⟨h1,⟨h2,h3,h4⟩,h5⟩:=h;refine⟨h1,⟨hq,h3,λa ha b hb e=>?_⟩,λa ha b hb e=>?_⟩
 ·subst e;rcases hd a ha with hd|hd
  ·exact h4 a hd a hb rfl
  ·exact hd.2 hb
 ·subst e;rcases List.mem_append.1 hb with hb|hb
  ·rcases hd a hb with hd|hd
   ·exact h5 a ha a (List.mem_append.2 (.inl hd)) rfl
   ·exact hd.1 ha
  ·exact h5 a ha a (List.mem_append.2 (.inr hb)) rfl
theorem b5B{α:Type}{l:List α}{i:Nat}{x:α}(h:l[i]? = some x):∃ A B,l=A++x :: B/\A.length=i:=by
 obtain⟨h1,rfl⟩:=List.getElem?_eq_some_iff.1 h;refine⟨l.take i,l.drop (i+1),?_,by rw[List.length_take];omega⟩
 conv=>lhs;rw[<-List.take_append_drop i l]
 rw[List.drop_eq_getElem_cons h1]
theorem b3y{B C:Bx}{l:List Bx}(h:H7 B l)(hn:l≠[])(hc:∀ a∈l,D6 C a):D6 C B:=by
 obtain⟨⟨a,h1,h2⟩,⟨b,h3,h4⟩,⟨c,h5,h6⟩,⟨d,h7,h8⟩⟩:=h.2 hn;have ha:=hc a h1;have hb:=hc b h3;have hcc:=hc c h5;have hd:=hc d h7;unfold D6 at *;omega
theorem a0y{A B C:Bx}(h1:D6 A B)(h2:D6 B C):D6 A C:=by unfold D6 at *;omega
theorem a7K{K b c:Bx}{P S:List Bx}(h:H7 K (P++b :: S)):H7 (B5 K c) (P++B5 b c :: S):=by
 obtain⟨h0,h1⟩:=h;have hb:=h0 b (by simp);obtain⟨⟨a1,m1,e1⟩,⟨a2,m2,e2⟩,⟨a3,m3,e3⟩,⟨a4,m4,e4⟩⟩:=h1 (by simp)
 have mem:∀ a,a∈P++b :: S->a=b∨a∈P++B5 b c :: S:=λa ha=>by
  simp only[List.mem_append,List.mem_cons]at ha ⊢;rcases ha with ha|ha|ha
  ·exact .inr (.inl ha)
  ·exact .inl ha
  ·exact .inr (.inr (.inr ha))
 have hj:B5 b c∈P++B5 b c :: S:=by simp
 refine⟨λa ha=>?_,λ_=>⟨?_,?_,?_,?_⟩⟩
 ·simp only[List.mem_append,List.mem_cons]at ha
  have hK:∀ a,D6 K a->D6 (B5 K c) a:=λa h=>by
   unfold D6 at h ⊢;simp only[B5];refine⟨?_,?_,?_,?_⟩ <;> split <;> omega
  rcases ha with ha|ha|ha
  ·exact hK a (h0 a (by simp[ha]))
  ·subst ha;unfold D6 at hb ⊢;simp only[B5];refine⟨?_,?_,?_,?_⟩ <;> split <;> split <;> omega
  ·exact hK a (h0 a (by simp[ha]))
 ·by_cases e:c.x0<K.x0
  ·exact⟨_,hj,by unfold D6 at hb;simp only[B5];rw[if_pos e,if_pos (by omega)]⟩
  ·rcases mem a1 m1 with rfl|hm
   ·exact⟨_,hj,by simp only[B5];rw[if_neg e,if_neg (by omega)];exact e1⟩
   ·exact⟨_,hm,by simp only[B5];rw[if_neg e];exact e1⟩
 ·by_cases e:c.y0<K.y0
  ·exact⟨_,hj,by unfold D6 at hb;simp only[B5];rw[if_pos e,if_pos (by omega)]⟩
  ·rcases mem a2 m2 with rfl|hm
   ·exact⟨_,hj,by simp only[B5];rw[if_neg e,if_neg (by omega)];exact e2⟩
   ·exact⟨_,hm,by simp only[B5];rw[if_neg e];exact e2⟩
 ·by_cases e:K.x1<c.x1
  ·exact⟨_,hj,by unfold D6 at hb;simp only[B5];rw[if_pos e,if_pos (by omega)]⟩
  ·rcases mem a3 m3 with rfl|hm
   ·exact⟨_,hj,by simp only[B5];rw[if_neg e,if_neg (by omega)];exact e3⟩
   ·exact⟨_,hm,by simp only[B5];rw[if_neg e];exact e3⟩
 ·by_cases e:K.y1<c.y1
  ·exact⟨_,hj,by unfold D6 at hb;simp only[B5];rw[if_pos e,if_pos (by omega)]⟩
  ·rcases mem a4 m4 with rfl|hm
   ·exact⟨_,hj,by simp only[B5];rw[if_neg e,if_neg (by omega)];exact e4⟩
   ·exact⟨_,hm,by simp only[B5];rw[if_neg e];exact e4⟩
theorem b5l{K b B1 B2:Bx}{P S L R:List Bx}(h:H7 K (P++b :: S))(hb:H7 b (L++R))(h1:H7 B1 L)(h2:H7 B2 R)(hL:L≠[])(hR:R≠[]):H7 K (P++B1 :: (S++[B2])):=by
 have i1:D6 b B1:=b3y h1 hL λa ha=>hb.1 a (by simp[ha])
 have i2:D6 b B2:=b3y h2 hR λa ha=>hb.1 a (by simp[ha])
 obtain⟨h0,h3⟩:=h;have hKb:=h0 b (by simp);obtain⟨⟨a1,m1,e1⟩,⟨a2,m2,e2⟩,⟨a3,m3,e3⟩,⟨a4,m4,e4⟩⟩:=h3 (by simp);obtain⟨⟨c1,n1,f1⟩,⟨c2,n2,f2⟩,⟨c3,n3,f3⟩,⟨c4,n4,f4⟩⟩:=hb.2 (by simp[hL])
 have mem:∀ a,a∈P++b :: S->a=b∨a∈P++B1 :: (S++[B2]):=λa ha=>by
  simp only[List.mem_append,List.mem_cons]at ha ⊢;rcases ha with ha|ha|ha
  ·exact .inr (.inl ha)
  ·exact .inl ha
  ·exact .inr (.inr (.inr (.inl ha)))
 have k1:B1∈P++B1 :: (S++[B2]):=by simp
 have k2:B2∈P++B1 :: (S++[B2]):=by simp
 have w1:∀ a∈L,D6 B1 a:=h1.1;have w2:∀ a∈R,D6 B2 a:=h2.1;refine⟨λa ha=>?_,λ_=>⟨?_,?_,?_,?_⟩⟩
 ·simp only[List.mem_append,List.mem_cons,List.not_mem_nil,or_false]at ha;rcases ha with ha|ha|ha|ha
  ·exact h0 a (by simp[ha])
  ·subst ha;exact a0y hKb i1
  ·exact h0 a (by simp[ha])
  ·subst ha;exact a0y hKb i2
 ·rcases mem a1 m1 with rfl|hm
  ·rcases List.mem_append.1 n1 with n|n
   ·exact⟨_,k1,by have:=w1 _ n;unfold D6 at this i1;omega⟩
   ·exact⟨_,k2,by have:=w2 _ n;unfold D6 at this i2;omega⟩
  ·exact⟨_,hm,e1⟩
 ·rcases mem a2 m2 with rfl|hm
  ·rcases List.mem_append.1 n2 with n|n
   ·exact⟨_,k1,by have:=w1 _ n;unfold D6 at this i1;omega⟩
   ·exact⟨_,k2,by have:=w2 _ n;unfold D6 at this i2;omega⟩
  ·exact⟨_,hm,e2⟩
 ·rcases mem a3 m3 with rfl|hm
  ·rcases List.mem_append.1 n3 with n|n
   ·exact⟨_,k1,by have:=w1 _ n;unfold D6 at this i1;omega⟩
   ·exact⟨_,k2,by have:=w2 _ n;unfold D6 at this i2;omega⟩
  ·exact⟨_,hm,e3⟩
 ·rcases mem a4 m4 with rfl|hm
  ·rcases List.mem_append.1 n4 with n|n
   ·exact⟨_,k1,by have:=w1 _ n;unfold D6 at this i1;omega⟩
   ·exact⟨_,k2,by have:=w2 _ n;unfold D6 at this i2;omega⟩
  ·exact⟨_,hm,e4⟩
theorem F1.mid{q q':RM}{b:Nat}{A B:List En}{e e':En}(h:F1 q b (A++e :: B))(hD:q'.D b)(hS:q'.S b=q.S b)(ho:e'.v.oneCell'=true)(hv:q'.F b (1+5*A.length)=e'.v)(hB:isBox q'.F b (1+5*A.length) e'.B)
  (hF:∀ c,c<1+5*A.length∨1+5*A.length+5<=c->q'.F b c=q.F b c):F1 q' b (A++e' :: B):=by
 have get:∀ j x,(A++e' :: B)[j]? = some x->(j=A.length/\x=e')∨(j≠A.length/\(A++e :: B)[j]? = some x):=λj x hj=>by
  by_cases hc:j=A.length
  ·subst hc;rw[List.getElem?_append_right (Nat.le_refl _)]at hj;simp at hj;exact .inl ⟨rfl,hj.symm⟩
  ·refine .inr ⟨hc,?_⟩;rcases Nat.lt_or_ge j A.length with c|c
   ·rw[List.getElem?_append_left c]at hj ⊢;exact hj
   ·rw[List.getElem?_append_right c]at hj ⊢;rw[show j-A.length=(j-A.length-1)+1 by omega]at hj ⊢;simpa using hj
 refine⟨hD,hS.trans h.S,?_,?_,λj x hj=>?_,λj x hj=>?_,λj x hj=>?_⟩
 ·rw[hF 0 (by omega),h.n];simp
 ·have:=h.le;simpa using this
 ·rcases get j x hj with⟨rfl,rfl⟩|⟨h1,h2⟩
  ·exact hv
  ·rw[hF _ (by omega)];exact h.v j x h2
 ·rcases get j x hj with⟨rfl,rfl⟩|⟨h1,h2⟩
  ·exact ho
  ·exact h.o j x h2
 ·rcases get j x hj with⟨rfl,rfl⟩|⟨h1,h2⟩
  ·exact hB
  ·exact D0 (λk hk=>hF _ (by omega)) (h.B j x h2)
theorem a3y{α β:Type}(f:α->List β){l l':List α}(h:l.Perm l'):(l.flatMap f).Perm (l'.flatMap f):=List.Perm.flatMap_right f h
theorem isTr.split{q q':RM}{h:Nat}{k:Kid}(ht:isTr q h k)(hnd:k.fp.Nodup){b2:Nat}{L R:List En}{B1 B2:Bx}(hp:(L++R).Perm (A3 q k.b))(hL:L≠[])(hR:R≠[])(hlen:(A3 q k.b).length<=17)(h1:F1 q' k.b L)(h2:F1 q' b2 R)(t1:H7 B1 (L.map (·.B)))(t2:H7 B2 (R.map (·.B)))
  (hfr:∀ b∈k.fp,b≠k.b->q'.D b/\q'.S b=q.S b/\∀ c,q'.F b c=q.F b c) :
  ∃ x1 x2:Kid,x1.b=k.b/\x2.b=b2/\(1<=x1.n/\x1.n<=16)/\(1<=x2.n/\x2.n<=16)/\x1.B=B1/\x2.B=B2/\isTr q' h x1/\isTr q' h x2/\(x1.its++x2.its).Perm k.its/\(x1.fp++x2.fp).Perm (b2 :: k.fp):=by
 have hlL:1<=L.length:=by cases L with|nil=>exact absurd rfl hL|cons a r=>simp
 have hlR:1<=R.length:=by cases R with|nil=>exact absurd rfl hR|cons a r=>simp
 have hlen2:=hp.length_eq;rw[List.length_append]at hlen2
 cases h with
 | zero =>
  obtain⟨a1,a2,a3,a4⟩:=ht;rw[a3.of]at hp;obtain⟨l1,l2,rfl,rfl,hl⟩:=a1C hp;rw[List.length_map]at hlL hlR hlen2;rw[List.length_map]at hlen2;rw[List.map_map]at t1 t2;refine⟨⟨k.b,[k.b],l1,B1,l1.length⟩,⟨b2,[b2],l2,B2,l2.length⟩,rfl,rfl,⟨hlL,?_⟩,⟨hlR,?_⟩,rfl,rfl,⟨rfl,rfl,h1,t1⟩,⟨rfl,rfl,h2,t2⟩,hl,?_⟩
  ·show l1.length<=16;omega
  ·show l2.length<=16;omega
  ·rw[a1];exact List.Perm.swap _ _ _
 | succ h =>
  obtain⟨ks,a1,a2,a3,a4,a5,a6,a7⟩:=ht;rw[a5.of]at hp;obtain⟨l1,l2,rfl,rfl,hl⟩:=a1C hp;rw[List.length_map]at hlL hlR hlen2;rw[List.length_map]at hlen2;rw[List.map_map]at t1 t2
  have hkb:∀ x∈ks,∀ b∈x.fp,b∈k.fp/\b≠k.b:=λx hx b hb=>by
   rw[a3]at hnd ⊢;have hm:b∈ks.flatMap (·.fp):=List.mem_flatMap.2 ⟨x,hx,hb⟩;exact⟨List.mem_cons_of_mem _ hm,λe=>(List.nodup_cons.1 hnd).1 (e▸hm)⟩
  have hkids:∀ x∈ks,isTr q' h x/\1<=x.n/\x.n<=16:=λx hx=>⟨(a7 x hx).1.same λb hb=>hfr b (hkb x hx b hb).1 (hkb x hx b hb).2,(a7 x hx).2⟩
  refine⟨⟨k.b,k.b :: l1.flatMap (·.fp),l1.flatMap (·.its),B1,l1.length⟩,⟨b2,b2 :: l2.flatMap (·.fp),l2.flatMap (·.its),B2,l2.length⟩,rfl,rfl,⟨hlL,?_⟩,⟨hlR,?_⟩,rfl,rfl,
   ⟨l1,rfl,hlL,rfl,rfl,h1,t1,λx hx=>hkids x (hl.mem_iff.1 (by simp[hx]))⟩,⟨l2,rfl,hlR,rfl,rfl,h2,t2,λx hx=>hkids x (hl.mem_iff.1 (by simp[hx]))⟩,?_,?_⟩
  ·show l1.length<=16;omega
  ·show l2.length<=16;omega
  ·rw[a4];show (l1.flatMap (·.its)++l2.flatMap (·.its)).Perm _;rw[<-List.flatMap_append];exact a3y _ hl
  ·rw[a3];show (k.b :: l1.flatMap (·.fp)++(b2 :: l2.flatMap (·.fp))).Perm (b2 :: k.b :: ks.flatMap (·.fp));refine(List.perm_middle (l₁:=k.b :: l1.flatMap (·.fp))).trans (List.Perm.cons _ ?_);show (k.b :: (l1.flatMap (·.fp)++l2.flatMap (·.fp))).Perm _;rw[<-List.flatMap_append];exact List.Perm.cons _ (a3y _ hl)
section
variable {q:RM} {rb rc ib ic h:Nat} {k:Kid} {it:Int×Bx}
theorem N4.kb(ha:N4 q rb rc ib ic h k it):kb (q.F rb rc)=k.b:=by rw[ha.ref];rfl
theorem N4.isRef(ha:N4 q rb rc ib ic h k it):isRef (q.F rb rc):=by rw[ha.ref];rfl
theorem N4.node(ha:N4 q rb rc ib ic h k it):F1 q k.b (A3 q k.b)/\(A3 q k.b).length=k.n/\H7 k.B ((A3 q k.b).map (·.B)):=by
 obtain⟨l,h1,h2,h3⟩:=ha.tr.nd;rw[h1.of];exact⟨h1,h2,h3⟩
theorem N4.rk(ha:N4 q rb rc ib ic h k it):k.b≠rb:=λe=>ha.rfp (e▸ha.tr.fp0)
theorem N4.ik(ha:N4 q rb rc ib ic h k it):k.b≠ib:=λe=>ha.ifp (e▸ha.tr.fp0)
theorem N4.hangs(ha:N4 q rb rc ib ic h k it):hangs q rb rc:=⟨ha.D,ha.S,ha.isRef,by rw[ha.kb];exact ha.rk,by rw[ha.kb];exact ha.node.1⟩
theorem N4.okI(ha:N4 q rb rc ib ic h k it):okR q ib ic:=okR.mk' ha.iD ha.iS ha.ibx
theorem b1E(A:Bx):B5 A A=A:=by
 cases A;simp[B5]
theorem b6t(ha:N4 q rb rc ib ic 0 k it){q':RM}(hp:a7B q ib ic k.b q'):b2m q q' k.fp/\
  ∃ k':Kid,k'.b=k.b/\k'.n<=17/\1<=k'.n/\isTr q' 0 k'/\k'.fp.Nodup/\(∀ b∈k'.fp,b∈k.fp∨¬q.D b)/\k'.its.Perm (k.its++[it])/\k'.B=B5 k.B it.2:=by
 obtain⟨a1,a2,a3,a4⟩:=ha.tr;obtain⟨⟨p1,p2,p3⟩,p4⟩:=hp;rw[a3.of]at p4;have hn:=ha.n;refine⟨⟨λb hb=>⟨by rw[p1];exact hb,by rw[p2]⟩,λb c _ hb=>p3 b c (λe=>hb (by rw[e,a1];simp))⟩,⟨k.b,k.fp,k.its++[it],B5 k.B it.2,k.n+1⟩,rfl,by show k.n+1<=17;omega,by show 1<=k.n+1;omega,⟨a1,by simp[a2],?_,?_⟩,ha.nd,λb hb=>.inl hb,List.Perm.refl _,rfl⟩
 ·have e:(⟨q.F ib ic,bxOf q.F ib ic⟩:En)=b1r it:=by rw[ha.iv,ha.ibx.bxOf];rfl
  rw[e]at p4;show F1 q' k.b ((k.its++[it]).map b1r);rw[List.map_append];exact p4
 ·show H7 (B5 k.B it.2) ((k.its++[it]).map (·.2));rw[List.map_append];by_cases h0:k.its=[]
  ·have:=ha.n0 (by rw[a2,h0];rfl);rw[h0,this.2,b1E];exact a7T _
  ·exact a8v (by simpa using h0) a4
structure a5y (q:RM) (h:Nat) (k:Kid) (A:List Kid) (x:Kid) (B:List Kid):Prop where
 n:k.n=(A++x :: B).length
 fp:k.fp=k.b :: (A++x :: B).flatMap (·.fp)
 its:k.its=(A++x :: B).flatMap (·.its)
 nd:F1 q k.b (A.map E5++E5 x :: B.map E5)
 t:H7 k.B (A.map (·.B)++x.B :: B.map (·.B))
 tr:∀ y∈A++x :: B,isTr q h y/\1<=y.n/\y.n<=16
theorem a5y.xfp{A B:List Kid}{x:Kid}(hk:a5y q h k A x B):∀ b∈x.fp,b∈k.fp:=λb hb=>by
 rw[hk.fp];exact List.mem_cons_of_mem _ (List.mem_flatMap.2 ⟨x,by simp,hb⟩)
theorem a5y.fp3{A B:List Kid}{x:Kid}(hk:a5y q h k A x B):k.fp=(k.b :: A.flatMap (·.fp))++(x.fp++B.flatMap (·.fp)):=by
 rw[hk.fp,List.flatMap_append,List.flatMap_cons];rfl
theorem a4i(ha:N4 q rb rc ib ic (h+1) k it){j:Nat}(hj:j<(A3 q k.b).length):∃ A x B,a5y q h k A x B/\A.length=j/\N4 q k.b (1+j*5) ib ic h x it:=by
 obtain⟨ks,a1,a2,a3,a4,a5,a6,a7⟩:=ha.tr
 have hj2:j<ks.length:=by
  have:=a5.of;rw[this,List.length_map]at hj;exact hj
 obtain⟨x,hxj⟩:∃ x,ks[j]? = some x:=⟨_,List.getElem?_eq_getElem hj2⟩;obtain⟨A,B,rfl,hA⟩:=b5B hxj;have hk:a5y q h k A x B:=⟨a1,a3,a4,by simpa using a5,by simpa using a6,a7⟩;have hx:=a7 x (by simp);have hnd:=ha.nd;rw[hk.fp3,List.nodup_append,List.nodup_append]at hnd;obtain⟨n1,⟨n2,n3,n4⟩,n5⟩:=hnd
 have hget:(A.map E5++E5 x :: B.map E5)[j]? = some (E5 x):=by
  rw[List.getElem?_append_right (by simp[hA]),List.length_map,hA];simp
 have hv:=hk.nd.v _ _ hget;have hb:=hk.nd.B _ _ hget;rw[Nat.mul_comm]at hv hb;have hle:=hk.nd.le;have hS:=hk.nd.S;simp only[List.length_append,List.length_map,List.length_cons]at hle;refine⟨A,x,B,hk,hA,⟨hk.nd.D,by omega,hv,hb,hx.1,n2,hx.2.2,λh0=>by omega,λhm=>?_,ha.iD,ha.iS,ha.iv,ha.ibx,λhm=>ha.ifp (hk.xfp _ hm)⟩⟩;exact n5 k.b (by simp) k.b (List.mem_append.2 (.inl hm)) rfl
structure b6J (q:RM) (rb rc ib ic h:Nat) (k:Kid) (it:Int×Bx) (p:InI) (A:List Kid) (x:Kid) (B:List Kid) (x':Kid):Prop where
 ks:a5y q h k A x B
 j:A.length=p.j
 xa:N4 q k.b (1+p.j*5) ib ic h x it
 eb:x'.b=x.b
 n:1<=x'.n/\x'.n<=17
 tr:isTr p.q h x'
 nd:x'.fp.Nodup
 fp:∀ b∈x'.fp,b∈x.fp∨¬q.D b
 its:x'.its.Perm (x.its++[it])
 bx:x'.B=B5 x.B it.2
 nod:F1 p.q k.b (A.map E5++E5 x' :: B.map E5)
 fr:b2m q p.q (k.b :: x.fp)
 kfp:k.b∉x'.fp
 g:p.g=decide (¬D6 k.B it.2)
theorem a9D(ha:N4 q rb rc ib ic (h+1) k it){p:InI}(hp:inE q rb rc k.b ib ic h p):∃ A x B x',b6J q rb rc ib ic h k it p A x B x':=by
 obtain⟨hj,q1,g,hP,hs,hb,hg⟩:=hp;obtain⟨A,x,B,hk,hA,hx⟩:=a4i ha hj;obtain⟨g1,f1,x',x1,x2,x3,x4,x5,x6,x7,x8⟩:=hP x it hx
 have hkx:k.b∉x'.fp:=λhm=>by
  rcases x6 _ hm with h1|h1
  ·exact hx.rfp h1
  ·exact h1 hk.nd.D
 have hoff:∀ b c,b≠k.b->p.q.F b c=q1.F b c:=λb c hne=>hs.2.2 b c (by unfold rW;omega)
 have hkb:∀ c,q1.F k.b c=q.F k.b c:=λc=>f1.2 _ _ hk.nd.D hx.rfp
 have hle:=hk.nd.le;simp only[List.length_append,List.length_map,List.length_cons]at hle;have e1:bxOf q1.F k.b (1+p.j*5)=x.B:=(isBox.bxOf (D0 (λk _=>hkb _) hx.box));have e2:bxOf q1.F ib ic=it.2:=(isBox.bxOf (D0 (λk _=>f1.2 _ _ hx.iD hx.ifp) hx.ibx));rw[e1,e2]at hb;have hKx:D6 k.B x.B:=hk.t.1 _ (by simp);refine⟨A,x,B,x',hk,hA,hx,x1,⟨x3,x2⟩,?_,x5,x6,x7,x8,?_,?_,hkx,?_⟩
 ·exact x4.same λb hm=>⟨by rw[hs.1];exact x4.D b hm,by rw[hs.2.1],λc=>hoff b c (λe=>hkx (e▸hm))⟩
 ·have hn1:F1 q1 k.b (A.map E5++E5 x :: B.map E5):=hk.nd.same (f1.1 _ hk.nd.D).1 (f1.1 _ hk.nd.D).2 hkb;refine hn1.mid (by rw[hs.1];exact hn1.D) (by rw[hs.2.1]) rfl ?_ ?_ ?_
  ·rw[List.length_map,hA,Nat.mul_comm,hs.2.2 _ _ (by unfold rW;omega),hkb,hx.ref];show _=(E5 x').v;unfold E5;rw[x1]
  ·rw[List.length_map,hA,Nat.mul_comm];show isBox _ _ _ x'.B;rw[x8];exact hb
  ·intro c hc;rw[List.length_map,hA]at hc;exact hs.2.2 _ _ (by unfold rW;omega)
 ·refine⟨λb hb=>⟨by rw[hs.1];exact(f1.1 b hb).1,by rw[hs.2.1];exact(f1.1 b hb).2⟩,λb c hb hm=>?_⟩;rw[hoff b c (λe=>hm (by simp[e]))];exact f1.2 b c hb (λe=>hm (by simp[e]))
 ·rw[hg,g1,ha.box.bxOf,ha.ibx.bxOf];by_cases c:D6 x.B it.2
  ·have:=a0y hKx c;simp[c,this]
  ·simp[c]
theorem c4k{q':RM}{fp fp':List Nat}(h:b2m q q' fp')(hs:∀ b∈fp',b∈fp):b2m q q' fp:=⟨h.1,λb c hb hm=>h.2 b c hb λe=>hm (hs b e)⟩
theorem b5v(ha:N4 q rb rc ib ic (h+1) k it){p:InI}{A B:List Kid}{x x':Kid}(hm:b6J q rb rc ib ic h k it p A x B x')(hn:x'.n≠17):b2m q p.q k.fp/\
  ∃ k':Kid,k'.b=k.b/\k'.n<=17/\1<=k'.n/\isTr p.q (h+1) k'/\k'.fp.Nodup/\(∀ b∈k'.fp,b∈k.fp∨¬q.D b)/\k'.its.Perm (k.its++[it])/\k'.B=B5 k.B it.2:=by
 have hk:=hm.ks;have hnd:=ha.nd;rw[hk.fp3]at hnd;have hold:∀ b∈(k.b :: A.flatMap (·.fp))++(x.fp++B.flatMap (·.fp)),q.D b:=λb hb=>ha.tr.D b (by rw[hk.fp3];exact hb)
 have hkids:∀ y,y∈A∨y∈B->isTr p.q h y/\1<=y.n/\y.n<=16:=λy hy=>by
  have hmem:y∈A++x :: B:=by rcases hy with hy|hy <;> simp[hy]
  have hy2:=hk.tr y hmem;refine⟨hy2.1.same λb hb=>?_,hy2.2⟩;have hD:=hy2.1.D b hb;refine⟨(hm.fr.1 b hD).1,(hm.fr.1 b hD).2,λc=>hm.fr.2 b c hD ?_⟩;rw[List.nodup_append,List.nodup_append]at hnd;obtain⟨n1,⟨n2,n3,n4⟩,n5⟩:=hnd;simp only[List.mem_cons,not_or];rcases hy with hy|hy
  ·have hbm:b∈A.flatMap (·.fp):=List.mem_flatMap.2 ⟨y,hy,hb⟩;exact⟨λe=>(List.nodup_cons.1 n1).1 (e▸hbm),λe=>n5 b (by simp[hbm]) b (List.mem_append.2 (.inl e)) rfl⟩
  ·have hbm:b∈B.flatMap (·.fp):=List.mem_flatMap.2 ⟨y,hy,hb⟩;exact⟨λe=>n5 k.b (by simp) b (List.mem_append.2 (.inr hbm)) e.symm,λe=>n4 b e b hbm rfl⟩
 have hnew:∀ b∈x'.fp,b∈x.fp∨(b∉k.b :: A.flatMap (·.fp)/\b∉B.flatMap (·.fp)):=λb hb=>by
  rcases hm.fp b hb with h1|h1
  ·exact .inl h1
  ·exact .inr ⟨λe=>h1 (hold b (List.mem_append.2 (.inl e))),λe=>h1 (hold b (List.mem_append.2 (.inr (List.mem_append.2 (.inr e)))))⟩
 have hlen:=hk.n;have hkn:=ha.n;simp only[List.length_append,List.length_cons]at hlen;refine⟨c4k hm.fr λb hb=>?_,⟨k.b,k.b :: (A++x' :: B).flatMap (·.fp),(A++x' :: B).flatMap (·.its),B5 k.B it.2,(A++x' :: B).length⟩,rfl,?_,?_,⟨A++x' :: B,rfl,?_,rfl,rfl,?_,?_,?_⟩,?_,?_,?_,rfl⟩
 ·rcases List.mem_cons.1 hb with rfl|hb
  ·exact ha.tr.fp0
  ·exact hk.xfp b hb
 ·simp only[List.length_append,List.length_cons];omega
 ·simp only[List.length_append,List.length_cons];omega
 ·show 1<=(A++x' :: B).length;simp only[List.length_append,List.length_cons];omega
 ·show F1 p.q k.b ((A++x' :: B).map E5);rw[List.map_append,List.map_cons];exact hm.nod
 ·show H7 (B5 k.B it.2) ((A++x' :: B).map (·.B));rw[List.map_append,List.map_cons,hm.bx];exact a7K hk.t
 ·intro y hy;simp only[List.mem_append,List.mem_cons]at hy;rcases hy with hy|rfl|hy
  ·exact hkids y (.inl hy)
  ·exact⟨hm.tr,hm.n.1,by have:=hm.n.2;omega⟩
  ·exact hkids y (.inr hy)
 ·show (k.b :: (A++x' :: B).flatMap (·.fp)).Nodup;rw[List.flatMap_append,List.flatMap_cons];exact a8f (P:=k.b :: A.flatMap (·.fp)) hnd hm.nd hnew
 ·intro b hb;have hb:b∈k.b :: (A++x' :: B).flatMap (·.fp):=hb;rw[hk.fp3];simp only[List.flatMap_append,List.flatMap_cons,List.mem_cons,List.mem_append]at hb ⊢;rcases hb with hb|hb|hb|hb
  ·exact .inl (.inl (.inl hb))
  ·exact .inl (.inl (.inr hb))
  ·rcases hm.fp b hb with h1|h1
   ·exact .inl (.inr (.inl h1))
   ·exact .inr h1
  ·exact .inl (.inr (.inr hb))
 ·show ((A++x' :: B).flatMap (·.its)).Perm (k.its++[it]);rw[hk.its];simp only[List.flatMap_append,List.flatMap_cons,List.append_assoc];refine List.Perm.append_left _ ?_;refine(List.Perm.append_right _ hm.its).trans ?_;rw[List.append_assoc];refine List.Perm.append_left _ ?_;exact List.perm_append_comm
theorem a5M(ha:N4 q rb rc ib ic (h+1) k it){p:InI}{A B:List Kid}{x x':Kid}(hm:b6J q rb rc ib ic h k it p A x B x')(hn:x'.n=17):spO p.q k.b (1+p.j*5) k.b (1+k.n*5):=by
 have hk:=hm.ks
 have hget:(A.map E5++E5 x' :: B.map E5)[p.j]? = some (E5 x'):=by
  rw[List.getElem?_append_right (by simp[hm.j]),List.length_map,hm.j];simp
 have hv:=hm.nod.v _ _ hget;have hb:=hm.nod.B _ _ hget;rw[Nat.mul_comm]at hv hb;have hle:=hm.nod.le;have hS:=hm.nod.S;have hlen:=hk.n;have hkn:=ha.n;have hj:=hm.j;simp only[List.length_append,List.length_map,List.length_cons]at hle hlen;have hkb:kb (p.q.F k.b (1+p.j*5))=x'.b:=by rw[hv];rfl
 obtain⟨l,n1,n2,n3⟩:=hm.tr.nd;have hxb:x'.b≠k.b:=λe=>hm.kfp (e▸hm.tr.fp0)
 refine⟨⟨hm.nod.D,by omega,by rw[hv];rfl,by rw[hkb];exact hxb,by rw[hkb,n1.of];exact n1⟩,okR.mk' hm.nod.D (by omega) hb,?_,?_,⟨hm.nod.D,by omega⟩,?_,?_⟩
 ·rw[hb.bxOf,hkb,n1.of];exact n3
 ·rw[hkb,n1.of,n2];exact hn
 ·rw[hkb];exact Ne.symm hxb
 ·unfold apart;omega
theorem a8x(ha:N4 q rb rc ib ic (h+1) k it){p:InI}{A B:List Kid}{x x':Kid}(hm:b6J q rb rc ib ic h k it p A x B x')(hn:x'.n=17){q3:RM}(hs:spP p.q k.b (1+p.j*5) k.b (1+k.n*5) q3) :
  q3.D k.b/\q3.S k.b=86/\q3.F k.b 0=.int .i64 (k.n:Nat)/\b2m q ⟨q3.D,q3.S,j0 q3.F k.b 0 (.int .i64 (k.n+1:Nat))⟩ k.fp/\
  ∃ k':Kid,k'.b=k.b/\k'.n<=17/\1<=k'.n/\isTr ⟨q3.D,q3.S,j0 q3.F k.b 0 (.int .i64 (k.n+1:Nat))⟩ (h+1) k'/\k'.fp.Nodup/\(∀ b∈k'.fp,b∈k.fp∨¬q.D b)/\k'.its.Perm (k.its++[it])/\k'.B=B5 k.B it.2:=by
 have hk:=hm.ks;have hO:=a5M ha hm hn
 have hget:(A.map E5++E5 x' :: B.map E5)[p.j]? = some (E5 x'):=by
  rw[List.getElem?_append_right (by simp[hm.j]),List.length_map,hm.j];simp
 have hv:=hm.nod.v _ _ hget;rw[Nat.mul_comm]at hv;have hkb:kb (p.q.F k.b (1+p.j*5))=x'.b:=by rw[hv];rfl
 obtain⟨b2,L,R,B1,B2,s1,s2,s3,s4,s5,s6,s7,s8,s9,s10,s11,s12⟩:=hs;rw[hkb]at s2 s5 s12;have hlen:=hk.n;have hkn:=ha.n;have hj:=hm.j;have hle:=hm.nod.le;have hS:=hm.nod.S;simp only[List.length_append,List.length_map,List.length_cons]at hle hlen;have hxb:x'.b≠k.b:=λe=>hm.kfp (e▸hm.tr.fp0)
 have hb2k:b2≠k.b:=λe=>s1 (e▸hm.nod.D)
 have hb2x:∀ b∈x'.fp,b2≠b:=λb hb e=>s1 (e▸hm.tr.D b hb)
 have kc:∀ c,¬(1+k.n*5<=c/\c<1+k.n*5+5)->¬(1+p.j*5+1<=c/\c<1+p.j*5+5)->q3.F k.b c=p.q.F k.b c:=λc h1 h2=>s12.2 _ _ hm.nod.D (Ne.symm hxb) (by unfold rW;omega)
 have k0:q3.F k.b 0=.int .i64 (k.n:Nat):=by
  rw[kc 0 (by omega) (by omega),hm.nod.n];simp only[List.length_append,List.length_map,List.length_cons,hlen]
 have kD:=(s12.1 _ hm.nod.D).1;have kS:=(s12.1 _ hm.nod.D).2
 let q4:RM:=⟨q3.D,q3.S,j0 q3.F k.b 0 (.int .i64 (k.n+1:Nat))⟩
 have o4:∀ b c,b≠k.b->q4.F b c=q3.F b c:=λb c hb=>b9 (.inl hb)
 obtain⟨l,n1,n2,n3⟩:=hm.tr.nd;have hndl:A3 p.q x'.b=l:=n1.of
 obtain⟨x1,x2,e1,e2,e3,e4,e5,e6,e7,e8,e9,e10⟩:=hm.tr.split (q':=q4) (b2:=b2) hm.nd s2 s3 s4 (by rw[hndl];exact n1.le) (s5.same s5.D rfl λc=>o4 _ _ hxb) (s6.same s6.D rfl λc=>o4 _ _ hb2k) s9 s11 λb hb hne=>by
  have hD:=hm.tr.D b hb;have hbk:b≠k.b:=λe=>hm.kfp (e▸hb)
  exact⟨(s12.1 b hD).1,(s12.1 b hD).2,λc=>(o4 b c hbk).trans (s12.2 b c hD hne (by unfold rW;omega))⟩
 have node:F1 q4 k.b ((A.map E5++E5 x1 :: B.map E5)++[E5 x2]):=by
  have m1:F1 ⟨q3.D,q3.S,λb c=>if 1+k.n*5<=c then p.q.F b c else q3.F b c⟩ k.b (A.map E5++E5 x1 :: B.map E5):=by
   refine hm.nod.mid kD kS rfl ?_ ?_ ?_
   ·simp only[List.length_map,hm.j];rw[if_neg (by omega),Nat.mul_comm 5,kc _ (by omega) (by omega),hv];unfold E5;rw[e1]
   ·rw[List.length_map,hm.j];show isBox _ _ _ x1.B;rw[e5,Nat.mul_comm 5];refine D0 (λk' hk'=>?_) s8;show (if 1+k.n*5<=1+p.j*5+k' then _ else _)=_;rw[if_neg (by omega)]
   ·intro c hc;rw[List.length_map,hm.j]at hc;show (if _ then _ else _)=_;by_cases c1:1+k.n*5<=c
    ·rw[if_pos c1]
    ·rw[if_neg c1];exact kc c (by omega) (by omega)
  have hlen2:(A.map E5++E5 x1 :: B.map E5).length=k.n:=by simp only[List.length_append,List.length_map,List.length_cons,hlen]
  refine m1.push (q':=q4) (e:=E5 x2) (by rw[hlen2];omega) kD rfl rfl ?_ ?_ ?_ ?_
  ·rw[hlen2];exact A2
  ·rw[hlen2,Nat.mul_comm];show j0 q3.F k.b 0 _ k.b (1+k.n*5)=_;rw[b9 (by omega),s7];unfold E5;rw[e2]
  ·rw[hlen2,Nat.mul_comm];show isBox _ _ _ x2.B;rw[e6];refine D0 (λk' hk'=>?_) s10;show j0 q3.F k.b 0 _ k.b _=_;rw[b9 (by omega)]
  ·intro c c1 c2;rw[hlen2]at c2;show j0 q3.F k.b 0 _ k.b c=if _ then _ else _
   rw[if_neg (by omega),b9 (by omega)]
 have hnd:=ha.nd;rw[hk.fp3]at hnd;have hold:∀ b∈(k.b :: A.flatMap (·.fp))++(x.fp++B.flatMap (·.fp)),q.D b:=λb hb=>ha.tr.D b (by rw[hk.fp3];exact hb)
 have hxx:x'.b∈x.fp:=by rw[hm.eb];exact hm.xa.tr.fp0
 have far:∀ b c,q.D b->b∉k.b :: x.fp->q4.F b c=q.F b c:=λb c hb hne=>by
  have h1:b≠k.b:=λe=>hne (by simp[e])
  have h2:b≠x'.b:=λe=>hne (by rw[e];exact List.mem_cons_of_mem _ hxx)
  rw[o4 b c h1,s12.2 b c (hm.fr.1 b hb).1 h2 (by unfold rW;omega)];exact hm.fr.2 b c hb hne
 have dom:∀ b,q.D b->q4.D b/\q4.S b=q.S b:=λb hb=>⟨(s12.1 b (hm.fr.1 b hb).1).1,(s12.1 b (hm.fr.1 b hb).1).2.trans (hm.fr.1 b hb).2⟩
 have hkids:∀ y,y∈A∨y∈B->isTr q4 h y/\1<=y.n/\y.n<=16:=λy hy=>by
  have hmem:y∈A++x :: B:=by rcases hy with hy|hy <;> simp[hy]
  have hy2:=hk.tr y hmem;refine⟨hy2.1.same λb hb=>?_,hy2.2⟩;have hD:=hy2.1.D b hb;refine⟨(dom b hD).1,(dom b hD).2,λc=>far b c hD ?_⟩;rw[List.nodup_append,List.nodup_append]at hnd;obtain⟨n1,⟨n2,n3,n4⟩,n5⟩:=hnd;simp only[List.mem_cons,not_or];rcases hy with hy|hy
  ·have hbm:b∈A.flatMap (·.fp):=List.mem_flatMap.2 ⟨y,hy,hb⟩;exact⟨λe=>(List.nodup_cons.1 n1).1 (e▸hbm),λe=>n5 b (by simp[hbm]) b (List.mem_append.2 (.inl e)) rfl⟩
  ·have hbm:b∈B.flatMap (·.fp):=List.mem_flatMap.2 ⟨y,hy,hb⟩;exact⟨λe=>n5 k.b (by simp) b (List.mem_append.2 (.inr hbm)) e.symm,λe=>n4 b e b hbm rfl⟩
 have hb2D:∀ b,q.D b->b2≠b:=λb hb e=>s1 (e▸(hm.fr.1 b hb).1)
 have hin:∀ b∈x1.fp++x2.fp,b=b2∨b∈x'.fp:=λb hb=>by
  have:=e10.mem_iff.1 hb;simpa using this
 have hnew:∀ b∈x1.fp++x2.fp,b∈x.fp∨(b∉k.b :: A.flatMap (·.fp)/\b∉B.flatMap (·.fp)):=λb hb=>by
  rcases hin b hb with rfl|hb
  ·exact .inr ⟨λe=>hb2D _ (hold _ (List.mem_append.2 (.inl e))) rfl,λe=>hb2D _ (hold _ (List.mem_append.2 (.inr (List.mem_append.2 (.inr e))))) rfl⟩
  ·rcases hm.fp b hb with h1|h1
   ·exact .inl h1
   ·exact .inr ⟨λe=>h1 (hold b (List.mem_append.2 (.inl e))),λe=>h1 (hold b (List.mem_append.2 (.inr (List.mem_append.2 (.inr e)))))⟩
 have hnd2:(x1.fp++x2.fp).Nodup:=e10.nodup_iff.2 (List.nodup_cons.2 ⟨λe=>hb2x _ e rfl,hm.nd⟩)
 have hpr:∀(P a b S:List Nat),(P++(a++(S++b))).Perm (P++((a++b)++S)):=λP a b S=>by
  refine List.Perm.append_left P ?_;rw[List.append_assoc];exact List.Perm.append_left a List.perm_append_comm
 have hpr2:∀(P a b S:List (Int×Bx)),(P++(a++(S++b))).Perm (P++((a++b)++S)):=λP a b S=>by
  refine List.Perm.append_left P ?_;rw[List.append_assoc];exact List.Perm.append_left a List.perm_append_comm
 have efp:k.b :: (A++x1 :: (B++[x2])).flatMap (·.fp)=(k.b :: A.flatMap (·.fp))++(x1.fp++(B.flatMap (·.fp)++x2.fp)):=by
  simp only[List.flatMap_append,List.flatMap_cons,List.flatMap_nil,List.append_nil,List.cons_append]
 have eit:(A++x1 :: (B++[x2])).flatMap (·.its)=A.flatMap (·.its)++(x1.its++(B.flatMap (·.its)++x2.its)):=by
  simp only[List.flatMap_append,List.flatMap_cons,List.flatMap_nil,List.append_nil]
 have hlen3:(A++x1 :: (B++[x2])).length=k.n+1:=by simp only[List.length_append,List.length_cons,List.length_nil];omega
 refine⟨kD,kS.trans hS,k0,⟨dom,λb c hb hne=>far b c hb λe=>hne ?_⟩,⟨k.b,k.b :: (A++x1 :: (B++[x2])).flatMap (·.fp),(A++x1 :: (B++[x2])).flatMap (·.its),B5 k.B it.2,(A++x1 :: (B++[x2])).length⟩,rfl,?_,?_,⟨A++x1 :: (B++[x2]),rfl,?_,rfl,rfl,?_,?_,?_⟩,?_,?_,?_,rfl⟩
 ·rcases List.mem_cons.1 e with rfl|e
  ·exact ha.tr.fp0
  ·exact hk.xfp b e
 ·show (A++x1 :: (B++[x2])).length<=17;omega
 ·show 1<=(A++x1 :: (B++[x2])).length;omega
 ·show 1<=(A++x1 :: (B++[x2])).length;omega
 ·show F1 q4 k.b ((A++x1 :: (B++[x2])).map E5);have:(A++x1 :: (B++[x2])).map E5=(A.map E5++E5 x1 :: B.map E5)++[E5 x2]:=by simp
  rw[this];exact node
 ·show H7 (B5 k.B it.2) ((A++x1 :: (B++[x2])).map (·.B));have:(A++x1 :: (B++[x2])).map (·.B)=A.map (·.B)++x1.B :: (B.map (·.B)++[x2.B]):=by simp
  rw[this,e5,e6];have ht:=a7K (c:=it.2) hk.t;refine b5l (b:=B5 x.B it.2) ht ?_ s9 s11 (by simpa using s3) (by simpa using s4);rw[<-hm.bx,<-List.map_append];rw[hndl]at s2;exact b1X (s2.map _).symm n3
 ·intro y hy;simp only[List.mem_append,List.mem_cons,List.not_mem_nil,or_false]at hy;rcases hy with hy|rfl|hy|rfl
  ·exact hkids y (.inl hy)
  ·exact⟨e7,e3⟩
  ·exact hkids y (.inr hy)
  ·exact⟨e8,e4⟩
 ·show (k.b :: (A++x1 :: (B++[x2])).flatMap (·.fp)).Nodup;rw[efp];exact(hpr _ _ _ _).nodup_iff.2 (a8f hnd hnd2 hnew)
 ·intro b hb;have hb:b∈k.b :: (A++x1 :: (B++[x2])).flatMap (·.fp):=hb;rw[efp]at hb;have hb:=(hpr _ _ _ _).mem_iff.1 hb;rw[hk.fp3];rw[List.mem_append,List.mem_append]at hb;rw[List.mem_append,List.mem_append];rcases hb with hb|hb|hb
  ·exact .inl (.inl hb)
  ·rcases hin b hb with rfl|hb
   ·exact .inr λhD=>hb2D _ hD rfl
   ·rcases hm.fp b hb with h1|h1
    ·exact .inl (.inr (.inl h1))
    ·exact .inr h1
  ·exact .inl (.inr (.inr hb))
 ·show ((A++x1 :: (B++[x2])).flatMap (·.its)).Perm (k.its++[it]);rw[eit,hk.its];refine(hpr2 _ _ _ _).trans ?_;simp only[List.flatMap_append,List.flatMap_cons];rw[List.append_assoc (A.flatMap (·.its)) _ [it]];refine List.Perm.append_left _ ?_;refine(List.Perm.append_right _ (e9.trans hm.its)).trans ?_;rw[List.append_assoc,List.append_assoc];exact List.Perm.append_left _ List.perm_append_comm
end
section
variable {q:RM} {rb rc ib ic h:Nat}
theorem b9c{k:Kid}{it:Int×Bx}(ha:N4 q rb rc ib ic h k it):a7B q ib ic k.b ⟨q.D,q.S,j0 (cp5 q.F k.b (1+k.n*5) q.F ib ic) k.b 0 (.int .i64 (k.n+1:Nat))⟩:=by
 obtain⟨n1,n2,_⟩:=ha.node;have hn:=ha.n;refine⟨⟨rfl,rfl,λb c hb=>?_⟩,?_⟩
 ·show j0 _ _ _ _ _ _=_;rw[b9 (.inl hb),P2 (.inl hb)]
 ·refine n1.cpush (by omega) (G:=q.F) (b0:=ib) (c0:=ic) rfl (by show (q.F ib ic).oneCell'=true;rw[ha.iv];rfl) (by show isBox q.F ib ic (bxOf q.F ib ic);rw[ha.ibx.bxOf];exact ha.ibx) n1.D rfl λc=>?_
  rw[n2]
theorem b3H{q q':RM}{b c:Nat}{B:Bx}(hb:isBox q.F b c B)(h:∀ k,k<5->q'.F b (c+k)=q.F b (c+k)):bxOf q'.F b c=B:=(D0 h hb).bxOf
theorem b4N{q':RM}(hp:a7B q ib ic (kb (q.F rb rc)) q'):a6h q rb rc ib ic 0 q' (!decide (D6 (bxOf q'.F rb rc) (bxOf q'.F ib ic))):=by
 intro k it ha;rw[ha.kb]at hp;have h1:bxOf q'.F rb rc=k.B:=b3H ha.box λc _=>hp.1.2.2 _ _ (Ne.symm ha.rk)
 have h2:bxOf q'.F ib ic=it.2:=b3H ha.ibx λc _=>hp.1.2.2 _ _ (Ne.symm ha.ik)
 obtain⟨h3,h4⟩:=b6t ha hp;refine⟨?_,h3,h4⟩;rw[h1,h2];by_cases c:D6 k.B it.2 <;> simp[c]
theorem a9G{k:Kid}{it:Int×Bx}{p:InI}{A B:List Kid}{x x':Kid}(hm:b6J q rb rc ib ic h k it p A x B x'):p.q.D k.b/\1+p.j*5+5<=p.q.S k.b/\isRef (p.q.F k.b (1+p.j*5))/\kb (p.q.F k.b (1+p.j*5))=x'.b/\F1 p.q x'.b (A3 p.q x'.b)/\p.q.F x'.b 0=.int .i64 (x'.n:Nat):=by
 have hget:(A.map E5++E5 x' :: B.map E5)[p.j]? = some (E5 x'):=by
  rw[List.getElem?_append_right (by simp[hm.j]),List.length_map,hm.j];simp
 have hv:=hm.nod.v _ _ hget;rw[Nat.mul_comm]at hv;have hle:=hm.nod.le;have hS:=hm.nod.S;have hj:=hm.j;simp only[List.length_append,List.length_map,List.length_cons]at hle;obtain⟨l,n1,n2,n3⟩:=hm.tr.nd;refine⟨hm.nod.D,by omega,by rw[hv];rfl,by rw[hv];rfl,by rw[n1.of];exact n1,by rw[n1.n,n2]⟩
theorem b4v{p:InI}(hp:inE q rb rc (kb (q.F rb rc)) ib ic h p)(hn:p7 (p.q.F (kb (p.q.F (kb (q.F rb rc)) (1+p.j*5))) 0)≠17):a6h q rb rc ib ic (h+1) p.q p.g:=by
 intro k it ha;rw[ha.kb]at hp hn;obtain⟨A,x,B,x',hm⟩:=a9D ha hp;obtain⟨_,_,_,c4,_,c6⟩:=a9G hm;rw[c4,c6]at hn;have hn2:x'.n≠17:=λe=>hn (by rw[e];rfl)
 obtain⟨h3,h4⟩:=b5v ha hm hn2;exact⟨hm.g,h3,h4⟩
theorem b2B{p:InI}(hp:inE q rb rc (kb (q.F rb rc)) ib ic h p)(hn:p7 (p.q.F (kb (p.q.F (kb (q.F rb rc)) (1+p.j*5))) 0)=17){n:Nat}(hcnt:p.q.F (kb (q.F rb rc)) 0=.int .i64 (n:Nat)){q3:RM}(hs:spP p.q (kb (q.F rb rc)) (1+p.j*5) (kb (q.F rb rc)) (1+n*5) q3) :
  a6h q rb rc ib ic (h+1) ⟨q3.D,q3.S,j0 q3.F (kb (q.F rb rc)) 0 (.int .i64 (n+1:Nat))⟩ p.g:=by
 intro k it ha;rw[ha.kb]at hp hn hs hcnt ⊢;obtain⟨A,x,B,x',hm⟩:=a9D ha hp;obtain⟨_,_,_,c4,_,c6⟩:=a9G hm;rw[c4,c6]at hn
 have hn2:x'.n=17:=by
  have:((x'.n:Nat):Int)=17:=hn;omega
 have hkn:n=k.n:=by
  have h1:=hm.nod.n;rw[hcnt]at h1;simp only[Value.int.injEq,true_and,Int.natCast_inj]at h1;rw[h1,hm.ks.n];simp
 subst hkn;obtain⟨_,_,_,h3,h4⟩:=a8x ha hm hn2 hs;exact⟨hm.g,h3,h4⟩
theorem a4n{k:Kid}{it:Int×Bx}(ha:N4 q rb rc ib ic (h+1) k it){p:InI}(hp:inC q k.b ib ic h p) :
  p.q.D k.b/\1+p.j*5+5<=p.q.S k.b/\(∃ x B,N4 q k.b (1+p.j*5) ib ic h x it/\p.g=decide (¬D6 x.B it.2)/\B=x.B/\isBox p.q.F k.b (1+p.j*5) B/\bxOf p.q.F k.b (1+p.j*5)=B)/\
  (p.q.D ib/\ic+5<=p.q.S ib/\isBox p.q.F ib ic it.2)/\(p.q.D rb/\rc+5<=p.q.S rb/\isBox p.q.F rb rc k.B):=by
 obtain⟨hj,hP⟩:=hp;obtain⟨A,x,B,hk,hA,hx⟩:=a4i ha hj;obtain⟨g1,f1,_⟩:=hP x it hx;have hxr:rb∉x.fp:=λe=>ha.rfp (hk.xfp _ e)
 have d1:=f1.1 _ hk.nd.D;have d2:=f1.1 _ ha.iD;have d3:=f1.1 _ ha.D;have b1:isBox p.q.F k.b (1+p.j*5) x.B:=D0 (λc _=>f1.2 _ _ hk.nd.D hx.rfp) hx.box;have hS:=hx.S;exact⟨d1.1,by rw[d1.2];exact hS,⟨x,x.B,hx,g1,rfl,b1,b1.bxOf⟩,⟨d2.1,by rw[d2.2];exact ha.iS,D0 (λc _=>f1.2 _ _ ha.iD hx.ifp) ha.ibx⟩,⟨d3.1,by rw[d3.2];exact ha.S,D0 (λc _=>f1.2 _ _ ha.D hxr) ha.box⟩⟩
theorem b7k{k:Kid}{it:Int×Bx}(ha:N4 q rb rc ib ic (h+1) k it){p:InI}(hp:inC q k.b ib ic h p)(hg:p.g=true){q2:RM}(he:exI p.q k.b (1+p.j*5) ib ic 2 2 q2) :
  okR q2 rb rc/\okR q2 ib ic/\inE q rb rc k.b ib ic h ⟨p.j,q2,!decide (D6 (bxOf q2.F rb rc) (bxOf q2.F ib ic))⟩:=by
 obtain⟨c1,c2,⟨x,B,hx,c3,c4,c5,c6⟩,⟨c7,c8,c9⟩,⟨c10,c11,c12⟩⟩:=a4n ha hp;obtain⟨hs,hb⟩:=he;have hoff:∀ b c,b≠k.b->q2.F b c=p.q.F b c:=λb c hne=>hs.2.2 b c (by unfold rW;omega)
 have e1:isBox q2.F rb rc k.B:=D0 (λc _=>hoff _ _ (Ne.symm ha.rk)) c12;have e2:isBox q2.F ib ic it.2:=D0 (λc _=>hoff _ _ (Ne.symm ha.ik)) c9;refine⟨okR.mk' (by rw[hs.1];exact c10) (by rw[hs.2.1];exact c11) e1,okR.mk' (by rw[hs.1];exact c7) (by rw[hs.2.1];exact c8) e2,hp.1,p.q,p.g,hp.2,hs,?_,?_⟩
 ·show isBox q2.F k.b (1+p.j*5) _;rw[a4q]at hb;exact hb
 ·show (!decide (D6 (bxOf q2.F rb rc) (bxOf q2.F ib ic)))=(p.g&&_);rw[hg,e1.bxOf,e2.bxOf,ha.box.bxOf,ha.ibx.bxOf];by_cases c:D6 k.B it.2 <;> simp[c]
theorem b8f{k:Kid}{it:Int×Bx}(ha:N4 q rb rc ib ic (h+1) k it){p:InI}(hp:inC q k.b ib ic h p)(hg:p.g=false):inE q rb rc k.b ib ic h p:=by
 obtain⟨c1,c2,⟨x,B,hx,c3,c4,c5,c6⟩,⟨c7,c8,c9⟩,_⟩:=a4n ha hp;refine⟨hp.1,p.q,p.g,hp.2,L4.refl _ _,?_,by rw[hg];rfl⟩;rw[c6,c9.bxOf];rw[hg]at c3
 have:D6 x.B it.2:=by
  by_cases c:D6 x.B it.2
  ·exact c
  ·simp[c]at c3
 rw[c4,a7y _ _ this,<-c4];exact c5
end
noncomputable section
def c4z(ts:List Nat)(rb rc ib ic nb:Nat)(hh:Int)(g:SV)(q:RM):St :=
 ⟨88,[(0, .pb 0 rb rc),(1, .pb 0 ib ic),(2, .int .i64 hh),(6,g),(7, .pb 0 nb 0)],[(0,rwO ts q)],1⟩
def c0N(ts:List Nat)(rb rc ib ic nb:Nat)(hh:Int)(p:InI):St :=
 ⟨88,[(0, .pb 0 rb rc),(1, .pb 0 ib ic),(2, .int .i64 hh),(6, .bool p.g),(7, .pb 0 nb 0),(9, .pb 0 nb (1+p.j*5))],[(0,rwO ts p.q)],1⟩
def a6u(K:Nat):List SV->RRd (RM×Bool)
 | [.pb n rb rc, .pb n1 ib ic, .int .i64 hh]=>.read n λo0=>(match I5 o0 with
  | some (ts,q)=>.ret ⟨[.pb 0 rb rc, .pb 0 ib ic, .int .i64 hh],[(0,rwO ts q)],some (n=n1/\((0<=hh/\hh<(K:Int)/\hh<1000)/\b6U q rb rc ib ic hh.toNat)),λi=>a6h q rb rc ib ic hh.toNat i.1 i.2,λi=>⟨[],[], .bool i.2,[(0,rwO ts (i.1))],[],none⟩⟩
  | none=>.fail)
 | _=>.fail
def X3(H:Nat):F3:=⟨G0,[(127,o9 (RM×Bool) ⟨default⟩ (a6u H)),(128,o9 RM ⟨default⟩ a5X),(129,o9 RM ⟨default⟩ a5j),(133,o9 Unit ⟨()⟩ a9A),(134,o9 Nat ⟨default⟩ a5J)],[],[],[]⟩
theorem x3(H:Nat)(ih:z0 prog 127 (o9 (RM×Bool) ⟨default⟩ (a6u H))):A7 prog (X3 H):=⟨g0,q8.cons ih (q8.cons b7d (q8.cons b6z (q8.cons c1H (q8.cons b8S q8.nil))))⟩
def c0g(K:Nat):List SV->RRd (RM×Bool)
 | [.pb n rb rc, .pb n1 ib ic, .int .i64 hh]=>.read n λo0=>(match I5 o0 with
  | some (ts,q)=>.ret ⟨[.pb 0 rb rc, .pb 0 ib ic, .int .i64 hh],[(0,rwO ts q)],some (n=n1/\((0<=hh/\hh<(K:Int)/\hh<1000)/\b6U q rb rc ib ic hh.toNat)),λi=>a6h q rb rc ib ic hh.toNat i.1 i.2,λi=>⟨[],[], .bool i.2,[(0,rwO ts (i.1))],[],none⟩⟩
  | none=>.fail)
 | _=>.fail
theorem b8v(R:Option Ob->SV->Prop)(H:Nat)(ts:List Nat)(q:RM)(rb rc ib ic:Nat)(hh:Int){T1}(t1:T1=(kb (q.3 rb rc))){T2}(t2:T2=(j0 (j0 (j0 (j0 q.3 T1 (1+toNat (p7 (q.3 T1 0))*5) (q.3 ib ic)) T1 (1+toNat (p7 (q.3 T1 0))*5+1) (q.3 ib (ic+1))) T1 (1+toNat (p7 (q.3 T1 0))*5+1+1) (q.3 ib (ic+1
 + 1))) T1 (1+toNat (p7 (q.3 T1 0))*5+1+1+1) (q.3 ib (ic+1+1+1)))){T3}(t3:T3=λ(j:InI)=>(K0 ((InI.q j).3 T1 (1+InI.j j*5+0)))){T4}(t4:T4=λ(j:InI)=>(RM.mk (RM.D (InI.q j)) (InI.q j).2 (InI.q j).3)){T5}(t5:T5=(True/\
 kb (q.3 rb rc)=kb (q.3 rb rc)/\0=0)){T6}(t6:T6=(True/\rb=rb/\rc=rc)){T7}(t7:T7=(True/\ib=ib/\ic=ic)){T8}(t8:T8=(1+toNat (p7 (q.3 T1 0))*5+1+1+1+1)){T9}(t9:T9=(RM.mk (RM.D q) (RM.S q) (RM.F q))){T10}(t10:T10=(q.3 ib
 (ic+1+1+1+1))){T11}(t11:T11=(RM.mk (RM.D q) q.2 q.3)){T12}(t12:T12=λ(j:InI)=>((InI.q j).3 (ptB (T3 j)) (ptC (T3 j)+0))){T13}(t13:T13=(toNat hh-1)){T14}(t14:T14=(hh-(1:Int))){T15}(t15:T15=(q.3 rb rc)):K8 (X3 H) 1 [] [(2,⟨Nat,λ_=>c4z ts rb rc ib ic (kb (q.F rb rc)) hh .ff q,λ_=>True,λ_=>0⟩),(5,⟨RM,λq'=>c4z ts rb rc ib ic (kb (q.F rb rc)) hh .ff q',λq'=>hh=0/\a7B q ib ic (kb (q.F rb rc)) q',λ_=>0⟩),(10,⟨InI,c0N ts rb rc ib ic (kb (q.F rb rc)) hh,λp=>hh≠0/\inC q (kb (q.F rb rc)) ib ic (hh.toNat-1) p,λ_=>0⟩),(13,⟨InI,c0N ts rb rc ib ic (kb (q.F rb rc)) hh,λp=>hh≠0/\inE q rb rc (kb (q.F rb rc)) ib ic (hh.toNat-1) p,λ_=>0⟩)] (p9 f127) (A6 f127.ntmps [.pb 0 rb rc, .pb 0 ib ic, .int .i64 hh] [(0,rwO ts q)] 1) (A8 (X3 H).G.E.T f127.results.toList λS v=>R (Go.Sx.look S.H 0) v)=(
 ((q.1 rb/\rc+0<q.2 rb)/\(a2u 207 (q.3 rb (rc+0))/\a1d (K0 (q.3 rb (rc+0))))/\∃(_:Nat),True/\(T6/\T7/\hh=hh/\True/\(True/\ptB (K0 (q.3 rb (rc+0)))=kb T15/\ptC (K0 (q.3 rb (rc+0)))=0)/\True)/\True/\(0=0/\0
 = 0/\ts=ts/\q.3=q.3/\q.2=q.2/\RM.D q=RM.D q)/\True)/\∀(_:Nat),True->((hh==(0:Int))=true->(q.1 T1/\0<q.2 T1/\B9 .i64 (q.3 T1 0))/\(q.1 ib/\ic+5<=q.2 ib)/\((0:Int)<=p7 (q.3 T1 0)/\p7 (q.3 T1 0)<(17 :
 Int))/\((((((q.1 T1/\1+toNat (p7 (q.3 T1 0))*5+5<=q.2 T1)/\Value.oneCell' (q.3 ib ic)=true)/\Value.oneCell' (q.3 ib (ic+1))=true)/\Value.oneCell' (q.3 ib (ic+1+1))=true)/\Value.oneCell' (q.3 ib (ic+1+1+1))=true)
 /\Value.oneCell' T10=true)/\true=true/\((q.1 T1/\0<q.2 T1/\B9 .i64 (j0 T2 T1 T8 T10 T1 0))/\(q.1 T1/\1<=q.2 T1)/\∃(pq:RM),(hh=(0:Int)/\a7B q ib ic T1 pq)/\(T6/\T7/\hh=hh/\True/\T5/\True)/\True/\(0=0/\0=0/\
 ts=ts/\j0 (j0 T2 T1 T8 T10) T1 0 (Value.int .i64 (IntKind.wrap .i64 (p7 (j0 T2 T1 T8 T10 T1 0)+(1:Int))))=pq.3/\q.2=pq.2/\RM.D q=RM.D pq)/\True)/\∀(j:RM),hh=(0:Int)/\a7B q ib ic T1 j->∀(_:Unit),(0=0/\okR
 (RM.mk (RM.D j) j.2 j.3) rb rc/\okR (RM.mk (RM.D j) j.2 j.3) ib ic)/\(True->R (Option.some (Ob.mk true 0 (a9.raw ts (RM.D (RM.mk (RM.D j) (RM.S j) (RM.F j))) j.2 j.3) 0)) (SV.bool !decide (D6 (bxOf j.3 rb rc) (bxOf j.3 ib ic)))))/\((hh==(0
 : Int))=false->∀(i:Nat),(0=0/\hangs T11 rb rc/\okR T11 ib ic/\1<=List.length (A3 T11 (kb (T9.3 rb rc))))/\(i<List.length (A3 T11 (kb (T9.3 rb rc)))->(0<=(↑i:Int)/\(↑i:Int)<17)/\(∀(i_1:RM×Bool),(0=0/\((0:Int)<=
 IntKind.wrap .i64 T14/\IntKind.wrap .i64 T14<(↑H:Int)/\IntKind.wrap .i64 T14<(1000:Int))/\b6U (RM.mk (RM.D T9) q.2 q.3) T1 (1+toNat (↑i:Int)*5) ib ic (toNat (IntKind.wrap .i64 T14)))/\(a6h (RM.mk (RM.D T9) q.2 q.3) T1 (1 +
 toNat (↑i:Int)*5) ib ic (toNat (IntKind.wrap .i64 T14)) (i_1.1) (i_1.2)->∃(pq:InI),(hh≠(0:Int)/\inC q T1 ib ic T13 pq)/\(T6/\T7/\hh=hh/\i_1.2=InI.g pq/\T5/\(True/\kb T15=kb T15/\1+toNat (↑i:Int)*5=1 +
 InI.j pq*5)/\True)/\True/\(0=0/\0=0/\ts=ts/\(i_1.1).3=(InI.q pq).3/\(i_1.1).2=(InI.q pq).2/\RM.D (i_1.1)=RM.D (InI.q pq))/\True))/\∀(j:InI),hh≠(0:Int)/\inC q T1 ib ic T13 j->((InI.g j=true->∀(i:RM),(0=0/\
 okR (T4 j) T1 (1+InI.j j*5)/\okR (T4 j) ib ic/\apart T1 (1+InI.j j*5) ib ic)/\(exI (T4 j) T1 (1+InI.j j*5) ib ic 2 2 i->∀(_:Unit),(0=0/\okR (RM.mk (RM.D i) i.2 i.3) rb rc/\okR (RM.mk (RM.D i) i.2 i.3) ib ic)/\(True->∃(pq :
 InI),(hh≠(0:Int)/\inE q rb rc T1 ib ic T13 pq)/\(T6/\T7/\hh=hh/\(!decide (D6 (bxOf i.3 rb rc) (bxOf i.3 ib ic)))=InI.g pq/\T5/\(True/\kb T15=kb T15/\1+InI.j j*5=1+InI.j pq*5)/\True)/\True/\(0=0/\0=0/\ts=ts/\
 i.3=(InI.q pq).3/\i.2=(InI.q pq).2/\RM.D (RM.mk (RM.D i) (RM.S i) (RM.F i))=RM.D (InI.q pq))/\True)))/\(InI.g j=false->∃(pq:InI),(hh≠(0:Int)/\inE q rb rc T1 ib ic T13 pq)/\(T6/\T7/\hh=hh/\InI.g j=InI.g pq/\T5/\(True/\
 kb T15=kb T15/\1+InI.j j*5=1+InI.j pq*5)/\True)/\True/\(0=0/\0=0/\ts=ts/\(InI.q j).3=(InI.q pq).3/\(InI.q j).2=(InI.q pq).2/\RM.D (InI.q j)=RM.D (InI.q pq))/\True))/\∀(j:InI),hh≠(0:Int)/\inE q rb rc T1 ib
 ic T13 j->((InI.q j).1 T1/\1+InI.j j*5+0<(InI.q j).2 T1)/\(a2u 207 ((InI.q j).3 T1 (1+InI.j j*5+0))/\a1d (T3 j))/\((InI.q j).1 (ptB (T3 j))/\ptC (T3 j)+0<(InI.q j).2 (ptB (T3 j))/\B9 .i64 (T12 j))/\((p7 (T12 j)==(17
 : Int))=true->∀(i:RM),((InI.q j).1 T1/\0<(InI.q j).2 T1/\B9 .i64 ((InI.q j).3 T1 0))/\((0:Int)<=p7 ((InI.q j).3 T1 0)/\p7 ((InI.q j).3 T1 0)<(17:Int))/\(0=0/\spO (T4 j) T1 (1+InI.j j*5) T1 (1+toNat (p7
 ((InI.q j).3 T1 0))*5))/\true=true/\(spP (T4 j) T1 (1+InI.j j*5) T1 (1+toNat (p7 ((InI.q j).3 T1 0))*5) i->(i.1 T1/\0<i.2 T1/\B9 .i64 (i.3 T1 0))/\(i.1 T1/\1<=i.2 T1)/\R (Option.some (Ob.mk true 0 (a9.raw ts (RM.D i)
 i.2 (j0 i.3 T1 0 (Value.int .i64 (IntKind.wrap .i64 (p7 (i.3 T1 0)+(1:Int)))))) 0)) (SV.bool (InI.g j))))/\((p7 (T12 j)==(17:Int))=false->R (Option.some (Ob.mk true 0 (a9.raw ts (RM.D (InI.q j)) (InI.q j).2 (InI.q j).3) 0))
 (SV.bool (InI.g j)))))):=by subst t1 t2 t3 t4 t5 t6 t7 t8 t9 t10 t11 t12 t13 t14 t15;kernel_rfl
theorem c7u(H:Nat)(ih:z0 prog 127 (o9 (RM×Bool) ⟨default⟩ (a6u H))):z0 prog 127 (o9 (RM×Bool) ⟨default⟩ (c0g (H+1))):=by
 refine D7 (x3 H ih) func127 rfl (by kernel_rfl) λargs=>?_
 unfold c0g;split;rotate_left;trivial;rename_i n rb rc n1 ib ic hh;intro o0;try dsimp only
 split;rotate_left;trivial;rename_i ts q hm0;intro(ho:n=n1/\((0<=hh/\hh<((H+1):Int)/\hh<1000)/\b6U q rb rc ib ic hh.toNat));obtain⟨heq0,ho⟩:=ho;subst heq0;refine⟨?_,Nat.succ_pos _,ts,λ(i:RM×Bool)=>i.1,λ(i:RM×Bool)=>.bool i.2,λ_=>rfl,?_,_,_,(b8v (I7 1 ts (λ(i:RM×Bool)=>a6h q rb rc ib ic hh.toNat i.1 i.2) (λ(i:RM×Bool)=>i.1) (λ(i:RM×Bool)=>.bool i.2)) H ts q rb rc ib ic hh rfl rfl rfl rfl rfl rfl rfl rfl rfl rfl rfl rfl rfl rfl rfl).mpr ?_⟩
 ·refine j8 rfl ⟨λ_=>rfl,?_,⟨trivial,B8 hm0,trivial⟩⟩;simp[q9,z5,A0,z8,z3,nth,g9]
 ·intro i _;rfl
 ·obtain⟨⟨hh0,hhK,hh1000⟩,k,it,ha⟩:=ho;have hkb:=ha.kb;obtain⟨f1,f2,f3,f4⟩:=ha.isRef.facts;obtain⟨n1,n2,n3⟩:=ha.node;have nS:=n1.S;have nle:=n1.le;have hkn:=ha.n;have haS:=ha.S;have haiS:=ha.iS;have hcnt:q.F k.b 0=.int .i64 (k.n:Nat):=by rw[n1.n,n2]
  have hn:p7 (q.F k.b 0)=(k.n:Nat):=by rw[hcnt];rfl
  have hisn:B9 .i64 (q.F k.b 0):=by rw[hcnt];rfl
  simp only[true_and,and_true,eq_self,tN9,true_implies];simp only[Nat.add_zero,f3,f4,hkb,hn];refine⟨⟨⟨ha.D,by omega⟩,⟨f1,f2⟩,0,(by and_intros <;> first|trivial|rfl|(rw[j5 (by omega) (by omega)];first|rfl|omega))⟩,λ_=>⟨λh0=>?_,λh0=>?_⟩⟩
  ·have h0:hh=0:=by simpa using h0
   subst h0;have ha0:N4 q rb rc ib ic 0 k it:=ha;have o0:(q.F ib ic).oneCell'=true:=by rw[ha.iv];rfl
   have o1:(q.F ib (ic+1)).oneCell'=true:=by rw[ha.ibx.1.1];rfl
   have o2:(q.F ib (ic+1+1)).oneCell'=true:=by rw[show ic+1+1=ic+2 from rfl,ha.ibx.2.1.1];rfl
   have o3:(q.F ib (ic+1+1+1)).oneCell'=true:=by rw[show ic+1+1+1=ic+3 from rfl,ha.ibx.2.2.1.1];rfl
   have o4:(q.F ib (ic+1+1+1+1)).oneCell'=true:=by rw[show ic+1+1+1+1=ic+4 from rfl,ha.ibx.2.2.2.1];rfl
   simp (disch:=omega) only[a9V,hn,j5,hisn,n1.D,o0,o1,o2,o3,o4,true_and,and_true];simp only[tN9];refine⟨by omega,⟨ha.iD,by omega⟩,⟨by omega,by omega⟩,by omega,⟨by omega,by omega,_,b9c ha0,(by and_intros <;> first|trivial|rfl|(rw[j5 (by omega) (by omega)];first|rfl|omega))⟩,λq' hq' _=>⟨⟨?_,?_⟩,⟨(q',_),b4N (by rw[hkb];exact hq'),rfl,rfl⟩⟩⟩
   ·exact okR.mk' (by rw[hq'.1.1];exact ha.D) (by rw[hq'.1.2.1];exact ha.S) (D0 (λc _=>hq'.1.2.2 _ _ (Ne.symm ha.rk)) ha.box)
   ·exact okR.mk' (by rw[hq'.1.1];exact ha.iD) (by rw[hq'.1.2.1];exact ha.iS) (D0 (λc _=>hq'.1.2.2 _ _ (Ne.symm ha.ik)) ha.ibx)
  ·have h0:hh≠0:=by simpa using h0
   obtain⟨h,rfl⟩:∃ h:Nat,hh=((h+1:Nat):Int):=⟨hh.toNat-1,by omega⟩;have ha1:N4 q rb rc ib ic (h+1) k it:=ha
   have hk1:1<=k.n:=by
    rcases Nat.eq_zero_or_pos k.n with e|e
    ·have:=(ha1.n0 e).1;omega
    ·exact e
   have hw:IntKind.i64.wrap (((h+1:Nat):Int)-1)=((h:Nat):Int):=by rw[j5 (by omega) (by omega)];omega
   simp only[hw,tN9,Nat.add_sub_cancel,n2];refine λj=>⟨⟨ha.hangs,ha.okI,?_⟩,λhj=>?_⟩
   ·exact hk1
   refine⟨⟨by omega,by omega⟩,λi1=>⟨⟨⟨by omega,by omega,by omega⟩,?_⟩,λhP=>⟨⟨j,i1.1,i1.2⟩,⟨h0,by rw[n2];exact hj,hP⟩,(by and_intros <;> first|trivial|rfl|(rw[j5 (by omega) (by omega)];first|rfl|omega))⟩⟩,?_⟩
   ·obtain⟨A,x,B,_,_,hx⟩:=a4i ha1 (j:=j) (by rw[n2];exact hj);exact⟨x,it,hx⟩
   rintro p ⟨_,hp⟩;obtain⟨c1,c2,⟨x,B,hx,c3,c4,c5,c6⟩,⟨c7,c8,c9⟩,⟨c10,c11,c12⟩⟩:=a4n ha1 hp;refine⟨⟨λhg q2=>⟨⟨okR.mk' c1 c2 c5,okR.mk' c7 c8 c9, .inl ha.ik⟩,λhe=>?_⟩,λhg=>⟨p,⟨h0,b8f ha1 hp hg⟩,(by and_intros <;> first|trivial|rfl|(rw[j5 (by omega) (by omega)];first|rfl|omega))⟩⟩,?_⟩
   ·obtain⟨g1,g2,g3⟩:=b7k ha1 hp hg he;exact λ_=>⟨⟨g1,g2⟩,_,⟨h0,g3⟩,(by and_intros <;> first|trivial|rfl|(rw[j5 (by omega) (by omega)];first|rfl|omega))⟩
   rintro p2 ⟨_,hp2⟩;obtain⟨A,x2,B2,x',hm⟩:=a9D ha1 hp2;obtain⟨d1,d2,d3,d4,d5,d6⟩:=a9G hm;obtain⟨r1,r2,r3,r4⟩:=d3.facts;have d7:=d5.S;have hx6:p7 (p2.q.F x'.b 0)=(x'.n:Nat):=by rw[d6];rfl
   have hnn:p2.q.F k.b 0=.int .i64 (k.n:Nat):=by
    rw[hm.nod.n,hm.ks.n];simp
   have hnn2:p7 (p2.q.F k.b 0)=(k.n:Nat):=by rw[hnn];rfl
   have hp3:inE q rb rc (kb (q.F rb rc)) ib ic h p2:=by rw[hkb];exact hp2
   simp only[r3,r4,d4,hx6,hnn2,tN9];refine⟨⟨d1,by omega⟩,⟨r1,r2⟩,⟨d5.D,by omega,by rw[d6];rfl⟩,λhc=>?_,λhc=>?_⟩
   ·have hc:x'.n=17:=by
     have:((x'.n:Nat):Int)=17:=by simpa using hc
     omega
    refine λq3=>⟨⟨d1,by omega,by rw[hnn];rfl⟩,⟨by omega,by omega⟩,a5M ha1 hm hc,λhs=>?_⟩
    obtain⟨e1,e2,e3,e4,e5⟩:=a8x ha1 hm hc hs;have e6:p7 (q3.F k.b 0)=(k.n:Nat):=by rw[e3];rfl
    have hw2:IntKind.i64.wrap (((k.n:Nat):Int)+1)=((k.n+1:Nat):Int):=by rw[j5 (by omega) (by omega)];rfl
    simp only[e6,hw2];refine⟨⟨e1,by omega,by rw[e3];rfl⟩,⟨e1,by omega⟩,⟨(⟨q3.D,q3.S,j0 q3.F k.b 0 (.int .i64 (k.n+1:Nat))⟩,p2.g),?_,rfl,rfl⟩⟩;have:=b2B (rb:=rb) (rc:=rc) (n:=k.n) (q3:=q3) hp3 (by rw[hkb,d4,hx6,hc];rfl) (by rw[hkb];exact hnn) (by rw[hkb];exact hs);rw[hkb]at this;exact this
   ·have hc:x'.n≠17:=λe=>by rw[e]at hc;exact absurd hc (by decide)
    refine⟨(p2.q,p2.g),?_,rfl,rfl⟩;exact b4v hp3 (by rw[hkb,d4,hx6];intro e;apply hc;have e:((x'.n:Nat):Int)=17:=e;omega)
end
theorem b4L:z0 prog 127 (o9 (RM×Bool) ⟨default⟩ (a6u 0)):=by
 refine a1o x0 func127 rfl (by kernel_rfl) λargs=>?_
 unfold a6u;split;rotate_left;trivial;rename_i n rb rc n1 ib ic hh;intro o0;try dsimp only
 split;rotate_left;trivial;intro ho;exfalso;obtain⟨_,⟨h1,h2,_⟩,_⟩:=ho;omega
theorem b3g:∀ H,z0 prog 127 (o9 (RM×Bool) ⟨default⟩ (a6u H))
 | 0=>b4L
 | H+1=>c7u H (b3g H)
structure rtA (q:RM) (tb tc h:Nat) (k:Kid):Prop where
 D:q.D tb
 S:tc+8<=q.S tb
 hgt:q.F tb tc=.int .i64 (h:Nat)
 ref:q.F tb (tc+1)=.iface 207 (.pointer (some ⟨k.b,0,none⟩))
 box:isBox q.F tb (tc+1) k.B
 tr:isTr q h k
 nd:k.fp.Nodup
 tfp:tb∉k.fp
def isRT(q:RM)(tb tc:Nat)(fp:List Nat)(its:List (Int×Bx)):Prop :=
 (its=[]/\fp=[]/\q.D tb/\tc+8<=q.S tb/\q.F tb tc=.int .i64 (0:Nat)/\q.F tb (tc+1)=.nilIface/\q.F tb (tc+6)=.int .i64 (0:Nat))∨
 ∃ h k,rtA q tb tc h k/\(1<=k.n/\k.n<=16)/\fp=k.fp/\k.its.Perm its/\h<=its.length/\q.F tb (tc+6)=.int .i64 (its.length:Nat)
structure itA (q:RM) (ib ic:Nat) (it:Int×Bx):Prop where
 D:q.D ib
 S:ic+5<=q.S ib
 v:q.F ib ic=.iface 3 (.int .i64 it.1)
 bx:isBox q.F ib ic it.2
structure a4M (q:RM) (tb tc ib ic:Nat) (fp:List Nat) (its:List (Int×Bx)) (it:Int×Bx):Prop where
 t:isRT q tb tc fp its
 i:itA q ib ic it
 ifp:ib∉fp
 ne:ib≠tb
 le:its.length<=100
def rt2(tb tc ib ic:Nat)(q1:RM)(its:List (Int×Bx))(it:Int×Bx):Prop :=
 ∃ h k,N4 q1 tb (tc+1) ib ic h k it/\q1.F tb tc=.int .i64 (h:Nat)/\tc+8<=q1.S tb/\k.its.Perm its/\h<=its.length/\q1.F tb (tc+6)=.int .i64 (its.length:Nat)/\its.length<=100/\ib≠tb
def rt5(tb tc:Nat)(q3:RM)(its:List (Int×Bx))(it:Int×Bx):Prop :=
 ∃ h k,rtA q3 tb tc h k/\(1<=k.n/\k.n<=17)/\k.its.Perm (its++[it])/\h<=its.length/\q3.F tb (tc+6)=.int .i64 (its.length:Nat)/\its.length<=100
def b2k(tb tc:Nat)(q3:RM)(its:List (Int×Bx))(it:Int×Bx):Prop :=
 ∃ h k,rtA q3 tb tc h k/\(1<=k.n/\k.n<=16)/\k.its.Perm (its++[it])/\h<=its.length+1/\q3.F tb (tc+6)=.int .i64 (its.length:Nat)/\its.length<=100
def a0m(q:RM)(tb tc ib ic:Nat)(P:List (Int×Bx)->Int×Bx->Prop):Prop:=∀ fp its it,a4M q tb tc ib ic fp its it->P its it
def rtO(q:RM)(tb tc ib ic:Nat):Prop:=∃ fp its it,a4M q tb tc ib ic fp its it
def rtP(q:RM)(tb tc ib ic:Nat)(q':RM):Prop:=a0m q tb tc ib ic λits it=>∃ fp',isRT q' tb tc fp' (its++[it])
section
variable {q:RM} {tb tc ib ic:Nat} {fp:List Nat} {its:List (Int×Bx)} {it:Int×Bx}
theorem a9d(h:a4M q tb tc ib ic fp its it):q.D tb/\tc+8<=q.S tb/\a7Z (q.F tb (tc+1))/\okR q ib ic:=by
 have hi:=h.i;rcases h.t with⟨_,_,h1,h2,_,h4,_⟩|⟨_,k,ha,_⟩
 ·exact⟨h1,h2, .inl h4,okR.mk' hi.D hi.S hi.bx⟩
 ·exact⟨ha.D,ha.S, .inr ⟨_,_,ha.ref⟩,okR.mk' hi.D hi.S hi.bx⟩
def K3(q:RM)(b:Nat):RM:=⟨K5 q.D b,D8 q.S b 86,C8 q.F b (rz tys 210)⟩
theorem a1w{b c:Nat}(hb:¬q.D b)(hc:q.D c):(K3 q b).D c/\(K3 q b).S c=q.S c/\∀ k,(K3 q b).F c k=q.F c k:=by
 have hne:c≠b:=λe=>hb (e▸hc)
 refine⟨.inr hc,?_,λk=>?_⟩
 ·show D8 q.S b 86 c=_;simp only[D8];rw[if_neg hne]
 ·show C8 q.F b _ c k=_;simp only[C8];rw[if_neg hne]
theorem b1H(b:Nat):(K3 q b).D b/\(K3 q b).S b=86/\(K3 q b).F b 0=.int .i64 (0:Nat):=by
 refine⟨.inl rfl,?_,?_⟩
 ·show D8 q.S b 86 b=_;simp[D8]
 ·show C8 q.F b _ b 0=_;simp only[C8,if_true];exact c0M
theorem c2S{b:Nat}(h:a4M q tb tc ib ic fp its it)(hb:¬q.D b):a7n (K3 q b) ib (ic+1) 2 ib (ic+3) 2 tb (tc+1):=by
 have hi:=h.i;obtain⟨d1,d2,d3⟩:=a1w hb hi.D;obtain⟨r1,r2,_,_⟩:=a9d h;obtain⟨t1,t2,t3⟩:=a1w hb r1;have hS:=hi.S;have hbx:isBox (K3 q b).F ib ic it.2:=D0 (λk _=>d3 _) hi.bx;exact⟨⟨rfl,rfl⟩,a3f.mk' d1 (by rw[d2];omega) hbx.1 hbx.2.1,a3f.mk' d1 (by rw[d2];omega) hbx.2.2.1 hbx.2.2.2,⟨h.ne,h.ne⟩,t1,by rw[t2];omega⟩
theorem b8D(b:Nat)(h:a4M q tb tc ib ic fp its it):a7n ⟨K5 q.D b,K2 q.D q.S b 86,I4 q.D q.F b (rz tys 210)⟩ ib (ic+1) 2 ib (ic+3) 2 tb (tc+1):=by
 have hi:=h.i;obtain⟨r1,r2,_,_⟩:=a9d h;have hS:=hi.S;have hbx:isBox (I4 q.D q.F b (rz tys 210)) ib ic it.2:=D0 (λk _=>by rw[b4u hi.D]) hi.bx;refine⟨⟨rfl,rfl⟩,a3f.mk' (.inr hi.D) ?_ hbx.1 hbx.2.1,a3f.mk' (.inr hi.D) ?_ hbx.2.2.1 hbx.2.2.2,⟨h.ne,h.ne⟩, .inr r1,?_⟩
 ·show ic+1+2<=K2 q.D q.S b 86 ib;rw[a4u hi.D];omega
 ·show ic+3+2<=K2 q.D q.S b 86 ib;rw[a4u hi.D];omega
 ·show tc+1+5<=K2 q.D q.S b 86 tb;rw[a4u r1];omega
theorem b6s{b:Nat}(h:a4M q tb tc ib ic fp its it)(hb:¬q.D b)(hn:R0 (q.F tb (tc+1))=true):rt2 tb tc ib ic (a0b (K3 q b) ib (ic+1) ib (ic+3) tb (tc+1) (.iface 207 (.pointer (some ⟨b,0,none⟩)))) its it:=by
 have hf:=c2S h hb;obtain⟨⟨g1,g2,g3⟩,gb,gv⟩:=b0y (v:=.iface 207 (.pointer (some ⟨b,0,none⟩))) hf;have hi:=h.i;obtain⟨i1,i2,i3⟩:=a1w hb hi.D;have hbx:isBox (K3 q b).F ib ic it.2:=D0 (λk _=>i3 _) hi.bx;have hit:∀ k,(a0b (K3 q b) ib (ic+1) ib (ic+3) tb (tc+1) (.iface 207 (.pointer (some ⟨b,0,none⟩)))).F ib k=q.F ib k:=λk=>(g3 ib k (λe=>h.ne e.1)).trans (i3 k)
 rcases h.t with⟨rfl,rfl,t1,t2,t3,t4,t5⟩|⟨_,k,ha,_⟩
 ·have htb:tb≠b:=λe=>hb (e▸t1)
  have hib:ib≠b:=λe=>hb (e▸hi.D)
  obtain⟨n1,n2,n3⟩:=b1H (q:=q) b;obtain⟨o1,o2,o3⟩:=a1w hb t1;have e4:(⟨zI ((K3 q b).F ib (ic+1)),zI ((K3 q b).F ib (ic+1+1)),zI ((K3 q b).F ib (ic+3)),zI ((K3 q b).F ib (ic+3+1))⟩:Bx)=it.2:=hbx.bxOf;rw[e4]at gb;have hS:=hi.S
  refine⟨0,⟨b,[b],[],it.2,0⟩,⟨by rw[g1];exact o1,by rw[g2,o2];omega,gv,gb,⟨rfl,rfl,⟨by rw[g1];exact n1,by rw[g2];exact n2,?_,by simp,by simp,by simp,by simp⟩,λa ha=>by simp at ha,λhne=>absurd rfl hne⟩,by simp,by simp,λ_=>⟨rfl,rfl⟩,by simpa using htb,by rw[g1];exact i1,by rw[g2,i2];exact hS,?_,D0 (λk _=>hit _) hi.bx,by simpa using hib⟩,?_,by rw[g2,o2];exact t2,List.Perm.refl _,Nat.le_refl _,?_,by simp,h.ne⟩
  ·rw[g3 b 0 (λe=>htb e.1.symm)];exact n3
  ·rw[hit];exact hi.v
  ·rw[g3 tb tc (λe=>by unfold fW at e;omega),o3];exact t3
  ·rw[g3 tb (tc+6) (λe=>by unfold fW at e;omega),o3];exact t5
 ·rw[ha.ref]at hn;exact absurd hn (λe=>nomatch e)
theorem b9i(h:a4M q tb tc ib ic fp its it)(hn:R0 (q.F tb (tc+1))=false):rt2 tb tc ib ic q its it:=by
 have hi:=h.i;rcases h.t with⟨_,_,_,_,_,t4,_⟩|⟨h',k,ha,hk,rfl,hp,hh,hc⟩
 ·rw[t4]at hn;exact absurd hn (λe=>nomatch e)
 ·have hS:=ha.S;exact⟨h',k,⟨ha.D,by omega,ha.ref,ha.box,ha.tr,ha.nd,hk.2,λe=>by omega,ha.tfp,hi.D,hi.S,hi.v,hi.bx,h.ifp⟩,ha.hgt,hS,hp,hh,hc,h.le,h.ne⟩
theorem b1z{q1 q2:RM}{g:Bool}{hh:Nat}(h:rt2 tb tc ib ic q1 its it)(hhv:q1.F tb tc=.int .i64 (hh:Nat))(hP:a6h q1 tb (tc+1) ib ic hh q2 g) :
  okR q2 tb (tc+1)/\okR q2 ib ic/\ib≠tb/\(g=false->rt5 tb tc q2 its it)/\∀ q3,exI q2 tb (tc+1) ib ic 2 2 q3->g=true->rt5 tb tc q3 its it:=by
 obtain⟨h',k,ha,h1,h2,h3,h4,h5,h6,hne⟩:=h
 have:hh=h':=by
  rw[h1]at hhv;simp only[Value.int.injEq,true_and,Int.natCast_inj]at hhv;exact hhv.symm
 subst this;obtain⟨hg,hf,k',k1,k2,k3,k4,k5,k6,k7,k8⟩:=hP k it ha;have htb:∀ c,q2.F tb c=q1.F tb c:=λc=>hf.2 _ _ ha.D ha.rfp
 have hib:∀ c,q2.F ib c=q1.F ib c:=λc=>hf.2 _ _ ha.iD ha.ifp
 have d1:=hf.1 _ ha.D;have d2:=hf.1 _ ha.iD;have hB:isBox q2.F tb (tc+1) k.B:=D0 (λk _=>htb _) ha.box;have hI:isBox q2.F ib ic it.2:=D0 (λk _=>hib _) ha.ibx
 have htk:tb∉k'.fp:=λe=>by
  rcases k6 _ e with e|e
  ·exact ha.rfp e
  ·exact e ha.D
 have hperm:k'.its.Perm (its++[it]):=k7.trans (List.Perm.append_right _ h3);refine⟨okR.mk' d1.1 (by rw[d1.2];exact ha.S) hB,okR.mk' d2.1 (by rw[d2.2];exact ha.iS) hI,hne,λhgf=>?_,λq3 he hgt=>?_⟩
 ·have hin:D6 k.B it.2:=by
   rw[hgf]at hg;by_cases c:D6 k.B it.2
   ·exact c
   ·simp[c]at hg
  have hkB:k'.B=k.B:=by rw[k8,a7y _ _ hin]
  exact⟨hh,k',⟨d1.1,by rw[d1.2];exact h2,by rw[htb];exact h1,by rw[htb,k1];exact ha.ref,by rw[hkB];exact hB,k4,k5,htk⟩,⟨k3,k2⟩,hperm,h4,by rw[htb];exact h5,h6⟩
 ·obtain⟨⟨s1,s2,s3⟩,hb⟩:=he;rw[a4q,hB.bxOf,hI.bxOf]at hb;have hoff:∀ b c,b≠tb->q3.F b c=q2.F b c:=λb c hb=>s3 b c (by unfold rW;omega)
  refine⟨hh,k',⟨by rw[s1];exact d1.1,by rw[s2,d1.2];exact h2,by rw[s3 _ _ (by unfold rW;omega),htb];exact h1,by rw[s3 _ _ (by unfold rW;omega),htb,k1];exact ha.ref,by rw[k8];exact hb,
   k4.same λb hbm=>⟨by rw[s1];exact k4.D b hbm,by rw[s2],λc=>hoff b c λe=>htk (e▸hbm)⟩,k5,htk⟩,⟨k3,k2⟩,hperm,h4,by rw[s3 _ _ (by unfold rW;omega),htb];exact h5,h6⟩
theorem a6V{q3:RM}{h:Nat}{k:Kid}(ha:rtA q3 tb tc h k):isRef (q3.F tb (tc+1))/\kb (q3.F tb (tc+1))=k.b/\F1 q3 k.b (A3 q3 k.b)/\q3.F k.b 0=.int .i64 (k.n:Nat)/\(A3 q3 k.b).length=k.n/\H7 k.B ((A3 q3 k.b).map (·.B))/\k.b≠tb:=by
 obtain⟨l,n1,n2,n3⟩:=ha.tr.nd;refine⟨by rw[ha.ref];rfl,by rw[ha.ref];rfl,by rw[n1.of];exact n1,by rw[n1.n,n2],by rw[n1.of];exact n2,by rw[n1.of];exact n3,λe=>ha.tfp (e▸ha.tr.fp0)⟩
theorem b9J{q3:RM}(h:rt5 tb tc q3 its it)(hn:p7 (q3.F (kb (q3.F tb (tc+1))) 0)≠17):b2k tb tc q3 its it:=by
 obtain⟨h',k,ha,h1,h2,h3,h4,h5⟩:=h;obtain⟨c1,c2,c3,c4,_⟩:=a6V ha;rw[c2,c4]at hn;have:k.n≠17:=λe=>hn (by rw[e];rfl)
 exact⟨h',k,ha,⟨h1.1,by omega⟩,h2,by omega,h4,h5⟩
theorem b6y{q3:RM}{h b:Nat}{k:Kid}(ha:rtA q3 tb tc h k)(hn:k.n=17)(hb:¬q3.D b):spO (K3 q3 b) tb (tc+1) b 6:=by
 obtain⟨c1,c2,c3,c4,c5,c6,c7⟩:=a6V ha;obtain⟨o1,o2,o3⟩:=a1w hb ha.D;obtain⟨m1,m2,m3⟩:=a1w hb c3.D;obtain⟨n1,n2,n3⟩:=b1H (q:=q3) b;have hS:=ha.S;have hbx:isBox (K3 q3 b).F tb (tc+1) k.B:=D0 (λk _=>o3 _) ha.box;have hnd:F1 (K3 q3 b) k.b (A3 q3 k.b):=c3.same m1 m2 m3;have hkb:kb ((K3 q3 b).F tb (tc+1))=k.b:=by rw[o3];exact c2
 have htb:tb≠b:=λe=>hb (e▸ha.D)
 have hkbb:k.b≠b:=λe=>hb (e▸c3.D)
 refine⟨⟨o1,by rw[o2];omega,by rw[o3];exact c1,by rw[hkb];exact c7,by rw[hkb,hnd.of];exact hnd⟩,okR.mk' o1 (by rw[o2];omega) hbx,by rw[hkb,hnd.of,hbx.bxOf];exact c6,by rw[hkb,hnd.of,c5];exact hn,⟨n1,by rw[n2];decide⟩,by rw[hkb];exact Ne.symm hkbb, .inl htb⟩
def G2(q4:RM)(tb tc b:Nat):RM:=⟨q4.D,q4.S,j0 (j0 (cp5 q4.F b 1 q4.F tb (tc+1)) b 0 (.int .i64 2)) tb (tc+1) (.iface 207 (.pointer (some ⟨b,0,none⟩)))⟩
theorem b1o{q3:RM}{h b:Nat}{k:Kid}(ha:rtA q3 tb tc h k)(hn:k.n=17)(hb:¬q3.D b){q4:RM}(hs:spP (K3 q3 b) tb (tc+1) b 6 q4) :
  (q4.D tb/\q4.S tb=q3.S tb/\q4.D b/\q4.S b=86/\∀ c,c<5->(q4.F tb (tc+1+c)).oneCell'=true)/\hangs (G2 q4 tb tc b) tb (tc+1)/\kb ((G2 q4 tb tc b).F tb (tc+1))=b/\A3 (G2 q4 tb tc b) b≠[]/\
  ∀ q6,rcP (G2 q4 tb tc b) tb (tc+1) b (A3 (G2 q4 tb tc b) b).length q6->q6.D tb/\q6.S tb=q3.S tb/\q6.F tb tc=q3.F tb tc/\q6.F tb (tc+6)=q3.F tb (tc+6)/\
   ∃ k':Kid,rtA ⟨q6.D,q6.S,j0 q6.F tb tc (.int .i64 (h+1:Nat))⟩ tb tc (h+1) k'/\k'.n=2/\k'.its.Perm k.its:=by
 have hO:=b6y ha hn hb;obtain⟨c1,c2,c3,c4,c5,c6,c7⟩:=a6V ha;obtain⟨o1,o2,o3⟩:=a1w hb ha.D;obtain⟨n1,n2,n3⟩:=b1H (q:=q3) b;have hS:=ha.S;have hkb0:kb ((K3 q3 b).F tb (tc+1))=k.b:=by rw[o3];exact c2
 obtain⟨b2,L,R,B1,B2,s1,s2,s3,s4,s5,s6,s7,s8,s9,s10,s11,s12⟩:=hs;rw[hkb0]at s2 s5 s12;have htb:tb≠b:=λe=>hb (e▸ha.D)
 have hkbb:k.b≠b:=λe=>hb (e▸c3.D)
 have hb2b:b2≠b:=λe=>s1 (e▸n1)
 have hb2t:b2≠tb:=λe=>s1 (e▸o1)
 have e1:∀ c,c<5∨True->¬rW tb (tc+1) tb c->q4.F tb c=q3.F tb c:=λc _ hw=>(s12.2 tb c o1 (Ne.symm c7) (λe=>by rcases e with e|e;exact htb e.1;exact hw e)).trans (o3 c)
 have eref:q4.F tb (tc+1)=.iface 207 (.pointer (some ⟨k.b,0,none⟩)):=(e1 _ (.inr trivial) (by unfold rW;omega)).trans ha.ref
 have m5:∀ c k',c≠b->c≠tb->(G2 q4 tb tc b).F c k'=q4.F c k':=λc k' h1 h2=>by
  show j0 _ _ _ _ _ _=_;rw[b9 (.inl h2),b9 (.inl h1),P2 (.inl h1)]
 have mb:∀ c,(G2 q4 tb tc b).F b c=j0 (cp5 q4.F b 1 q4.F tb (tc+1)) b 0 (.int .i64 2) b c:=λc=>b9 (.inl (Ne.symm htb))
 have mt:∀ c,c≠tc+1->(G2 q4 tb tc b).F tb c=q4.F tb c:=λc hc=>by
  show j0 _ _ _ _ _ _=_;rw[b9 (.inr hc),b9 (.inl htb),P2 (.inl htb)]
 have mt1:(G2 q4 tb tc b).F tb (tc+1)=.iface 207 (.pointer (some ⟨b,0,none⟩)):=A2;have d1:=s12.1 tb o1;have d2:=s12.1 b n1;have hnq:isTr (K3 q3 b) h k:=ha.tr.same λc hc=>a1w hb (ha.tr.D c hc)
 have hfb:∀ c∈k.fp,c≠b/\c≠tb:=λc hc=>⟨λe=>hb (e▸ha.tr.D c hc),λe=>ha.tfp (e▸hc)⟩
 have hlen17:(A3 (K3 q3 b) k.b).length<=17:=by
  have:=hO.2.2.2.1;rw[hkb0]at this;omega
 obtain⟨x1,x2,f1,f2,f3,f4,f5,f6,f7,f8,f9,f10⟩:=hnq.split (q':=G2 q4 tb tc b) (b2:=b2) ha.nd s2 s3 s4 hlen17 (s5.same s5.D rfl λc=>m5 _ _ hkbb c7) (s6.same s6.D rfl λc=>m5 _ _ hb2b hb2t) s9 s11 λc hc hne=>by
  have hD:=hnq.D c hc;obtain⟨g1,g2⟩:=hfb c hc;refine⟨(s12.1 c hD).1,(s12.1 c hD).2,λk'=>(m5 c k' g1 g2).trans (s12.2 c k' hD hne λe=>?_)⟩;rcases e with e|e
  ·exact g1 e.1
  ·exact g2 e.1
 have node:F1 (G2 q4 tb tc b) b [E5 x1,E5 x2]:=by
  have i0:∀ c,c<5->(G2 q4 tb tc b).F b (1+c)=q4.F tb (tc+1+c):=λc hc=>by
   rw[mb,b9 (by omega)];exact b2n hc
  have i1:∀ c,c<5->(G2 q4 tb tc b).F b (6+c)=q4.F b (6+c):=λc hc=>by
   rw[mb,b9 (by omega),P2 (by omega)]
  refine⟨d2.1,d2.2.trans n2,?_,by simp,λj e hj=>?_,λj e hj=>?_,λj e hj=>?_⟩
  ·rw[mb];exact A2
  ·match j,hj with
   | 0,hj =>
    simp at hj;subst hj;have:=i0 0 (by omega);simp only[Nat.add_zero]at this;refine this.trans ?_;rw[eref];unfold E5;rw[f1]
   | 1,hj =>
    simp at hj;subst hj;have:=i1 0 (by omega);simp only[Nat.add_zero]at this;refine this.trans ?_;rw[s7];unfold E5;rw[f2]
   | j+2,hj=>simp at hj
  ·match j,hj with
   | 0,hj=>simp at hj;subst hj;rfl
   | 1,hj=>simp at hj;subst hj;rfl
   | j+2,hj=>simp at hj
  ·match j,hj with
   | 0,hj =>
    simp at hj;subst hj;show isBox _ _ _ x1.B;rw[f5];exact D0 i0 s8
   | 1,hj =>
    simp at hj;subst hj;show isBox _ _ _ x2.B;rw[f6];exact D0 i1 s10
   | j+2,hj=>simp at hj
 have hkb1:kb ((G2 q4 tb tc b).F tb (tc+1))=b:=by rw[mt1];rfl
 refine⟨⟨d1.1,d1.2.trans o2,d2.1,d2.2.trans n2,λc hc=>?_⟩,⟨d1.1,by show tc+1+5<=q4.S tb;rw[d1.2,o2];omega,by rw[mt1];rfl,by rw[hkb1];exact Ne.symm htb,by rw[hkb1,node.of];exact node⟩,hkb1,by rw[node.of];simp,λq6 hq6=>?_⟩
 ·match c,hc with
  | 0,_=>rw[Nat.add_zero,eref];rfl
  | 1,_=>rw[s8.1.1];rfl
  | 2,_=>rw[s8.2.1.1];rfl
  | 3,_=>rw[s8.2.2.1.1];rfl
  | 4,_=>rw[s8.2.2.2.1];rfl
 ·rw[node.of]at hq6;obtain⟨⟨g1,g2,g3⟩,B,g4,g5⟩:=hq6;rw[node.of,List.take_length]at g5;have hb2k:∀ c∈x1.fp++x2.fp,c=b2∨c∈k.fp:=λc hc=>by simpa using f10.mem_iff.1 hc
  have hxt:∀ c∈x1.fp++x2.fp,c≠tb/\c≠b:=λc hc=>by
   rcases hb2k c hc with rfl|hc
   ·exact⟨hb2t,hb2b⟩
   ·exact⟨(hfb c hc).2,(hfb c hc).1⟩
  have q7o:∀ c k',c≠tb->j0 q6.F tb tc (.int .i64 (h+1:Nat)) c k'=(G2 q4 tb tc b).F c k':=λc k' hc=>by
   rw[b9 (.inl hc),g3 c k' (by unfold rW;omega)]
  have tsame:∀ x:Kid,isTr (G2 q4 tb tc b) h x->(∀ c∈x.fp,c∈x1.fp++x2.fp)->isTr ⟨q6.D,q6.S,j0 q6.F tb tc (.int .i64 (h+1:Nat))⟩ h x:=λx hx hin =>
   hx.same λc hc=>⟨by show q6.D c;rw[g1];exact hx.D c hc,by show q6.S c=_;rw[g2],λk'=>q7o c k' (hxt c (hin c hc)).1⟩
  have hndn:(x1.fp++x2.fp).Nodup:=f10.nodup_iff.2 (List.nodup_cons.2 ⟨λe=>s1 (hnq.D _ e),ha.nd⟩);refine⟨by rw[g1];exact d1.1,by rw[g2];exact d1.2.trans o2,?_,?_,⟨b,b :: [x1,x2].flatMap (·.fp),[x1,x2].flatMap (·.its),B,2⟩,⟨by show q6.D tb;rw[g1];exact d1.1,by show tc+8<=q6.S tb;rw[g2];show tc+8<=q4.S tb;rw[d1.2,o2];exact hS,A2,?_,?_,⟨[x1,x2],rfl,Nat.le_succ 1,rfl,rfl,?_,g5,?_⟩,?_,?_⟩,rfl,?_⟩
  ·rw[g3 _ _ (by unfold rW;omega),mt _ (by omega)];exact e1 _ (.inr trivial) (by unfold rW;omega)
  ·rw[g3 _ _ (by unfold rW;omega),mt _ (by omega)];exact e1 _ (.inr trivial) (by unfold rW;omega)
  ·show j0 q6.F tb tc _ tb (tc+1)=_;rw[b9 (by omega),g3 _ _ (by unfold rW;omega)];exact mt1
  ·exact D0 (λc hc=>by show j0 q6.F tb tc _ tb _=_;rw[b9 (by omega)]) g4
  ·exact node.same (by show q6.D b;rw[g1];exact node.D) (by show q6.S b=_;rw[g2]) λc=>q7o _ _ (Ne.symm htb)
  ·intro x hx;simp at hx;rcases hx with rfl|rfl
   ·exact⟨tsame _ f7 λc hc=>by simp[hc],f3⟩
   ·exact⟨tsame _ f8 λc hc=>by simp[hc],f4⟩
  ·show (b :: [x1,x2].flatMap (·.fp)).Nodup;simp only[List.flatMap_cons,List.flatMap_nil,List.append_nil];exact List.nodup_cons.2 ⟨λe=>(hxt b e).2 rfl,hndn⟩
  ·show tb∉b :: [x1,x2].flatMap (·.fp);simp only[List.flatMap_cons,List.flatMap_nil,List.append_nil,List.mem_cons,not_or];exact⟨htb,λe=>(hxt tb e).1 rfl⟩
  ·show ([x1,x2].flatMap (·.its)).Perm k.its;simp only[List.flatMap_cons,List.flatMap_nil,List.append_nil];exact f9
theorem c2w{q3:RM}{b:Nat}(h:rt5 tb tc q3 its it){h3:Nat}(hh:q3.F tb tc=.int .i64 (h3:Nat))(hn:p7 (q3.F (kb (q3.F tb (tc+1))) 0)=17)(hb:¬q3.D b){q4:RM}(hs:spP (K3 q3 b) tb (tc+1) b 6 q4)
  {q6:RM} (hq:rcP (G2 q4 tb tc b) tb (tc+1) b (A3 (G2 q4 tb tc b) b).length q6):b2k tb tc ⟨q6.D,q6.S,j0 q6.F tb tc (.int .i64 (h3+1:Nat))⟩ its it:=by
 obtain⟨h',k,ha,h1,h2,h3',h4,h5⟩:=h
 have e:h3=h':=by
  rw[ha.hgt]at hh;simp only[Value.int.injEq,true_and,Int.natCast_inj]at hh;exact hh.symm
 subst e;obtain⟨c1,c2,c3,c4,_⟩:=a6V ha;rw[c2,c4]at hn
 have hk:k.n=17:=by
  have:((k.n:Nat):Int)=17:=hn;omega
 obtain⟨_,_,_,_,s9⟩:=b1o ha hk hb hs;obtain⟨t1,t2,t3,t4,k',ha',kn,kp⟩:=s9 q6 hq;refine⟨h3+1,k',ha',by omega,kp.trans h2,by omega,?_,h5⟩;show j0 q6.F tb tc _ tb (tc+6)=_;rw[b9 (by omega),t4];exact h4
theorem b6p{q3:RM}(h:b2k tb tc q3 its it):q3.D tb/\tc+8<=q3.S tb/\q3.F tb (tc+6)=.int .i64 (its.length:Nat)/\its.length<=100/\
  ∃ fp',isRT ⟨q3.D,q3.S,j0 q3.F tb (tc+6) (.int .i64 (its.length+1:Nat))⟩ tb tc fp' (its++[it]):=by
 obtain⟨h',k,ha,h1,h2,h3,h4,h5⟩:=h;have off:∀ c,c≠tc+6->j0 q3.F tb (tc+6) (.int .i64 (its.length+1:Nat)) tb c=q3.F tb c:=λc hc=>b9 (.inr hc)
 refine⟨ha.D,ha.S,h4,h5,k.fp, .inr ⟨h',k,⟨ha.D,ha.S,(off _ (by omega)).trans ha.hgt,(off _ (by omega)).trans ha.ref,D0 (λc hc=>off _ (by omega)) ha.box,
  ha.tr.same λb hb=>⟨ha.tr.D b hb,rfl,λc=>b9 (.inl λe=>ha.tfp (e▸hb))⟩,ha.nd,ha.tfp⟩,h1,rfl,h2,by simp;exact h3,?_⟩⟩
 show j0 q3.F tb (tc+6) _ tb (tc+6)=_;rw[A2];simp
end
noncomputable def GF:Ctx:=⟨⟨tys,[]⟩,[(119,a4s (o9 Unit ⟨()⟩ a8R) ())]⟩
theorem gF:B7 prog GF:=⟨⟨E1,FlatsOk.nil⟩,j9.cons c2C j9.nil,by kernel_rfl⟩
noncomputable def X4:F3:=⟨GF,[(127,o9 (RM×Bool) ⟨default⟩ (a6u 200)),(128,o9 RM ⟨default⟩ a5X),(129,o9 RM ⟨default⟩ a5j),(130,o9 RM ⟨default⟩ a9m)],[(210,0)],[],[]⟩
theorem x4:A7 prog X4:=⟨gF,q8.cons (b3g 200) (q8.cons b7d (q8.cons b6z (q8.cons c0R q8.nil)))⟩
def c2T(ts:List Nat)(tb tc ib ic:Nat)(q:RM):St:=⟨95,[(0, .pb 0 tb tc),(1, .pb 0 ib ic)],[(0,rwO ts q)],1⟩
noncomputable def b1L:List SV->RRd (RM)
 | [.pb n tb tc, .pb n1 ib ic]=>.read n λo0=>(match I5 o0 with
  | some (ts,q)=>.ret ⟨[.pb 0 tb tc, .pb 0 ib ic],[(0,rwO ts q)],some (n=n1/\(rtO q tb tc ib ic)),λi=>rtP q tb tc ib ic i,λi=>⟨[],[], .tup [],[(0,rwO ts (i))],[],none⟩⟩
  | none=>.fail)
 | _=>.fail
theorem b7C(R:Option Ob->SV->Prop)(ts:List Nat)(q:RM)(tb tc ib ic:Nat){T1}(t1:T1=λ(i:Nat) (i_1:RM)=>(j0 (j0 (j0 (j0 (j0 (j0 i_1.3 i 1 (i_1.3 tb (tc+1))) i 2 (i_1.3 tb (tc+1+1))) i 3 (i_1.3 tb (tc+1+1+1))) i 4 (i_1.3 tb (tc+1+1+1+1))) i 5 (i_1.3 tb (tc+1+1+1+1+1))) i 0
 (Value.int .i64 (2:Int)))){T2}(t2:T2=λ(i:Nat)=>(Value.iface 207 (Value.pointer (Option.some (Addr.mk i 0 Option.none))))){T3}(t3:T3=((True/\tb=tb/\tc=tc)/\(True/\ib=ib/\ic=ic)/\True)){T4}(t4:T4=(tc+1+0)){T5}(t5:T5=(Go.Sx.rz
 tys 210)){T6}(t6:T6=λ(i:Nat) (i_1:RM)=>(RM.mk (RM.D i_1) i_1.2 (j0 (T1 i i_1) tb T4 (T2 i)))){T7}(t7:T7=λ(j:RM)=>(K0 (j.3 tb T4))){T8}(t8:T8=λ(i:Nat) (i_1:RM)=>(kb (j0 (T1 i i_1) tb T4 (T2 i) tb (tc+1)))){T9}(t9:T9=λ(j:RM)
 (i:Nat)=>(RM.mk (K5 (RM.D j) i) (K2 (RM.D j) j.2 i 86) (I4 (RM.D j) j.3 i T5))){T10}(t10:T10=λ(j:RM)=>(j.3 (ptB (T7 j)) (ptC (T7 j)+0))):K8 X4 1 [] [(2,⟨RM,c2T ts tb tc ib ic,λq'=>a0m q tb tc ib ic (rt2 tb tc ib ic q'),λ_=>0⟩),(5,⟨RM,c2T ts tb tc ib ic,λq'=>a0m q tb tc ib ic (rt5 tb tc q'),λ_=>0⟩),(13,⟨RM,c2T ts tb tc ib ic,λq'=>a0m q tb tc ib ic (b2k tb tc q'),λ_=>0⟩)] (p9 f120) (A6 f120.ntmps [.pb 0 tb tc, .pb 0 ib ic] [(0,rwO ts q)] 1) (A8 X4.G.E.T f120.results.toList λS v=>R (Go.Sx.look S.H 0) v)=(
 ((q.1 tb/\tc+1+0<q.2 tb)/\a7Z (q.3 tb T4)/\(R0 (q.3 tb T4)=true->∀(i:Nat),(0=0/\0=0/\0=0/\a7n (RM.mk (K5 (RM.D q) i) (K2 (RM.D q) q.2 i 86) (I4 (RM.D q) q.3 i T5)) ib (ic+1) 2 ib (ic+3) 2 tb (tc+1))/\true
 = true/\(¬q.1 i->∃(pq:RM),a0m q tb tc ib ic (rt2 tb tc ib ic pq)/\T3/\True/\(0=0/\0=0/\ts=ts/\j0 (j0 (j0 (j0 (j0 (I4 (RM.D q) q.3 i T5) tb (tc+1+1) (I4 (RM.D q) q.3 i T5 ib (ic+1))) tb (tc+1+3) (I4
 (RM.D q) q.3 i T5 ib (ic+3))) tb (tc+1+1+1) (I4 (RM.D q) q.3 i T5 ib (ic+1+1))) tb (tc+1+3+1) (I4 (RM.D q) q.3 i T5 ib (ic+3+1))) tb (tc+1) (T2 i)=pq.3/\K2 (RM.D q) q.2 i 86=pq.2/\RM.D (a0b (RM.mk (K5 (RM.D
 q) i) (K2 (RM.D q) (RM.S q) i (TI.size b7t)) (I4 (RM.D q) (RM.F q) i (Go.Sx.rz (Env.T (Ctx.E (F3.G X4))) 210))) ib (ic+1) ib (ic+3) tb (tc+1) (T2 i))=RM.D pq)/\True))/\(R0 (q.3 tb T4)=false->∃(pq:RM),a0m q tb tc ib ic
 (rt2 tb tc ib ic pq)/\T3/\True/\(0=0/\0=0/\ts=ts/\q.3=pq.3/\q.2=pq.2/\RM.D q=RM.D pq)/\True))/\∀(j:RM),a0m q tb tc ib ic (rt2 tb tc ib ic j)->∀(i:RM×Bool),(j.1 tb/\tc+0<j.2 tb/\B9 .i64 (j.3 tb (tc+0)))/\
 (0=0/\((0:Int)<=p7 (j.3 tb (tc+0))/\p7 (j.3 tb (tc+0))<(200:Int)/\p7 (j.3 tb (tc+0))<(1000:Int))/\b6U (RM.mk (RM.D j) j.2 j.3) tb (tc+1) ib ic (Int.toNat (p7 (j.3 tb (tc+0)))))/\true=true/\(a6h (RM.mk (RM.D j)
 j.2 j.3) tb (tc+1) ib ic (Int.toNat (p7 (j.3 tb (tc+0)))) (i.1) (i.2)->((i.2=true->∀(i_1:RM),(0=0/\okR (RM.mk (RM.D (i.1)) (i.1).2 (i.1).3) tb (tc+1)/\okR (RM.mk (RM.D (i.1)) (i.1).2 (i.1).3) ib ic/\apart tb (tc+1) ib ic)/\
 (exI (RM.mk (RM.D (i.1)) (i.1).2 (i.1).3) tb (tc+1) ib ic 2 2 i_1->∃(pq:RM),a0m q tb tc ib ic (rt5 tb tc pq)/\T3/\True/\(0=0/\0=0/\ts=ts/\i_1.3=pq.3/\i_1.2=pq.2/\RM.D i_1=RM.D pq)/\True))/\(i.2=false->∃(pq:RM),
 a0m q tb tc ib ic (rt5 tb tc pq)/\T3/\True/\(0=0/\0=0/\ts=ts/\(i.1).3=pq.3/\(i.1).2=pq.2/\RM.D (i.1)=RM.D pq)/\True))/\∀(j:RM),a0m q tb tc ib ic (rt5 tb tc j)->((j.1 tb/\tc+1+0<j.2 tb)/\(a2u 207 (j.3 tb T4)/\
 a1d (T7 j))/\(j.1 (ptB (T7 j))/\ptC (T7 j)+0<j.2 (ptB (T7 j))/\B9 .i64 (T10 j))/\((p7 (T10 j)==(17:Int))=true->∀(i:Nat),¬j.1 i->∀(i_1:RM),((0:Int)<=1/\(1:Int)<17)/\(0=0/\spO (T9 j i) tb (tc+1) i 6)/\true =
 true/\(spP (T9 j i) tb (tc+1) i 6 i_1->(i_1.1 tb/\tc+1+5<=i_1.2 tb)/\((0:Int)<=0/\(0:Int)<17)/\((((((i_1.1 i/\6<=i_1.2 i)/\Value.oneCell' (i_1.3 tb (tc+1))=true)/\Value.oneCell' (i_1.3 tb (tc+1+1))=true)/\
 Value.oneCell' (i_1.3 tb (tc+1+1+1))=true)/\Value.oneCell' (i_1.3 tb (tc+1+1+1+1))=true)/\Value.oneCell' (i_1.3 tb (tc+1+1+1+1+1))=true)/\true=true/\(i_1.1 i/\1<=i_1.2 i)/\(i_1.1 tb/\tc+1+0+1<=i_1.2 tb)
 /\∀(i_2:RM),(hangs (T6 i i_1) tb (tc+1)/\A3 (T6 i i_1) (T8 i i_1)≠[])/\(rcP (T6 i i_1) tb (tc+1) (T8 i i_1) (List.length (A3 (T6 i i_1) (T8 i i_1))) i_2->(i_2.1 tb/\tc+0<i_2.2 tb/\B9 .i64 (i_2.3 tb (tc+0)))/\(i_2.1 tb/\
 tc+0+1<=i_2.2 tb)/\∃(pq:RM),a0m q tb tc ib ic (b2k tb tc pq)/\T3/\True/\(0=0/\0=0/\ts=ts/\j0 i_2.3 tb (tc+0) (Value.int .i64 (IntKind.wrap .i64 (p7 (i_2.3 tb (tc+0))+(1:Int))))=pq.3/\i_2.2=pq.2/\RM.D i_2 =
 RM.D pq)/\True)))/\((p7 (T10 j)==(17:Int))=false->∃(pq:RM),a0m q tb tc ib ic (b2k tb tc pq)/\T3/\True/\(0=0/\0=0/\ts=ts/\j.3=pq.3/\j.2=pq.2/\RM.D j=RM.D pq)/\True))/\∀(j:RM),a0m q tb tc ib ic (b2k tb tc
 j)->(j.1 tb/\tc+6<j.2 tb/\B9 .i64 (j.3 tb (tc+6)))/\(j.1 tb/\tc+6+1<=j.2 tb)/\R (Option.some (Ob.mk true 0 (a9.raw ts (RM.D j) j.2 (j0 j.3 tb (tc+6) (Value.int .i64 (IntKind.wrap .i64 (p7 (j.3 tb (tc+6))+(1:Int))))))
 0)) (SV.tup []))):=by subst t1 t2 t3 t4 t5 t6 t7 t8 t9 t10;kernel_rfl
theorem c6t:z0 prog 120 (o9 (RM) ⟨default⟩ b1L):=by
 refine D7 x4 func120 rfl (by kernel_rfl) λargs=>?_
 unfold b1L;split;rotate_left;trivial;rename_i n tb tc n1 ib ic;intro o0;try dsimp only
 split;rotate_left;trivial;rename_i ts q hm0;intro(ho:n=n1/\(rtO q tb tc ib ic));obtain⟨heq0,ho⟩:=ho;subst heq0;refine⟨?_,Nat.succ_pos _,ts,λ(i:RM)=>i,λ(i:RM)=>.tup [],λ_=>rfl,?_,_,_,(b7C (I7 1 ts (λ(i:RM)=>rtP q tb tc ib ic i) (λ(i:RM)=>i) (λ(i:RM)=>.tup [])) ts q tb tc ib ic rfl rfl rfl rfl rfl rfl rfl rfl rfl rfl).mpr ?_⟩
 ·refine j8 rfl ⟨λ_=>rfl,?_,⟨trivial,B8 hm0,trivial⟩⟩;simp[q9,z5,z8,z3,nth,g9]
 ·intro i _;rfl
 ·obtain⟨fp,its,it,hpre⟩:=ho;obtain⟨r1,r2,r3,r4⟩:=a9d hpre;simp only[true_and,and_true,eq_self,Int.reduceLE,Int.reduceLT,Int.le_refl];simp only[Nat.add_zero];refine⟨⟨⟨r1,by omega⟩,r3,λhn=>λb=>⟨b8D b hpre,λhb=>?_⟩,λhn=>⟨q,λfp its it h=>b9i h hn,(by and_intros <;> first|trivial|rfl|(rw[j5 (by omega) (by omega)];first|rfl|omega))⟩⟩,?_⟩
  ·simp only[Q7 hb,Q2 hb];exact⟨a0b (K3 q b) ib (ic+1) ib (ic+3) tb (tc+1) (.iface 207 (.pointer (some ⟨b,0,none⟩))),λfp its it h=>b6s h hb hn,(by and_intros <;> first|trivial|rfl|(rw[j5 (by omega) (by omega)];first|rfl|omega))⟩
  intro q1 h1;obtain⟨h',k,ha,e1,e2,e3,e4,e5,e6,e7⟩:=h1 _ _ _ hpre;have e8:p7 (q1.F tb tc)=(h':Nat):=by rw[e1];rfl
  simp only[e8,tN9];intro i;refine⟨⟨ha.D,by omega,by rw[e1];rfl⟩,⟨⟨by omega,by omega,by omega⟩,⟨k,it,ha⟩⟩,λhP=>⟨?_,?_⟩⟩
  ·obtain⟨g1,g2,g3,g4,g5⟩:=b1z (h1 _ _ _ hpre) e1 hP;refine⟨λhg q3=>⟨⟨g1,g2, .inl (Ne.symm g3)⟩,λhe=>⟨q3,λfp its it h=>(b1z (h1 _ _ _ h) e1 hP).2.2.2.2 q3 he hg,(by and_intros <;> first|trivial|rfl|(rw[j5 (by omega) (by omega)];first|rfl|omega))⟩⟩,λhg=>⟨i.1,λfp its it h=>(b1z (h1 _ _ _ h) e1 hP).2.2.2.1 hg,(by and_intros <;> first|trivial|rfl|(rw[j5 (by omega) (by omega)];first|rfl|omega))⟩⟩
  intro q3 h3;obtain⟨h3',k3,ha3,f1,f2,f3,f4,f5⟩:=h3 _ _ _ hpre;obtain⟨c1,c2,c3,c4,c5,c6,c7⟩:=a6V ha3;obtain⟨x1,x2,x3,x4⟩:=c1.facts;have c8:=c3.S;have c9:=ha3.S;have hx:p7 (q3.F k3.b 0)=(k3.n:Nat):=by rw[c4];rfl
  have hkn:p7 (q3.F (kb (q3.F tb (tc+1))) 0)=(k3.n:Nat):=by rw[c2];exact hx
  simp only[x3,x4,c2,hx];refine⟨⟨⟨ha3.D,by omega⟩,⟨x1,x2⟩,⟨c3.D,by omega,by rw[c4];rfl⟩,λhc=>?_,λhc=>?_⟩,?_⟩
  ·have hc17:k3.n=17:=by
    have:((k3.n:Nat):Int)=17:=by simpa using hc
    omega
   refine λb hb q4=>?_
   simp only[Q7 hb,Q2 hb];refine⟨b6y ha3 hc17 hb,λhs=>?_⟩;obtain⟨⟨s1,s2,s3,s4,s5⟩,s6,s7,s8,s9⟩:=b1o ha3 hc17 hb hs;have o0:=s5 0 (by omega);have o1:=s5 1 (by omega);have o2:=s5 2 (by omega);have o3:=s5 3 (by omega);have o4:=s5 4 (by omega);refine⟨⟨s1,by omega⟩,⟨⟨⟨⟨⟨⟨s3,by omega⟩,o0⟩,o1⟩,o2⟩,o3⟩,o4⟩,⟨s3,by omega⟩,⟨s1,by omega⟩,λq6=>⟨⟨s6,?_⟩,λhq6=>?_⟩⟩
   ·show A3 (G2 q4 tb tc b) (kb ((G2 q4 tb tc b).F tb (tc+1)))≠[];rw[s7];exact s8
   have hq7:rcP (G2 q4 tb tc b) tb (tc+1) (kb ((G2 q4 tb tc b).F tb (tc+1))) (A3 (G2 q4 tb tc b) (kb ((G2 q4 tb tc b).F tb (tc+1)))).length q6:=hq6;rw[s7]at hq7;obtain⟨t1,t2,t3,t4,_⟩:=s9 q6 hq7;have t5:q6.F tb tc=.int .i64 (h3':Nat):=by rw[t3];exact ha3.hgt
   have t6:p7 (q6.F tb tc)=(h3':Nat):=by rw[t5];rfl
   have t7:IntKind.i64.wrap (((h3':Nat):Int)+1)=((h3'+1:Nat):Int):=by rw[j5 (by omega) (by omega)];rfl
   simp only[t6,t7];refine⟨⟨t1,by omega,by rw[t5];rfl⟩,⟨t1,by omega⟩,_,λfp its it h=>c2w (h3 _ _ _ h) ha3.hgt (by rw[hkn,hc17];rfl) hb hs hq7,(by and_intros <;> first|trivial|rfl|(rw[j5 (by omega) (by omega)];first|rfl|omega))⟩
  ·refine⟨q3,λfp its it h=>b9J (h3 _ _ _ h) λe=>?_,(by and_intros <;> first|trivial|rfl|(rw[j5 (by omega) (by omega)];first|rfl|omega))⟩;rw[hkn]at e;have e:((k3.n:Nat):Int)=17:=e;rw[e]at hc;exact absurd hc (by decide)
  intro q5 h5;obtain⟨g1,g2,g3,g4,g5⟩:=b6p (h5 _ _ _ hpre);have g6:p7 (q5.F tb (tc+6))=(its.length:Nat):=by rw[g3];rfl
  have g7:IntKind.i64.wrap (((its.length:Nat):Int)+1)=((its.length+1:Nat):Int):=by rw[j5 (by omega) (by omega)];rfl
  simp only[g6,g7];refine⟨⟨g1,by omega,by rw[g3];rfl⟩,⟨g1,by omega⟩,⟨⟨q5.D,q5.S,j0 q5.F tb (tc+6) (.int .i64 (its.length+1:Nat))⟩,λfp its2 it2 h=>?_,rfl,trivial⟩⟩;obtain⟨_,_,k3,_,k5⟩:=b6p (h5 _ _ _ h)
  have:its2.length=its.length:=by
   rw[g3]at k3;simp only[Value.int.injEq,true_and,Int.natCast_inj]at k3;exact k3.symm
  rw[this]at k5;exact k5
end Go.Proofs.Tryz.Sx
