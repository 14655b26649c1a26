/- Parts of a proof, in order: what each says stands at its head. No conditions. -/
import Derived.Test.YtfhkmkhcofodmaaGreatM5
import Derived.Test.YtfhkmkhcofodmaaGreatM3
import Derived.Test.YtfhkmkhcofodmaaGreatM4
namespace Go.Proofs.Tryz.Sx
open Go Go.Sx Go.Proofs Go.Fl Go.Geo
set_option maxRecDepth 100000
noncomputable section
theorem isRT.same{q q':RM}{tb tc:Nat}{fp:List Nat}{its:List (Int×Bx)}(h:isRT q tb tc fp its)(hs:∀ c,q.D c->q'.D c/\q'.S c=q.S c/\∀ k,q'.F c k=q.F c k):isRT q' tb tc fp its:=by
 rcases h with⟨h1,h2,h3,h4,h5,h6,h7⟩|⟨h',k,ha,h1,h2,h3,h4,h5⟩
 ·obtain⟨s1,s2,s3⟩:=hs tb h3;exact .inl ⟨h1,h2,s1,by rw[s2];exact h4,by rw[s3];exact h5,by rw[s3];exact h6,by rw[s3];exact h7⟩
 ·obtain⟨s1,s2,s3⟩:=hs tb ha.D;exact .inr ⟨h',k,⟨s1,by rw[s2];exact ha.S,by rw[s3];exact ha.hgt,by rw[s3];exact ha.ref,D0 (λk _=>s3 _) ha.box,ha.tr.same λb hb=>hs b (ha.tr.D b hb),ha.nd,ha.tfp⟩,h1,h2,h3,h4,by rw[s3];exact h5⟩
theorem isRT.D{q:RM}{tb tc:Nat}{fp:List Nat}{its:List (Int×Bx)}(h:isRT q tb tc fp its):q.D tb/\∀ b∈fp,q.D b:=by
 rcases h with⟨h1,h2,h3,h4,h5,h6,h7⟩|⟨h',k,ha,h1,h2,h3,h4,h5⟩
 ·exact⟨h3,by rw[h2];simp⟩
 ·exact⟨ha.D,by rw[h2];exact ha.tr.D⟩
def inP(q:RM)(tb tc mb mc xb xc:Nat)(v:Int)(q':RM):Prop:=∀ fp its,isRT q tb tc fp its->its.length<=100->∃ fp',isRT q' tb tc fp' (its++[(v,⟨zI (q.F mb mc),zI (q.F mb (mc+1)),zI (q.F xb xc),zI (q.F xb (xc+1))⟩)])
def inO(q:RM)(tb tc mb mc l xb xc l1:Nat):Prop:=(l=2/\l1=2)/\a3f q mb mc/\a3f q xb xc/\∃ fp its,isRT q tb tc fp its/\its.length<=100
def GFi:Ctx:=⟨⟨tys,[]⟩,[(119,a4s (o9 Unit ⟨()⟩ a9o) ())]⟩
theorem gFi:B7 prog GFi:=⟨⟨E1,FlatsOk.nil⟩,j9.cons c3x j9.nil,by kernel_rfl⟩
def X5:F3:=⟨GFi,[(120,o9 RM ⟨default⟩ b1L)],[(177,0)],[],[]⟩
theorem x5:A7 prog X5:=⟨gFi,q8.cons c6t q8.nil⟩
def inM(q:RM)(b mb mc xb xc:Nat)(v:Int):RM:=a0b ⟨K5 q.D b,D8 q.S b 5,C8 q.F b (rz tys 177)⟩ mb mc xb xc b 0 (.iface 3 (.int .i64 v))
theorem b3l{q:RM}{tb tc mb mc l xb xc l1 b:Nat}(ho:inO q tb tc mb mc l xb xc l1)(hb:¬q.D b):a7n ⟨K5 q.D b,D8 q.S b 5,C8 q.F b (rz tys 177)⟩ mb mc l xb xc l1 b 0:=by
 obtain⟨hl,⟨d1,s1,a0,a1⟩,⟨d2,s2,b0,b1⟩,_⟩:=ho;have n1:mb≠b:=λe=>hb (e▸d1)
 have n2:xb≠b:=λe=>hb (e▸d2)
 have f1:∀ c,C8 q.F b (rz tys 177) mb c=q.F mb c:=λc=>by simp only[C8];rw[if_neg n1]
 have f2:∀ c,C8 q.F b (rz tys 177) xb c=q.F xb c:=λc=>by simp only[C8];rw[if_neg n2]
 refine⟨hl,a3f.mk' (.inr d1) ?_ (by show fz (C8 q.F b _ mb mc) _;rw[f1];exact a0) (by show fz (C8 q.F b _ mb (mc+1)) _;rw[f1];exact a1),a3f.mk' (.inr d2) ?_ (by show fz (C8 q.F b _ xb xc) _;rw[f2];exact b0) (by show fz (C8 q.F b _ xb (xc+1)) _;rw[f2];exact b1),⟨n1,n2⟩, .inl rfl,by simp[D8]⟩
 ·show mc+2<=D8 q.S b 5 mb;simp only[D8];rw[if_neg n1];exact s1
 ·show xc+2<=D8 q.S b 5 xb;simp only[D8];rw[if_neg n2];exact s2
theorem b6m{q:RM}{tb tc mb mc l xb xc l1 b:Nat}{v:Int}(ho:inO q tb tc mb mc l xb xc l1)(hb:¬q.D b){fp:List Nat}{its:List (Int×Bx)}(ht:isRT q tb tc fp its)(hl:its.length<=100) :
  a4M (inM q b mb mc xb xc v) tb tc b 0 fp its (v,⟨zI (q.F mb mc),zI (q.F mb (mc+1)),zI (q.F xb xc),zI (q.F xb (xc+1))⟩):=by
 obtain⟨⟨g1,g2,g3⟩,gb,gv⟩:=b0y (v:=.iface 3 (.int .i64 v)) (b3l ho hb);obtain⟨_,⟨d1,_⟩,⟨d2,_⟩,_⟩:=ho;have n1:mb≠b:=λe=>hb (e▸d1)
 have n2:xb≠b:=λe=>hb (e▸d2)
 have f1:∀ c,C8 q.F b (rz tys 177) mb c=q.F mb c:=λc=>by simp only[C8];rw[if_neg n1]
 have f2:∀ c,C8 q.F b (rz tys 177) xb c=q.F xb c:=λc=>by simp only[C8];rw[if_neg n2]
 simp only[f1,f2]at gb;refine⟨ht.same λc hc=>?_,⟨by rw[inM,g1];exact .inl rfl,by rw[inM,g2];simp[D8],gv,gb⟩,λe=>hb (ht.D.2 _ e),λe=>hb (e▸ht.D.1),hl⟩;have hne:c≠b:=λe=>hb (e▸hc)
 refine⟨by rw[inM,g1];exact .inr hc,?_,λk=>?_⟩
 ·rw[inM,g2];simp only[D8];rw[if_neg hne]
 ·rw[inM,g3 c k (λe=>hne e.1)];simp only[C8];rw[if_neg hne]
def a6a:List SV->RRd (RM)
 | [.pb n tb tc, .slb n1 mb mc l k, .slb n2 xb xc l1 k1, .ifc t (.int .i64 v)]=>.read n λo0=>(match I5 o0 with
  | some (ts,q)=>.ret ⟨[.pb 0 tb tc, .slb 0 mb mc l k, .slb 0 xb xc l1 k1, .ifc 3 (.int .i64 v)],[(0,rwO ts q)],some (n=n1/\n=n2/\3=t/\(inO q tb tc mb mc l xb xc l1)),λi=>inP q tb tc mb mc xb xc v i,λi=>⟨[],[], .tup [],[(0,rwO ts (i))],[],none⟩⟩
  | none=>.fail)
 | _=>.fail
theorem b2t(R:Option Ob->SV->Prop)(ts:List Nat)(q:RM)(tb tc mb mc l k xb xc l1 k1:Nat)(v:Int){T1}(t1:T1=λ(i:Nat)=>(RM.mk (RM.D (a0b (RM.mk (K5 (RM.D q) i) (K2 (RM.D q) (RM.S q) i (TI.size b6l)) (I4 (RM.D q) (RM.F q) i (Go.Sx.rz (Env.T (Ctx.E (F3.G X5))) 177))) mb mc xb xc i 0 (Value.iface 3 (Value.int .i64 v)))) (K2 (RM.D
 q) q.2 i 5) (j0 (j0 (j0 (j0 (j0 (I4 (RM.D q) q.3 i (Go.Sx.rz tys 177)) i 1 (I4 (RM.D q) q.3 i (Go.Sx.rz tys 177) mb mc)) i 3 (I4 (RM.D q) q.3 i (Go.Sx.rz tys 177) xb xc)) i 2 (I4 (RM.D q) q.3 i (Go.Sx.rz tys 177) mb (mc+1)))
 i 4 (I4 (RM.D q) q.3 i (Go.Sx.rz tys 177) xb (xc+1))) i 0 (Value.iface 3 (Value.int .i64 v))))):K8 X5 1 [] [] (p9 f114) (A6 f114.ntmps [.pb 0 tb tc, .slb 0 mb mc l k, .slb 0 xb xc l1 k1, .ifc 3 (.int .i64 v)] [(0,rwO ts q)] 1) (A8 X5.G.E.T f114.results.toList λS v=>R (Go.Sx.look S.H 0) v)=(
 ∀(i:Nat),¬q.1 i->(0=0/\0=0/\a7n (RM.mk (K5 (RM.D q) i) (K2 (RM.D q) q.2 i 5) (I4 (RM.D q) q.3 i (Go.Sx.rz tys 177))) mb mc l xb xc l1 i 0)/\∀(i_1:RM),(0=0/\rtO (T1 i) tb tc i 0)/\(rtP (T1 i) tb tc i 0 i_1->R (Option.some
 (Ob.mk true 0 (a9.raw ts (RM.D i_1) i_1.2 i_1.3) 0)) (SV.tup []))):=by subst t1;kernel_rfl
theorem b9I:z0 prog 114 (o9 (RM) ⟨default⟩ a6a):=by
 refine D7 x5 func114 rfl (by kernel_rfl) λargs=>?_
 unfold a6a;split;rotate_left;trivial;rename_i n tb tc n1 mb mc l k n2 xb xc l1 k1 t v;intro o0;try dsimp only
 split;rotate_left;trivial;rename_i ts q hm0;intro(ho:n=n1/\n=n2/\3=t/\(inO q tb tc mb mc l xb xc l1));obtain⟨heq0,heq1,heq2,ho⟩:=ho;subst heq0 heq1 heq2;refine⟨?_,Nat.succ_pos _,ts,λ(i:RM)=>i,λ(i:RM)=>.tup [],λ_=>rfl,?_,_,_,(b2t (I7 1 ts (λ(i:RM)=>inP q tb tc mb mc xb xc v i) (λ(i:RM)=>i) (λ(i:RM)=>.tup [])) ts q tb tc mb mc l k xb xc l1 k1 v rfl).mpr ?_⟩
 ·refine j8 rfl ⟨λ_=>rfl,?_,⟨trivial,B8 hm0,trivial⟩⟩;simp[q9,z5,A0,z8,z3,nth,g9]
 ·intro i _;rfl
 ·obtain⟨fp,its,ht,hl⟩:=ho.2.2.2;simp only[true_and,eq_self];intro b hb;simp only[Q7 hb,Q2 hb];refine⟨b3l ho hb,λq'=>⟨⟨fp,its,_,b6m ho hb ht hl⟩,λhP=>⟨q',λfp2 its2 ht2 hl2=>hP _ _ _ (b6m ho hb ht2 hl2),rfl,trivial⟩⟩⟩
end
end Go.Proofs.Tryz.Sx

namespace Go.Sx
def a2t(o:Ob)(e es:Nat):Bool:=match o.rw with
 | true=>Nat.beq o.elem e&&Nat.beq o.es es
 | false=>false
theorem Q6{σ:Sig}{o:Ob}{e es:Nat}{c':a9}(h:a2t o e es=true)(hc:L6 σ o.c c'):obR σ o ⟨true,e,c',es⟩:=by
 obtain⟨rw,el,c,es'⟩:=o;unfold a2t at h
 cases rw with
 | false=>cases h
 | true =>
  simp only[bA9]at h;exact⟨eB9 h.1,eB9 h.2,hc⟩
end Go.Sx

namespace Go.Proofs.Tryz.Sx
open Go Go.Sx Go.Proofs Go.Fl Go.Geo
set_option maxRecDepth 100000
open Go.IntKind (wrap)
noncomputable section
def nbI(v:Int):Int:=if v<=255 then 1 else if v<=65535 then 2 else 4
def b3n:PF:=fun
 | [.int .u32 v]=>some (.int .u8 (nbI v),none)
 | _=>none
theorem b8Y(R:SV->Prop)(v:Int):J3 G0 0 [] [] (p9 f125) (A6 f125.ntmps [.int .u32 v] [] 0) (A8 G0.E.T f125.results.toList λ_ v=>R v)=(
(decide (v<=(255:Int))=true->R (SV.int .u8 (1:Int)))/\(decide (v<=(255:Int))=false->(decide (v<=(65535:Int))=true->R (SV.int .u8 (2:Int)))/\(decide (v<=(65535:Int))=false->R (SV.int .u8 (4:Int))))):=by kernel_rfl
theorem c5w:E8 prog 125 b3n:=by
 refine G6 g0 func125 rfl (by kernel_rfl) ?_;intro args v p h hp;unfold b3n at h;split at h
 ·rename_i v;injection h with h;injection h with h1 h2;subst h1 h2
  clear hp;refine⟨rfl,_,_,(b8Y _ v).mpr ?_⟩;simp only[eqv,A0];unfold nbI;grind
 ·cases h
theorem a5s(v:Int):wrap .u8 v=v % 256:=rfl
theorem c4I{k:IntKind}{v:Int}{n:Nat}(h:n<=k.bits):shr k v (n:Int)=v / 2 ^ n:=by
 unfold shr;rw[tN9,Nat.min_eq_left h,Int.fdiv_eq_ediv_of_nonneg _ (Int.le_of_lt (Int.pow_pos (by decide)))]
def byI(v:Int)(j:Nat):Int:=v / 256 ^ j % 256
theorem b8z(v:Int):wrap .u8 v=byI v 0:=by rw[a5s];simp[byI]
theorem a2j{k:IntKind}(v:Int)(j n:Nat)(hn:n=8*j)(h:n<=k.bits):wrap .u8 (shr k v (n:Int))=byI v j:=by
 rw[a5s,c4I h,hn,Int.pow_mul];rfl
theorem V5(v:Int)(j:Nat):0<=byI v j/\byI v j<256:=⟨Int.emod_nonneg _ (by decide),Int.emod_lt_of_pos _ (by decide)⟩
def pB(F:Nat->Nat->Value)(b c:Nat)(v:Int)(j:Nat):Nat->Nat->Value:=j0 F b (c+j) (.int .u8 (byI v j))
def p2R(q:RM)(b c:Nat)(v:Int):RM:=⟨q.D,q.S,pB (pB q.F b c v 0) b c v 1⟩
def p4R(q:RM)(b c:Nat)(v:Int):RM:=⟨q.D,q.S,pB (pB (pB (pB q.F b c v 0) b c v 1) b c v 2) b c v 3⟩
def a7F:List SV->RRd (Unit)
 | [.agg [], .slb n b c l k, .int .u32 v]=>.read n λo0=>(match I5 o0 with
  | some (ts,q)=>.ret ⟨[.agg [], .slb 0 b c l k, .int .u32 v],[(0,rwO ts q)],some (((0<=v/\v<4294967296)/\(4<=l/\q.D b/\c+4<=q.S b)/\B9 .u8 (q.F b (c+3)))),λ_i=>True,λ_i=>⟨[],[], .tup [],[(0,rwO ts (p4R q b c v))],[],none⟩⟩
  | none=>.fail)
 | _=>.fail
theorem b9N(R : Option Ob -> SV -> Prop)(ts : List Nat)(q : RM)(b c l k : Nat)(v : Int) : K8 X0 1 [] [] (p9 f121) (A6 f121.ntmps [.agg [], .slb 0 b c l k, .int .u32 v] [(0, rwO ts q)] 1) (A8 X0.G.E.T f121.results.toList λS v => R (Go.Sx.look S.H 0) v) = (
((0 : Int) <= 3 /\ 3 < (↑l : Int)) /\ (q.1 b /\ c + 3 < q.2 b /\ B9 .u8 (q.3 b (c + 3))) /\ ((0 : Int) <= 0 /\ 0 < (↑l : Int)) /\ (q.1 b /\ c + 0 + 1 <= q.2 b) /\ (0 : Int) <= 8 /\
((0 : Int) <= 1 /\ 1 < (↑l : Int)) /\ (q.1 b /\ c + 1 + 1 <= q.2 b) /\ (0 : Int) <= 16 /\ ((0 : Int) <= 2 /\ 2 < (↑l : Int)) /\ (q.1 b /\ c + 2 + 1 <= q.2 b) /\ (0 : Int) <= 24 /\ ((0 :
 Int) <= (3 : Int) /\ 3 < (↑l : Int)) /\ (q.1 b /\ c + 3 + 1 <= q.2 b) /\ R (Option.some (Ob.mk true 0 (a9.raw ts (RM.D q) q.2 (j0 (j0 (j0 (j0 q.3 b (c + 0)
(Value.int .u8 (wrap .u8 v))) b (c + 1) (Value.int .u8 (wrap .u8 (shr IntKind.u32 v (8 : Int))))) b (c + 2) (Value.int .u8 (wrap .u8 (shr IntKind.u32 v (16 : Int))))) b (c +
3) (Value.int .u8 (wrap .u8 (shr IntKind.u32 v (24 : Int)))))) 0)) (SV.tup [])) := by kernel_rfl
theorem b8w:z0 prog 121 (o9 (Unit) ⟨()⟩ a7F):=by
 refine D7 x0 func121 rfl (by kernel_rfl) λargs=>?_
 unfold a7F;split;rotate_left;trivial;rename_i n b c l k v;intro o0;try dsimp only
 split;rotate_left;trivial;rename_i ts q hm0;intro(ho:((0<=v/\v<4294967296)/\(4<=l/\q.D b/\c+4<=q.S b)/\B9 .u8 (q.F b (c+3))));refine⟨?_,Nat.succ_pos _,ts,λ(_i:Unit)=>p4R q b c v,λ(_i:Unit)=>.tup [],λ_=>rfl,?_,_,_,(b9N (I7 1 ts (λ(_i:Unit)=>True) (λ(_i:Unit)=>p4R q b c v) (λ(_i:Unit)=>.tup [])) ts q b c l k v).mpr ?_⟩
 ·refine j8 rfl ⟨λ_=>rfl,?_,⟨trivial,B8 hm0,trivial⟩⟩;simp[q9,z5,A0,z8,z3,nth,g9]
 ·intro _i _;rfl
 ·obtain⟨⟨v0,v1⟩,⟨hl,hD,hS⟩,hi⟩:=ho;have b1:wrap .u8 (shr .u32 v 8)=byI v 1:=a2j (k:=.u32) v 1 8 rfl (by decide);have b2:wrap .u8 (shr .u32 v 16)=byI v 2:=a2j (k:=.u32) v 2 16 rfl (by decide);have b3:wrap .u8 (shr .u32 v 24)=byI v 3:=a2j (k:=.u32) v 3 24 rfl (by decide);simp only[b8z v,b1,b2,b3];simp only[true_and,Int.reduceLE,Int.le_refl]
  and_intros
  all_goals first|omega|exact hD|exact hi|exact⟨(),trivial,rfl,trivial⟩
def b5x:List SV->RRd (Unit)
 | [.agg [], .slb n b c l k, .int .u16 v]=>.read n λo0=>(match I5 o0 with
  | some (ts,q)=>.ret ⟨[.agg [], .slb 0 b c l k, .int .u16 v],[(0,rwO ts q)],some (((0<=v/\v<65536)/\(2<=l/\q.D b/\c+2<=q.S b)/\B9 .u8 (q.F b (c+1)))),λ_i=>True,λ_i=>⟨[],[], .tup [],[(0,rwO ts (p2R q b c v))],[],none⟩⟩
  | none=>.fail)
 | _=>.fail
theorem b9H(R:Option Ob->SV->Prop)(ts:List Nat)(q:RM)(b c l k:Nat)(v:Int):K8 X0 1 [] [] (p9 f132) (A6 f132.ntmps [.agg [], .slb 0 b c l k, .int .u16 v] [(0,rwO ts q)] 1) (A8 X0.G.E.T f132.results.toList λS v=>R (Go.Sx.look S.H 0) v)=(
((0:Int)<=1/\1<(↑l:Int))/\(q.1 b/\c+1<q.2 b/\B9 .u8 (q.3 b (c+1)))/\((0:Int)<=0/\0<(↑l:Int))/\(q.1 b/\c+0+1<=q.2 b)/\(0:Int)<=8/\
((0:Int)<=1/\1<(↑l:Int))/\(q.1 b/\c+1+1<=q.2 b)/\R (Option.some (Ob.mk true 0 (a9.raw ts (RM.D q) q.2 (j0 (j0 q.3 b (c+0) (Value.int .u8
(wrap .u8 v))) b (c+1) (Value.int .u8 (wrap .u8 (shr IntKind.u16 v (8:Int)))))) 0)) (SV.tup [])):=by kernel_rfl
theorem c8y:z0 prog 132 (o9 (Unit) ⟨()⟩ b5x):=by
 refine D7 x0 func132 rfl (by kernel_rfl) λargs=>?_
 unfold b5x;split;rotate_left;trivial;rename_i n b c l k v;intro o0;try dsimp only
 split;rotate_left;trivial;rename_i ts q hm0;intro(ho:((0<=v/\v<65536)/\(2<=l/\q.D b/\c+2<=q.S b)/\B9 .u8 (q.F b (c+1))));refine⟨?_,Nat.succ_pos _,ts,λ(_i:Unit)=>p2R q b c v,λ(_i:Unit)=>.tup [],λ_=>rfl,?_,_,_,(b9H (I7 1 ts (λ(_i:Unit)=>True) (λ(_i:Unit)=>p2R q b c v) (λ(_i:Unit)=>.tup [])) ts q b c l k v).mpr ?_⟩
 ·refine j8 rfl ⟨λ_=>rfl,?_,⟨trivial,B8 hm0,trivial⟩⟩;simp[q9,z5,A0,z8,z3,nth,g9]
 ·intro _i _;rfl
 ·obtain⟨⟨v0,v1⟩,⟨hl,hD,hS⟩,hi⟩:=ho;have b1:wrap .u8 (shr .u16 v 8)=byI v 1:=a2j (k:=.u16) v 1 8 rfl (by decide);simp only[b8z v,b1];simp only[true_and,Int.reduceLE,Int.le_refl]
  and_intros
  all_goals first|omega|exact hD|exact hi|exact⟨(),trivial,rfl,trivial⟩
def b7m:List SV->RdM
 | [.agg [], .slc n 0 8 8, .int .u64 x]=>.read n λo0=>(match a2t o0 221 0 with
  | true=>(match y7 .u8 o0.c with
  | some (m0,g)=>.ret ⟨[.agg [], .slc 0 0 8 8, .int .u64 x],[(0,⟨true,221, .ints .u8 m0 g,0⟩)], .tup [],[(0,⟨true,221, .ints .u8 8 (byI x),0⟩)],[],some (m0=8/\0<=x/\x<18446744073709551616)⟩
  | none=>.fail)
  | false=>.fail)
 | _=>.fail
theorem b9z(x:Int)(g:Nat->Int){w9:HC}(e9:w9=⟨[.agg [], .slc 0 0 8 8, .int .u64 x],[(0,⟨true,221, .ints .u8 (8) g,0⟩)], .tup [],[(0,⟨true,221, .ints .u8 8 (byI x),0⟩)],[],some (8=8/\0<=x/\x<18446744073709551616)⟩){T1}(t1:T1=(((0:Int)<=7/\(7:Int)<8)/\1<=
 8)):J3 G0 1 [] [] (p9 f136) (A6 f136.ntmps w9.args w9.heap 1) (A8 G0.E.T f136.results.toList λS v=>D5 1 w9 S v)=(
 T1/\8<=8/\(((0:Int)<=0/\(0:Int)<8)/\1<=8)/\1<=8/\(0:Int)<=8/\(((0:Int)<=1/\(1:Int)<8)/\1<=8)/\2<=8/\(0:Int)<=16/\(((0:Int)<=2/\(2:Int)<8)/\1<=8)/\3<=8/\(0:Int)<=24/\(((0:Int)<=3/\(3:Int) <
 8)/\1<=8)/\4<=8/\(0:Int)<=32/\(((0:Int)<=4/\(4:Int)<8)/\1<=8)/\5<=8/\(0:Int)<=40/\(((0:Int)<=5/\(5:Int)<8)/\1<=8)/\6<=8/\(0:Int)<=48/\(((0:Int)<=6/\(6:Int)<8)/\1<=8)/\7<=8/\(0:Int)<=56/\T1/\
 8<=8/\True/\True/\(221=221/\0=0/\8<=8/\∀(i:Nat),i<8->upd (upd (upd (upd (upd (upd (upd (upd g 0 (wrap .u8 x)) 1 (wrap .u8 (shr IntKind.u64 x (8:Int)))) 2 (wrap .u8 (shr IntKind.u64 x (16:Int)))) 3
 (wrap .u8 (shr IntKind.u64 x (24:Int)))) 4 (wrap .u8 (shr IntKind.u64 x (32:Int)))) 5 (wrap .u8 (shr IntKind.u64 x (40:Int)))) 6 (wrap .u8 (shr IntKind.u64 x (48:Int)))) 7 (wrap .u8 (shr IntKind.u64 x
 (56:Int))) i=byI x i)/\True):=by subst e9 t1;kernel_rfl
theorem c7O:C4 prog 136 (B3 b7m):=by
 refine A5 g0 func136 rfl (by kernel_rfl) λargs=>?_
 unfold b7m;split;rotate_left;trivial;rename_i n x;intro o0;try dsimp only
 split;rotate_left;trivial;rename_i hrw0;try dsimp only
 split;rotate_left;trivial;rename_i m0 g hm0;intro(ho:m0=8/\0<=x/\x<18446744073709551616);obtain⟨hsz0,ho⟩:=ho;subst hsz0;refine⟨?_,_,_,(b9z x g rfl rfl).mpr ?_⟩
 ·refine j8 rfl ⟨?_,⟨trivial,Q6 hrw0 ((y6 hm0).1),trivial⟩⟩;simp[q9,z5,A0,z8,z3,nth,g9]
 ·have b1:wrap .u8 (shr .u64 x 8)=byI x 1:=a2j (k:=.u64) x 1 8 rfl (by decide);have b2:wrap .u8 (shr .u64 x 16)=byI x 2:=a2j (k:=.u64) x 2 16 rfl (by decide);have b3:wrap .u8 (shr .u64 x 24)=byI x 3:=a2j (k:=.u64) x 3 24 rfl (by decide);have b4:wrap .u8 (shr .u64 x 32)=byI x 4:=a2j (k:=.u64) x 4 32 rfl (by decide);have b5:wrap .u8 (shr .u64 x 40)=byI x 5:=a2j (k:=.u64) x 5 40 rfl (by decide);have b6:wrap .u8 (shr .u64 x 48)=byI x 6:=a2j (k:=.u64) x 6 48 rfl (by decide)
  have b7:wrap .u8 (shr .u64 x 56)=byI x 7:=a2j (k:=.u64) x 7 56 rfl (by decide);simp only[b8z x,b1,b2,b3,b4,b5,b6,b7]
  and_intros
  all_goals first|omega|trivial|decide|skip
  intro i hi
  match i,hi with
  | 0,_=>rfl
  | 1,_=>rfl
  | 2,_=>rfl
  | 3,_=>rfl
  | 4,_=>rfl
  | 5,_=>rfl
  | 6,_=>rfl
  | 7,_=>rfl
end
def H2(v:Value):Prop:=v=.int .u8 (p7 v)/\0<=p7 v/\p7 v<256
theorem H2.mk'{x:Int}(h:0<=x/\x<256):H2 (.int .u8 x):=⟨rfl,h.1,h.2⟩
theorem H2.i{v:Value}(h:H2 v):B9 .u8 v:=h.1
structure byO (q:RM) (b c l k:Nat):Prop where
 D:q.D b
 le:l<=k
 S:c+k<=q.S b
 is:∀ j,j<l->H2 (q.F b (c+j))
structure DI where
 q:RM
 b:Nat
 c:Nat
 l:Nat
 k:Nat
instance:Inhabited DI:=⟨⟨default,0,0,0,0⟩⟩
structure apd (q:RM) (b c l:Nat) (us:List Int) (i:DI):Prop where
 o:byO i.q i.b i.c i.l i.k
 n:i.l=l+us.length
 old:∀ j,j<l->i.q.F i.b (i.c+j)=q.F b (c+j)
 new:∀ j x,us[j]? = some x->i.q.F i.b (i.c+(l+j))=.int .u8 x
 keep:∀ x,q.D x->i.q.D x/\i.q.S x=q.S x/\(x≠b->∀ y,i.q.F x y=q.F x y)
 nw:i.b=b∨¬q.D i.b
theorem apd.trans{q:RM}{b c l:Nat}{us us':List Int}{i i':DI}(h:apd q b c l us i)(h':apd i.q i.b i.c i.l us' i'):apd q b c l (us++us') i' where
 o:=h'.o
 n:=by rw[h'.n,h.n,List.length_append];omega
 old:=λj hj=>by rw[h'.old j (by rw[h.n];omega),h.old j hj]
 new:=λj x hx=>by
  have hn:=h.n;by_cases hc:j<us.length
  ·rw[List.getElem?_append_left hc]at hx;rw[h'.old (l+j) (by omega)];exact h.new j x hx
  ·rw[List.getElem?_append_right (by omega)]at hx;have:=h'.new _ x hx;rw[hn]at this;rw[show l+j=l+us.length+(j-us.length) by omega];exact this
 keep:=λx hx=>by
  obtain⟨h1,h2,h3⟩:=h.keep x hx;obtain⟨h4,h5,h6⟩:=h'.keep x h1;refine⟨h4,h5.trans h2,λhne y=>?_⟩
  have hxb:x≠i.b:=λe=>by
   rcases h.nw with e2|e2
   ·exact hne (e.trans e2)
   ·exact e2 (e▸hx)
  rw[h6 hxb y,h3 hne y]
 nw:=by
  rcases h'.nw with e|e
  ·rcases h.nw with e2|e2
   ·exact .inl (e.trans e2)
   ·exact .inr (e▸e2)
  ·exact .inr λhx=>e (h.keep _ hx).1
theorem J7{q:RM}{b c l k m:Nat}(hO:byO q b c l k){us:List Int}(hm:m=us.length)(hu:∀ x∈us,0<=x/\x<256){vs:List Value}(hv:vs=us.map (Value.int .u8)){i:ApI}(hp:P1 q.D q.S q.F 1 b c l k m vs i) :
  apd q b c l us ⟨⟨i.D,i.S,i.F⟩,i.b,i.c,l+m,i.k⟩:=by
 subst hm hv
 have hget:∀ j,j<us.length->(us.map (Value.int .u8)).getD j (.bool false)=.int .u8 (us.getD j 0):=λj hj=>by
  simp[List.getD_eq_getElem?_getD,List.getElem?_eq_getElem hj]
 have hby:∀ j,j<us.length->0<=us.getD j 0/\us.getD j 0<256:=λj hj=>by
  rw[List.getD_eq_getElem?_getD,List.getElem?_eq_getElem hj,Option.getD_some];exact hu _ (List.getElem_mem hj)
 have main:∀(D':Nat->Prop)(S':Nat->Nat)(F':Nat->Nat->Value)(b' c' k':Nat),(∀ j,j<l->F' b' (c'+j)=q.F b (c+j))->(∀ j,j<us.length->F' b' (c'+(l+j))=.int .u8 (us.getD j 0))->D' b'->l+us.length<=k'->c'+k'<=S' b'->
   (∀ x,q.D x->D' x/\S' x=q.S x/\(x≠b->∀ y,F' x y=q.F x y))->(b'=b∨¬q.D b')->apd q b c l us ⟨⟨D',S',F'⟩,b',c',l+us.length,k'⟩:=by
  intro D' S' F' b' c' k' m1 m2 m3 m4 m5 m6 m7;refine⟨⟨m3,m4,m5,λj hj=>?_⟩,rfl,m1,λj x hx=>?_,m6,m7⟩
  ·have hj:j<l+us.length:=hj;show H2 (F' b' (c'+j));by_cases hc:j<l
   ·rw[m1 j hc];exact hO.is j hc
   ·have:=m2 (j-l) (by omega);rw[show l+(j-l)=j by omega]at this;rw[this];exact H2.mk' (hby _ (by omega))
  ·obtain⟨h1,h2⟩:=List.getElem?_eq_some_iff.1 hx;refine(m2 j h1).trans ?_;rw[List.getD_eq_getElem?_getD,hx];rfl
 have hS:=hO.S;rcases hp with⟨h1,h2,h3,h4,h5,h6,h7⟩|⟨h1,h2,h3,h4,h5,h6,h7,z,h8⟩
 ·rw[h2,h3,h4,h5,h6,h7];simp only[Nat.mul_one];refine main _ _ _ _ _ _ (λj hj=>a0n (by omega)) (λj hj=>?_) hO.D h1 hS (λx hx=>⟨hx,rfl,λhne y=>a0n (.inl hne)⟩) (.inl rfl);rw[a3E,if_pos ⟨rfl,by omega,by simp;omega⟩,show c+(l+j)-(c+l)=j by omega];exact hget j hj
 ·rw[h3,h6,h7,h8];simp only[Nat.mul_one];refine main _ _ _ _ _ _ (λj hj=>?_) (λj hj=>?_) (.inl rfl) h4 (by simp[D8]) (λx hx=>?_) (.inr h2)
  ·simp only[C8,if_true,a4W];rw[if_pos (by omega)];congr 1;omega
  ·simp only[C8,if_true,a4W];rw[if_neg (by omega),if_pos (by simp;omega),show 0+(l+j)-l=j by omega];exact hget j hj
  ·have hne:x≠i.b:=λe=>h2 (e▸hx)
   exact⟨.inr hx,by simp only[D8];rw[if_neg hne],λ_ y=>by simp only[C8];rw[if_neg hne]⟩
theorem K6{q:RM}{b c l k m:Nat}(hO:byO q b c l k)(hl:l<=1000000000)(hm:m<=1000):appO q.D q.S 1 1 b c l k m:=by
 have h1:=hO.le;have h2:=hO.S;exact⟨λh=>⟨hO.D,by omega⟩,λh=>⟨hO.D,by omega⟩,by omega,by simp only[maxLen];omega⟩
theorem apd.put{q:RM}{b c l:Nat}{us us':List Int}{i:DI}(h:apd q b c l us i)(hlen:us'.length=us.length)(hu:∀ x∈us',0<=x/\x<256){q':RM}(hD:q'.D=i.q.D)(hS:q'.S=i.q.S)
  (hF:∀ x y,(x≠i.b∨y<i.c+l∨i.c+l+us.length<=y)->q'.F x y=i.q.F x y) (hN:∀ j x,us'[j]? = some x->q'.F i.b (i.c+(l+j))=.int .u8 x):apd q b c l us' ⟨q',i.b,i.c,i.l,i.k⟩ where
 o:=by
  refine⟨by rw[hD];exact h.o.D,h.o.le,by rw[hS];exact h.o.S,λj hj=>?_⟩;have hj:j<i.l:=hj;have hn:=h.n;show H2 (q'.F i.b (i.c+j));by_cases hc:j<l
  ·rw[hF _ _ (by omega)];exact h.o.is j hj
  ·have hlt:j-l<us'.length:=by omega
   have:=hN (j-l) _ (List.getElem?_eq_getElem hlt);rw[show l+(j-l)=j by omega]at this;rw[this];exact H2.mk' (hu _ (List.getElem_mem hlt))
 n:=by rw[hlen];exact h.n
 old:=λj hj=>by
  show q'.F i.b (i.c+j)=_;rw[hF _ _ (by omega)];exact h.old j hj
 new:=hN
 keep:=λx hx=>by
  obtain⟨h1,h2,h3⟩:=h.keep x hx;refine⟨by show q'.D x;rw[hD];exact h1,by show q'.S x=_;rw[hS];exact h2,λhne y=>?_⟩
  have hxb:x≠i.b:=λe=>by
   rcases h.nw with e2|e2
   ·exact hne (e.trans e2)
   ·exact e2 (e▸hx)
  show q'.F x y=_;rw[hF _ _ (.inl hxb)];exact h3 hne y
 nw:=h.nw
def byL(v:Int)(n:Nat):List Int:=(List.range n).map (byI v)
theorem a2s(v:Int)(n:Nat):∀ x∈byL v n,0<=x/\x<256:=λx hx=>by
 obtain⟨j,_,rfl⟩:=List.mem_map.1 hx;exact V5 v j
theorem F5(v:Int)(n:Nat):(byL v n).length=n:=by simp[byL]
theorem b3u{v:Int}{n j:Nat}{x:Int}(h:(byL v n)[j]? = some x):j<n/\x=byI v j:=by
 obtain⟨h1,h2⟩:=List.getElem?_eq_some_iff.1 h;rw[F5]at h1;exact⟨h1,by rw[<-h2];simp[byL]⟩
open Int (toNat)
noncomputable section
def X6:F3:=⟨G0,[(121,o9 Unit ⟨()⟩ a7F),(132,o9 Unit ⟨()⟩ b5x)],[],[],[(185,0)]⟩
theorem x6:A7 prog X6:=⟨g0,q8.cons b8w (q8.cons c8y q8.nil)⟩
theorem c3b{q:RM}{b c l:Nat}{i:DI}{v:Int}(h:apd q b c l [0,0] i){t:Nat}(ht:t=l):apd q b c l (byL v 2) ⟨p2R i.q i.b (i.c+t) (wrap .u16 v),i.b,i.c,i.l,i.k⟩:=by
 subst ht;refine h.put (us':=byL v 2) rfl (a2s _ _) rfl rfl (λx y hxy=>?_) λj x hx=>?_
 ·simp only[List.length_cons,List.length_nil]at hxy;show pB _ _ _ _ _ x y=_;unfold pB;rw[b9 (by omega),b9 (by omega)]
 ·obtain⟨hj,rfl⟩:=b3u hx
  have e:∀ j,j<2->byI (wrap .u16 v) j=byI v j:=λj hj=>by
   have hw:wrap .u16 v=v % 65536:=rfl;rw[hw]
   match j,hj with
   | 0,_=>simp only[byI,Int.pow_zero,Int.ediv_one];omega
   | 1,_=>simp only[byI,Int.pow_one];omega
  show pB _ _ _ _ _ i.b _=_;unfold pB
  match j,hj with
  | 0,_=>rw[b9 (by omega),e 0 (by omega)];exact A2
  | 1,_=>rw[e 1 (by omega),Nat.add_assoc];exact A2
theorem c3t{q:RM}{b c l:Nat}{i:DI}{v:Int}(h:apd q b c l [0,0,0,0] i){t:Nat}(ht:t=l):apd q b c l (byL v 4) ⟨p4R i.q i.b (i.c+t) v,i.b,i.c,i.l,i.k⟩:=by
 subst ht;refine h.put (us':=byL v 4) rfl (a2s _ _) rfl rfl (λx y hxy=>?_) λj x hx=>?_
 ·simp only[List.length_cons,List.length_nil]at hxy;show pB _ _ _ _ _ x y=_;unfold pB;rw[b9 (by omega),b9 (by omega),b9 (by omega),b9 (by omega)]
 ·obtain⟨hj,rfl⟩:=b3u hx;show pB _ _ _ _ _ i.b _=_;unfold pB
  match j,hj with
  | 0,_=>rw[b9 (by omega),b9 (by omega),b9 (by omega)];exact A2
  | 1,_=>rw[b9 (by omega),b9 (by omega),Nat.add_assoc];exact A2
  | 2,_=>rw[b9 (by omega),Nat.add_assoc];exact A2
  | 3,_=>rw[Nat.add_assoc];exact A2
def a5g:List SV->RRd (DI)
 | [.slb n b c l k, .int .u32 v, .int .u8 w]=>.read n λo0=>(match I5 o0 with
  | some (ts,q)=>.ret ⟨[.slb 0 b c l k, .int .u32 v, .int .u8 w],[(0,rwO ts q)],some (((byO q b c l k/\l<=1000000000)/\(0<=v/\v<4294967296)/\(w=1∨w=2∨w=4))),λi=>apd q b c l (byL v w.toNat) i,λi=>⟨[],[], .slb 0 i.b i.c i.l i.k,[(0,rwO ts (i.q))],[],none⟩⟩
  | none=>.fail)
 | _=>.fail
theorem b5g(R:Option Ob->SV->Prop)(ts:List Nat)(q:RM)(b c l k:Nat)(v w:Int){T1}(t1:T1=(wrap .i64 ((↑(l+4):Int)-4))){T2}(t2:T2=(wrap .i64 ((↑(l+2):Int)-2))){T3}(t3:T3=(wrap IntKind.u16 v)):K8 X6 1 [] [] (p9 f126) (A6 f126.ntmps [.slb 0 b c l k, .int .u32 v, .int .u8 w] [(0,rwO ts q)] 1) (A8 X6.G.E.T f126.results.toList λS v=>R (Go.Sx.look S.H 0) v)=(
 ((w==(1:Int))=true->∀(i:ApI),appO (RM.D q) q.2 1 1 b c l k 1/\(P1 (RM.D q) q.2 q.3 1 b c l k 1 [Value.int .u8 (wrap .u8 v)] i->R (Option.some (Ob.mk true 0 (a9.raw ts (ApI.D i) i.5 i.6) 0)) (SV.slb 0 i.1 i.2 (l+1) i.3)))/\
 ((w==(1:Int))=false->((w==(2:Int))=true->∀(i:ApI),appO (RM.D q) q.2 1 1 b c l k 2/\(P1 (RM.D q) q.2 q.3 1 b c l k 2 [Value.int .u8 (0:Int),Value.int .u8 (0:Int)] i->∀(_:Unit),((0:Int)<=wrap .i64 ((↑(l+2) :
 Int)-2)/\toNat T2<=l+2/\toNat T2<i.3)/\(((0:Int)<=wrap IntKind.u16 v/\wrap IntKind.u16 v<(65536:Int))/\(2<=l+2-toNat T2/\i.4 i.1/\i.2+toNat T2*1+2<=i.5 i.1)/\B9 .u8 (i.6 i.1 (i.2 +
 toNat T2*1+1)))/\true=true/\(True->R (Option.some (Ob.mk true 0 (a9.raw ts (RM.D (p2R (RM.mk (ApI.D i) (ApI.S i) (ApI.F i)) (ApI.b i) (ApI.c i+toNat T2*TI.size ty5) T3)) i.5 (pB (pB i.6 i.1 (i.2+toNat T2*1) T3 0) i.1
 (i.2+toNat T2*1) T3 1)) 0)) (SV.slb 0 i.1 i.2 (l+2) i.3))))/\((w==(2:Int))=false->∀(i:ApI),appO (RM.D q) q.2 1 1 b c l k 4/\(P1 (RM.D q) q.2 q.3 1 b c l k 4 [Value.int .u8 (0:Int),Value.int .u8 (0:Int),Value.int .u8 (0
 : Int),Value.int .u8 (0:Int)] i->∀(_:Unit),((0:Int)<=wrap .i64 ((↑(l+4):Int)-4)/\toNat T1<=l+4/\toNat T1<i.3)/\(((0:Int)<=v/\v<(4294967296:Int))/\(4<=l+4-toNat T1/\i.4 i.1/\i.2+toNat
 T1*1+4<=i.5 i.1)/\B9 .u8 (i.6 i.1 (i.2+toNat T1*1+3)))/\true=true/\(True->R (Option.some (Ob.mk true 0 (a9.raw ts (RM.D (p4R (RM.mk (ApI.D i) (ApI.S i) (ApI.F i)) (ApI.b i) (ApI.c i+toNat T1*TI.size ty5) v)) i.5 (pB
 (pB (pB (pB i.6 i.1 (i.2+toNat T1*1) v 0) i.1 (i.2+toNat T1*1) v 1) i.1 (i.2+toNat T1*1) v 2) i.1 (i.2+toNat (wrap .i64 ((↑(l+4):Int)-(4:Int)))*1) v 3)) 0)) (SV.slb 0 i.1 i.2 (l+4) i.3)))))):=by subst t1 t2 t3;kernel_rfl
theorem b7Q:z0 prog 126 (o9 (DI) ⟨default⟩ a5g):=by
 refine D7 x6 func126 rfl (by kernel_rfl) λargs=>?_
 unfold a5g;split;rotate_left;trivial;rename_i n b c l k v w;intro o0;try dsimp only
 split;rotate_left;trivial;rename_i ts q hm0;intro(ho:((byO q b c l k/\l<=1000000000)/\(0<=v/\v<4294967296)/\(w=1∨w=2∨w=4)));refine⟨?_,Nat.succ_pos _,ts,λ(i:DI)=>i.q,λ(i:DI)=>.slb 0 i.b i.c i.l i.k,λ_=>rfl,?_,_,_,(b5g (I7 1 ts (λ(i:DI)=>apd q b c l (byL v w.toNat) i) (λ(i:DI)=>i.q) (λ(i:DI)=>.slb 0 i.b i.c i.l i.k)) ts q b c l k v w rfl rfl rfl).mpr ?_⟩
 ·refine j8 rfl ⟨λ_=>rfl,?_,⟨trivial,B8 hm0,trivial⟩⟩;simp[q9,z5,A0,z8,z3,nth,g9]
 ·intro i _;rfl
 ·obtain⟨⟨hO,hl⟩,hv,hw⟩:=ho;simp only[true_and,eq_self,Nat.mul_one,true_implies];refine⟨λh1=>?_,λh1=>⟨λh2=>?_,λh2=>?_⟩⟩
  ·have h1:w=1:=by simpa using h1
   subst h1;refine λi=>⟨K6 hO hl (by omega),λhp=>⟨⟨⟨i.D,i.S,i.F⟩,i.b,i.c,l+1,i.k⟩,?_,rfl,⟨trivial,rfl,rfl,rfl,rfl⟩⟩⟩
   refine J7 hO rfl (a2s _ _) ?_ hp;show _=[Value.int .u8 (byI v 0)];rw[b8z]
  ·have h2:w=2:=by simpa using h2
   subst h2;intro i;refine⟨K6 hO hl (by omega),λhp=>?_⟩;have ha:=J7 hO (us:=[0,0]) rfl (by decide) rfl hp;have hw2:IntKind.i64.wrap (((l+2:Nat):Int)-2)=((l:Nat):Int):=by rw[j5 (by omega) (by omega)];omega
   have hk:l+2<=i.k:=ha.o.le;have hS:i.c+i.k<=i.S i.b:=ha.o.S;have hD:i.D i.b:=ha.o.D;have hby:=ha.o.is (l+1) (by show l+1<l+2;omega);have hr:(0:Int)<=wrap .u16 v/\wrap .u16 v<65536:=⟨Int.emod_nonneg _ (by decide),Int.emod_lt_of_pos _ (by decide)⟩;simp only[hw2,tN9,hr,hD,true_and,and_true];intro _
   and_intros
   all_goals first|omega|exact hby.i|exact⟨⟨_,_,_,_,_⟩,c3b ha rfl,rfl,⟨trivial,rfl,rfl,rfl,rfl⟩⟩
  ·have h3:w=4:=by
    rcases hw with rfl|rfl|rfl
    ·exact absurd h1 (by decide)
    ·exact absurd h2 (by decide)
    ·rfl
   subst h3;intro i;refine⟨K6 hO hl (by omega),λhp=>?_⟩;have ha:=J7 hO (us:=[0,0,0,0]) rfl (by decide) rfl hp;have hw2:IntKind.i64.wrap (((l+4:Nat):Int)-4)=((l:Nat):Int):=by rw[j5 (by omega) (by omega)];omega
   have hk:l+4<=i.k:=ha.o.le;have hS:i.c+i.k<=i.S i.b:=ha.o.S;have hD:i.D i.b:=ha.o.D;have hby:=ha.o.is (l+3) (by show l+3<l+4;omega);simp only[hw2,tN9,hD,true_and];intro _
   and_intros
   all_goals first|omega|exact hby.i|exact⟨⟨_,_,_,_,_⟩,c3t ha rfl,rfl,⟨trivial,rfl,rfl,rfl,rfl⟩⟩
def GB:Ctx:=⟨⟨tys,[]⟩,[(110,z4 b0X),(136,B3 b7m)]⟩
theorem gB:B7 prog GB:=⟨⟨E1,FlatsOk.nil⟩,j9.cons (.pure bits) (j9.cons c7O j9.nil),by kernel_rfl⟩
def X7:F3:=⟨GB,[],[],[],[(185,0)]⟩
theorem x7:A7 prog X7:=⟨gB,q8.nil⟩
def a9I:List SV->RRd (DI)
 | [.slb n b c l k, .flt .f64 x]=>.read n λo0=>(match I5 o0 with
  | some (ts,q)=>.ret ⟨[.slb 0 b c l k, .flt .f64 x],[(0,rwO ts q)],some (((byO q b c l k/\l<=1000000000)/\x<18446744073709551616)),λi=>apd q b c l (byL (x:Int) 8) i,λi=>⟨[],[], .slb 0 i.b i.c i.l i.k,[(0,rwO ts (i.q))],[],none⟩⟩
  | none=>.fail)
 | _=>.fail
theorem b4J(R:Option Ob->SV->Prop)(ts:List Nat)(q:RM)(b c l k:Nat)(x:Nat){T1}(t1:T1=(↑x:Int)):K8 X7 1 [] [] (p9 f131) (A6 f131.ntmps [.slb 0 b c l k, .flt .f64 x] [(0,rwO ts q)] 1) (A8 X7.G.E.T f131.results.toList λS v=>R (Go.Sx.look S.H 0) v)=(
 (8=8/\0<=T1/\T1<18446744073709551616)/\true=true/\0<8/\∀(i:ApI),(8<=8/\appO (RM.D q) q.2 1 1 b c l k 8)/\(P1 (RM.D q) q.2 q.3 1 b c l k 8 [Value.int .u8 (byI T1 0),Value.int .u8 (byI T1 1),Value.int .u8 (byI T1 2),Value.int
 .u8 (byI T1 3),Value.int .u8 (byI T1 4),Value.int .u8 (byI T1 5),Value.int .u8 (byI T1 6),Value.int .u8 (byI T1 7)] i->R (Option.some (Ob.mk true 0 (a9.raw ts (ApI.D i) i.5 i.6) 0)) (SV.slb 0 i.1 i.2 (l+8) i.3))):=by subst t1;kernel_rfl
theorem c3h:z0 prog 131 (o9 (DI) ⟨default⟩ a9I):=by
 refine D7 x7 func131 rfl (by kernel_rfl) λargs=>?_
 unfold a9I;split;rotate_left;trivial;rename_i n b c l k x;intro o0;try dsimp only
 split;rotate_left;trivial;rename_i ts q hm0;intro(ho:((byO q b c l k/\l<=1000000000)/\x<18446744073709551616));refine⟨?_,Nat.succ_pos _,ts,λ(i:DI)=>i.q,λ(i:DI)=>.slb 0 i.b i.c i.l i.k,λ_=>rfl,?_,_,_,(b4J (I7 1 ts (λ(i:DI)=>apd q b c l (byL (x:Int) 8) i) (λ(i:DI)=>i.q) (λ(i:DI)=>.slb 0 i.b i.c i.l i.k)) ts q b c l k x rfl).mpr ?_⟩
 ·refine j8 rfl ⟨λ_=>rfl,?_,⟨trivial,B8 hm0,trivial⟩⟩;simp[q9,z5,C0,z8,z3,nth,g9]
 ·intro i _;rfl
 ·obtain⟨⟨hO,hl⟩,hx⟩:=ho;simp only[true_and,eq_self];refine⟨⟨by omega,by omega⟩,by omega,λi=>⟨⟨by omega,K6 hO hl (by omega)⟩,λhp=>⟨⟨⟨i.D,i.S,i.F⟩,i.b,i.c,l+8,i.k⟩,?_,rfl,⟨trivial,rfl,rfl,rfl,rfl⟩⟩⟩⟩;exact J7 hO (us:=byL (x:Int) 8) rfl (a2s _ _) rfl hp
end
def leN(g:Nat->Int)(p:Nat):Nat->Int
 | 0=>0
 | n+1=>g p+256*leN g (p+1) n
theorem L5{g g':Nat->Int}:∀ {n p:Nat},(∀ j,j<n->g' (p+j)=g (p+j))->leN g' p n=leN g p n
 | 0,_,_=>rfl
 | n+1,p,h=>by
  have h0:=h 0 (by omega);rw[Nat.add_zero]at h0;show g' p+256*leN g' (p+1) n=g p+256*leN g (p+1) n
  have h1:leN g' (p+1) n=leN g (p+1) n:=L5 λj hj=>by
   have:=h (j+1) (by omega);rw[show p+1+j=p+(j+1) by omega];exact this
  rw[h0,h1]
theorem b3x(v:Int):byI v 0=v % 256:=by simp[byI]
theorem c0v{g:Nat->Int}{v:Int}{p:Nat}(h:∀ j,j<1->g (p+j)=byI v j)(h0:0<=v)(h1:v<256):leN g p 1=v:=by
 have e0:=h 0 (by omega);simp only[Nat.add_zero,b3x]at e0;simp only[leN,e0];omega
theorem c0q{g:Nat->Int}{v:Int}{p:Nat}(h:∀ j,j<2->g (p+j)=byI v j)(h0:0<=v)(h1:v<65536):leN g p 2=v:=by
 have e0:=h 0 (by omega);have e1:g (p+1)=v / 256 % 256:=h 1 (by omega);simp only[Nat.add_zero,b3x]at e0;simp only[leN,e0,e1];omega
theorem b1x{g:Nat->Int}{v:Int}{p:Nat}(h:∀ j,j<4->g (p+j)=byI v j)(h0:0<=v)(h1:v<4294967296):leN g p 4=v:=by
 have e0:=h 0 (by omega);have e1:g (p+1)=v / 256 % 256:=h 1 (by omega);have e2:g (p+1+1)=v / 65536 % 256:=h 2 (by omega);have e3:g (p+1+1+1)=v / 16777216 % 256:=h 3 (by omega);simp only[Nat.add_zero,b3x]at e0;simp only[leN,e0,e1,e2,e3];omega
theorem c6v{g:Nat->Int}{v:Int}{p:Nat}(h:∀ j,j<8->g (p+j)=byI v j)(h0:0<=v)(h1:v<18446744073709551616):leN g p 8=v:=by
 have e0:=h 0 (by omega);have e1:g (p+1)=v / 256 % 256:=h 1 (by omega);have e2:g (p+1+1)=v / 65536 % 256:=h 2 (by omega);have e3:g (p+1+1+1)=v / 16777216 % 256:=h 3 (by omega);have e4:g (p+1+1+1+1)=v / 4294967296 % 256:=h 4 (by omega);have e5:g (p+1+1+1+1+1)=v / 1099511627776 % 256:=h 5 (by omega);have e6:g (p+1+1+1+1+1+1)=v / 281474976710656 % 256:=h 6 (by omega);have e7:g (p+1+1+1+1+1+1+1)=v / 72057594037927936 % 256:=h 7 (by omega);simp only[Nat.add_zero,b3x]at e0;simp only[leN,e0,e1,e2,e3,e4,e5,e6,e7];omega
def fl8(g:Nat->Int)(p:Nat)(n:Int):Prop:=∃ x:Nat,leN g p 8=(x:Int)/\FI x n/\n.natAbs<=4194304
def a1U(g:Nat->Int)(a:Nat)(B:Bx):Prop:=fl8 g a B.x0/\fl8 g (a+8) B.y0/\fl8 g (a+16) B.x1/\fl8 g (a+24) B.y1
structure EK where
 a:Nat
 e:Nat
 its:List (Int×Bx)
 B:Bx
def Z1(g:Nat->Int):Nat->Nat->Nat->List (Int×Bx)->Bx->Prop
 | 0,a,e,its,B=>a1U g a B/\g (a+32)=(its.length:Nat)/\(∀ it∈its,D6 B it.2)/\∃ w:Nat,(w=1∨w=2∨w=4)/\g (a+33)=(w:Nat)/\a+34+w*its.length<=e/\∀ j it,its[j]? = some it->leN g (a+34+w*j) w=it.1
 | h+1,a,e,its,B=>a1U g a B/\(∀ it∈its,D6 B it.2)/\∃ ks:List EK,its=ks.flatMap (·.its)/\g (a+32)=(ks.length:Nat)/\a+33+4*ks.length<=e/\
   ∀ j k,ks[j]? = some k->leN g (a+33+4*j) 4=(k.a:Nat)/\a+33+4*ks.length<=k.a/\k.e<=e/\Z1 g h k.a k.e k.its k.B
theorem a2k{g g':Nat->Int}{p:Nat}{n:Int}(h:fl8 g p n)(hg:∀ j,j<8->g' (p+j)=g (p+j)):fl8 g' p n:=by
 obtain⟨x,h1,h2⟩:=h;exact⟨x,by rw[L5 hg];exact h1,h2⟩
theorem a0I{g g':Nat->Int}{a:Nat}{B:Bx}(h:a1U g a B)(hg:∀ j,j<32->g' (a+j)=g (a+j)):a1U g' a B:=by
 obtain⟨h1,h2,h3,h4⟩:=h;refine⟨a2k h1 λj hj=>hg j (by omega),a2k h2 λj hj=>?_,a2k h3 λj hj=>?_,a2k h4 λj hj=>?_⟩
 ·rw[Nat.add_assoc];exact hg _ (by omega)
 ·rw[Nat.add_assoc];exact hg _ (by omega)
 ·rw[Nat.add_assoc];exact hg _ (by omega)
theorem a1N{g g':Nat->Int}:∀ {h a e:Nat} {its:List (Int×Bx)} {B:Bx},Z1 g h a e its B->(∀ p,a<=p->p<e->g' p=g p)->Z1 g' h a e its B
 | 0,a,e,its,B,⟨h1,h2,h2b,w,h3,h4,h5,h6⟩,hg=>by
  refine⟨a0I h1 λj hj=>hg _ (by omega) (by omega),by rw[hg _ (by omega) (by omega)];exact h2,h2b,w,h3,by rw[hg _ (by omega) (by omega)];exact h4,h5,λj it hj=>?_⟩;have hlt:=(List.getElem?_eq_some_iff.1 hj).1;have hm:w*(j+1)<=w*its.length:=Nat.mul_le_mul_left w hlt;rw[Nat.mul_add,Nat.mul_one]at hm;rw[L5 λi hi=>hg _ (by omega) (by omega)];exact h6 j it hj
 | h+1,a,e,its,B,⟨h1,h2,ks,h3,h4,h5,h6⟩,hg=>by
  refine⟨a0I h1 λj hj=>hg _ (by omega) (by omega),h2,ks,h3,by rw[hg _ (by omega) (by omega)];exact h4,h5,λj k hj=>?_⟩;obtain⟨k1,k2,k3,k4⟩:=h6 j k hj;have hlt:=(List.getElem?_eq_some_iff.1 hj).1;exact⟨by rw[L5 λi hi=>hg _ (by omega) (by omega)];exact k1,k2,k3,a1N k4 λp p1 p2=>hg p (by omega) (by omega)⟩
theorem isTr.has{q:RM}:∀ {h:Nat} {k:Kid},isTr q h k->∀ it∈k.its,D6 k.B it.2
 | 0,k,⟨_,_,_,h4⟩,it,hit=>h4.1 _ (List.mem_map.2 ⟨it,hit,rfl⟩)
 | h+1,k,⟨ks,_,_,_,h4,_,h6,h7⟩,it,hit=>by
  rw[h4]at hit;obtain⟨x,hx,hit⟩:=List.mem_flatMap.1 hit;exact a0y (h6.1 _ (List.mem_map.2 ⟨x,hx,rfl⟩)) ((h7 x hx).1.has it hit)
theorem isTr.cnt{q:RM}:∀ {h:Nat} {k:Kid},isTr q h k->k.n<=k.its.length
 | 0,k,⟨_,h2,_,_⟩=>Nat.le_of_eq h2
 | h+1,k,⟨ks,h1,_,_,h4,_,_,h7⟩=>by
  rw[h1,h4]
  have key:∀ l:List Kid,(∀ x∈l,1<=x.its.length)->l.length<=(l.flatMap (·.its)).length:=by
   intro l
   induction l with
   | nil=>intro _;simp
   | cons x r ih =>
    intro hl;have h5:=hl x (by simp);have h6:=ih λy hy=>hl y (by simp[hy])
    simp only[List.flatMap_cons,List.length_append,List.length_cons];omega
  exact key ks λx hx=>Nat.le_trans (h7 x hx).2.1 (h7 x hx).1.cnt
structure W5 (q:RM) (rb rc h:Nat) (k:Kid) (b:Nat):Prop where
 D:q.D rb
 S:rc+5<=q.S rb
 ref:q.F rb rc=.iface 207 (.pointer (some ⟨k.b,0,none⟩))
 box:isBox q.F rb rc k.B
 tr:isTr q h k
 n:1<=k.n
 rk:k.b≠rb
 nd:k.fp.Nodup
 br:b≠rb
 bf:b∉k.fp
 it:∀ x∈k.its,0<=x.1/\x.1<4294967296
theorem W5.keep{q:RM}{rb rc h:Nat}{k:Kid}{b c l:Nat}{us:List Int}{i:DI}(ha:W5 q rb rc h k b)(hp:apd q b c l us i):W5 i.q rb rc h k i.b:=by
 have hr:=hp.keep _ ha.D;have hrF:=hr.2.2 (Ne.symm ha.br)
 have hne:∀ x,q.D x->x≠b->i.b≠x:=λx hx hxb e=>by
  rcases hp.nw with h1|h1
  ·exact hxb (e.symm.trans h1)
  ·exact h1 (e▸hx)
 refine⟨hr.1,by rw[hr.2.1];exact ha.S,by rw[hrF];exact ha.ref,D0 (λk _=>hrF _) ha.box,ha.tr.same λx hx=>?_,ha.n,ha.rk,ha.nd,hne _ ha.D (Ne.symm ha.br),λhm=>hne _ (ha.tr.D _ hm) (λe=>ha.bf (e▸hm)) rfl,ha.it⟩;have h1:=hp.keep x (ha.tr.D x hx);exact⟨h1.1,h1.2.1,h1.2.2 λe=>ha.bf (e▸hx)⟩
def bG(i:DI)(p:Nat):Int:=p7 (i.q.F i.b (i.c+p))
def b2a(q:RM)(rb rc b c l h:Nat)(i:DI):Prop:=∀ k,W5 q rb rc h k b->l+102*((h+1)*k.its.length)<=100000000->∃ us,apd q b c l us i/\us.length<=102*((h+1)*k.its.length)/\Z1 (bG i) h l i.l k.its k.B
def b4C(q:RM)(rb rc b c l kk h:Nat):Prop:=byO q b c l kk/\∃ k,W5 q rb rc h k b/\l+102*((h+1)*k.its.length)<=100000000
noncomputable def ndN(q:RM)(nb:Nat):Nat:=(A3 q nb).length
noncomputable def hdL(q:RM)(rb rc:Nat):List Int:=byL (j6 (q.F rb (rc+1)):Nat) 8++byL (j6 (q.F rb (rc+2)):Nat) 8++byL (j6 (q.F rb (rc+3)):Nat) 8++byL (j6 (q.F rb (rc+4)):Nat) 8++[((ndN q (kb (q.F rb rc)):Nat):Int)]
def itI(q:RM)(nb t:Nat):Int:=p7 (K0 (q.F nb (1+5*t)))
structure C1 where
 i:DI
 j:Nat
 w:Int
structure C3 where
 i:DI
 j:Nat
 g:Nat->Int
def wOk(w:Int):Prop:=w=1∨w=2∨w=4
noncomputable def c1P(q:RM)(rb rc b c l:Nat)(p:C1):Prop:=apd q b c l (hdL q rb rc) p.i/\p.j<=ndN q (kb (q.F rb rc))/\wOk p.w/\∀ t,t<p.j->nbI (itI q (kb (q.F rb rc)) t)<=p.w
noncomputable def c2P(q:RM)(rb rc b c l:Nat)(p:C1):Prop:=apd q b c l (hdL q rb rc++[p.w]++(List.range p.j).flatMap λt=>byL (itI q (kb (q.F rb rc)) t) p.w.toNat) p.i/\p.j<=ndN q (kb (q.F rb rc))/\wOk p.w/\∀ t,t<ndN q (kb (q.F rb rc))->nbI (itI q (kb (q.F rb rc)) t)<=p.w
noncomputable def c3P(q:RM)(rb rc b c l:Nat)(p:C3):Prop:=apd q b c l (hdL q rb rc++List.replicate (4*p.j) 0) p.i/\p.j<=ndN q (kb (q.F rb rc))/\∀ t,t<p.j->p.g t=((l+(33+4*t):Nat):Int)
def c4K(q:RM)(b c l h:Nat)(p:C3)(k:Kid):Prop:=∃ us,apd q b c l us p.i/\a1U (bG p.i) l k.B/\bG p.i (l+32)=(k.n:Nat)/\33+4*k.n<=us.length/\
  ∃ A B:List Kid,A.length=p.j/\k.its=(A++B).flatMap (·.its)/\F1 q k.b ((A++B).map E5)/\(∀ x∈A++B,isTr q h x/\1<=x.n/\x.fp.Nodup/\k.b∉x.fp/\∀ y∈x.fp,y∈k.fp)/\us.length<=33+4*k.n+102*((h+1)*(A.flatMap (·.its)).length)/\
   ∀ t x,A[t]? = some x->∃ a e,leN (bG p.i) (l+33+4*t) 4=(a:Nat)/\l+33+4*k.n<=a/\e<=p.i.l/\Z1 (bG p.i) h a e x.its x.B
noncomputable def c4P(q:RM)(rb rc b c l h:Nat)(p:C3):Prop:=p.j<=ndN q (kb (q.F rb rc))/\(∀ t,t<ndN q (kb (q.F rb rc))->p.g t=((l+(33+4*t):Nat):Int))/\
 ∀ k,W5 q rb rc (h+1) k b->l+102*((h+2)*k.its.length)<=100000000->c4K q b c l h p k
theorem b9y{α:Type}{A X C:List α}{j:Nat}(h:j<X.length):(A++X++C)[A.length+j]? = X[j]? := by
 rw[List.append_assoc,List.getElem?_append_right (by omega),List.getElem?_append_left (by omega)];congr 1;omega
theorem W2{f:Nat->List Int}{w:Nat}(h:∀ t,(f t).length=w):∀ n,((List.range n).flatMap f).length=w*n
 | 0=>by simp
 | n+1=>by rw[List.range_succ,List.flatMap_append,List.length_append,W2 h n];simp[h,Nat.mul_succ]
theorem a6E{f:Nat->List Int}{w:Nat}(h:∀ t,(f t).length=w){t s:Nat}(hs:s<w):∀ {n:Nat},t<n->((List.range n).flatMap f)[w*t+s]? = (f t)[s]?
 | 0,ht=>absurd ht (Nat.not_lt_zero t)
 | n+1,ht=>by
  rw[List.range_succ,List.flatMap_append];by_cases c:t<n
  ·rw[List.getElem?_append_left (by rw[W2 h];have:=Nat.mul_le_mul_left w c;rw[Nat.mul_succ]at this;omega)];exact a6E h hs c
  ·have:t=n:=by omega
   subst this;rw[List.getElem?_append_right (by rw[W2 h];omega),W2 h];simp
section
variable {q:RM} {rb rc h b c l:Nat} {k:Kid}
theorem a0M{us:List Int}{i:DI}(hp:apd q b c l us i){j:Nat}{x:Int}(hx:us[j]? = some x):bG i (l+j)=x:=by
 unfold bG;rw[hp.new j x hx];rfl
theorem S4:(hdL q rb rc).length=33:=by
 simp[hdL,F5]
theorem W5.node(ha:W5 q rb rc h k b):F1 q k.b (A3 q k.b)/\ndN q k.b=k.n/\kb (q.F rb rc)=k.b/\isRef (q.F rb rc)/\k.n<=17:=by
 obtain⟨l',h1,h2,h3⟩:=ha.tr.nd;have hn:F1 q k.b (A3 q k.b):=by rw[h1.of];exact h1
 have hl:ndN q k.b=k.n:=by unfold ndN;rw[h1.of];exact h2
 exact⟨hn,hl,by rw[ha.ref];rfl,by rw[ha.ref];rfl,by rw[<-hl];exact hn.le⟩
theorem W5.off(ha:W5 q rb rc h k b){us:List Int}{i:DI}(hp:apd q b c l us i):(i.q.D k.b/\i.q.S k.b=86/\∀ y,i.q.F k.b y=q.F k.b y)/\i.q.D rb/\rc+5<=i.q.S rb/\∀ y,i.q.F rb y=q.F rb y:=by
 obtain⟨n1,_⟩:=ha.node;have h1:=hp.keep _ n1.D;have h2:=hp.keep _ ha.D;exact⟨⟨h1.1,h1.2.1.trans n1.S,h1.2.2 λe=>ha.bf (e▸ha.tr.fp0)⟩,h2.1,by rw[h2.2.1];exact ha.S,h2.2.2 (Ne.symm ha.br)⟩
theorem W5.cnt(ha:W5 q rb rc h k b){us:List Int}{i:DI}(hp:apd q b c l us i):i.q.F k.b 0=.int .i64 (k.n:Nat)/\p7 (i.q.F k.b 0)=(k.n:Nat):=by
 obtain⟨n1,n2,_⟩:=ha.node;have:i.q.F k.b 0=.int .i64 (k.n:Nat):=by rw[(ha.off hp).1.2.2,n1.n];rw[<-n2];rfl
 exact⟨this,by rw[this];rfl⟩
theorem fz.bits{v:Value}{n:Int}(h:fz v n):j6 v<18446744073709551616:=h.2.1.1.1
theorem b3W{us:List Int}{i:DI}(hp:apd q b c l us i){A C:List Int}{x:Nat}{n:Int}(hu:us=A++byL (x:Int) 8++C)(hx:FI x n)(hn:n.natAbs<=4194304):fl8 (bG i) (l+A.length) n:=by
 refine⟨x,c6v (λj hj=>?_) (by omega) (by have:=hx.1.1;omega),hx,hn⟩;rw[Nat.add_assoc];refine a0M hp ?_;rw[hu,b9y (by rw[F5];exact hj)];simp[byL,hj]
theorem b6B{i:DI}{r:List Int}(hp:apd q b c l (hdL q rb rc++r) i){B:Bx}(hb:isBox q.F rb rc B):a1U (bG i) l B/\bG i (l+32)=((ndN q (kb (q.F rb rc)):Nat):Int):=by
 obtain⟨h1,h2,h3,h4⟩:=hb;refine⟨⟨?_,?_,?_,?_⟩,?_⟩
 ·have:=b3W hp (A:=[]) (x:=j6 (q.F rb (rc+1))) (C:=byL (j6 (q.F rb (rc+2)):Nat) 8++byL (j6 (q.F rb (rc+3)):Nat) 8++byL (j6 (q.F rb (rc+4)):Nat) 8++[((ndN q (kb (q.F rb rc)):Nat):Int)]++r) (by simp[hdL,List.append_assoc]) h1.2.1 h1.2.2;simpa using this
 ·have:=b3W hp (A:=byL (j6 (q.F rb (rc+1)):Nat) 8) (x:=j6 (q.F rb (rc+2))) (C:=byL (j6 (q.F rb (rc+3)):Nat) 8++byL (j6 (q.F rb (rc+4)):Nat) 8++[((ndN q (kb (q.F rb rc)):Nat):Int)]++r) (by simp[hdL,List.append_assoc]) h2.2.1 h2.2.2;simpa [F5]using this
 ·have:=b3W hp (A:=byL (j6 (q.F rb (rc+1)):Nat) 8++byL (j6 (q.F rb (rc+2)):Nat) 8) (x:=j6 (q.F rb (rc+3))) (C:=byL (j6 (q.F rb (rc+4)):Nat) 8++[((ndN q (kb (q.F rb rc)):Nat):Int)]++r) (by simp[hdL,List.append_assoc]) h3.2.1 h3.2.2;simpa [F5]using this
 ·have:=b3W hp (A:=byL (j6 (q.F rb (rc+1)):Nat) 8++byL (j6 (q.F rb (rc+2)):Nat) 8++byL (j6 (q.F rb (rc+3)):Nat) 8) (x:=j6 (q.F rb (rc+4))) (C:=[((ndN q (kb (q.F rb rc)):Nat):Int)]++r) (by simp[hdL,List.append_assoc]) h4.2.1 h4.2.2;simpa [F5]using this
 ·refine a0M hp ?_;rw[List.getElem?_append_left (by rw[S4];omega)];unfold hdL;rw[List.getElem?_append_right (by simp[F5])];simp[F5]
theorem b2x(v:Int):wOk (nbI v):=by unfold wOk nbI;split <;> (try split) <;> simp
theorem wOk.r{w:Int}(h:wOk w):0<=w/\w<256:=by unfold wOk at h;omega
theorem b3o(ha:W5 q rb rc 0 k b){t:Nat}{it:Int×Bx}(ht:k.its[t]? = some it):q.F k.b (1+5*t)=.iface 3 (.int .i64 it.1)/\itI q k.b t=it.1:=by
 obtain⟨_,_,a3,_⟩:=ha.tr;have:=a3.v t (b1r it) (by rw[List.getElem?_map,ht];rfl);exact⟨this,by unfold itI;rw[this];rfl⟩
theorem b6G(ha:W5 q rb rc 0 k b){p:C1}(hp:c2P q rb rc b c l p)(hj:p.j=ndN q (kb (q.F rb rc))):∃ us,apd q b c l us p.i/\us.length<=102*((0+1)*k.its.length)/\Z1 (bG p.i) 0 l p.i.l k.its k.B:=by
 obtain⟨h1,_,hw,h3⟩:=hp;obtain⟨n1,n2,n3,n4,n5⟩:=ha.node;rw[n3]at h1 h3 hj;have hkl:k.n=k.its.length:=ha.tr.2.1;have hn:=ha.n;rw[n2]at hj h3;obtain⟨w,hwe⟩:∃ w:Nat,p.w=(w:Int):=⟨p.w.toNat,by rcases hw with e|e|e <;> rw[e] <;> rfl⟩;have hw2:w=1∨w=2∨w=4:=by unfold wOk at hw;omega
 rw[hwe,tN9]at h1;have hflen:∀ t,((λt=>byL (itI q k.b t) w) t).length=w:=λt=>F5 _ _
 have hlen:((List.range p.j).flatMap λt=>byL (itI q k.b t) w).length=w*p.j:=W2 hflen p.j;have h1e:apd q b c l (hdL q rb rc++([(w:Int)]++(List.range p.j).flatMap λt=>byL (itI q k.b t) w)) p.i:=by rw[<-List.append_assoc];exact h1
 obtain⟨e1,e2⟩:=b6B h1e ha.box
 have hul:(hdL q rb rc++[(w:Int)]++(List.range p.j).flatMap λt=>byL (itI q k.b t) w).length=34+w*p.j:=by
  rw[List.length_append,List.length_append,S4,hlen];simp
 have hil:=h1.n;rw[hul]at hil;refine⟨_,h1,?_,e1,by rw[e2,n3,n2,hkl],ha.tr.has,w,hw2,?_,?_,λt it ht=>?_⟩
 ·rw[hul,hj];rcases hw2 with e|e|e <;> rw[e] <;> omega
 ·rw[show l+33=l+(hdL q rb rc).length by rw[S4]];refine a0M h1 ?_;rw[List.append_assoc,List.getElem?_append_right (Nat.le_refl _)];simp
 ·rw[<-hkl,<-hj];omega
 ·obtain⟨i1,i2⟩:=b3o ha ht;have htl:=(List.getElem?_eq_some_iff.1 ht).1;have hr:=ha.it it (List.mem_of_getElem? ht);have hb:=h3 t (by omega);rw[i2,hwe]at hb
  have get:∀ s,s<w->bG p.i (l+34+w*t+s)=byI it.1 s:=λs hs=>by
   rw[show l+34+w*t+s=l+(34+(w*t+s)) by omega];refine a0M h1 ?_;rw[List.getElem?_append_right (by rw[List.length_append,S4];simp)];rw[List.length_append,S4];rw[show 34+(w*t+s)-(33+[(w:Int)].length)=w*t+s by simp];rw[a6E hflen hs (by omega),i2];simp[byL,hs]
  unfold nbI at hb;rcases hw2 with e|e|e
  ·subst e;exact c0v get hr.1 (by split at hb <;> (try split at hb) <;> omega)
  ·subst e;exact c0q get hr.1 (by split at hb <;> (try split at hb) <;> omega)
  ·subst e;exact b1x get hr.1 hr.2
end
section
variable {q:RM} {rb rc h b c l:Nat} {k:Kid}
theorem b5X(ha:W5 q rb rc (h+1) k b){p:C3}(hp:apd q b c l (hdL q rb rc++List.replicate (4*p.j) 0) p.i)(hj:p.j=k.n){p':C3}(h1:p'.i=p.i)(h2:p'.j=0):c4K q b c l h p' k:=by
 obtain⟨n1,n2,n3,n4,n5⟩:=ha.node;obtain⟨ks,a1,a2,a3,a4,a5,a6,a7⟩:=ha.tr;obtain⟨e1,e2⟩:=b6B hp ha.box
 have hfp:∀ x∈ks,x.fp.Nodup/\k.b∉x.fp/\∀ y∈x.fp,y∈k.fp:=λx hx=>by
  have hnd:=ha.nd;rw[a3]at hnd ⊢;obtain⟨h1,h2⟩:=List.nodup_cons.1 hnd;have hin:∀ y∈x.fp,y∈ks.flatMap (·.fp):=λy hy=>List.mem_flatMap.2 ⟨x,hx,hy⟩
  refine⟨?_,λe=>h1 (hin _ e),λy hy=>List.mem_cons_of_mem _ (hin y hy)⟩;obtain⟨A,B,rfl⟩:=List.append_of_mem hx;rw[List.flatMap_append,List.flatMap_cons,List.nodup_append,List.nodup_append]at h2;exact h2.2.1.1
 have hlen:(hdL q rb rc++List.replicate (4*p.j) 0).length=33+4*k.n:=by rw[List.length_append,S4,List.length_replicate,hj]
 rw[c4K,h1];exact⟨_,hp,e1,by rw[e2,n3,n2],by omega,[],ks,h2.symm,a4,a5,λx hx=>⟨(a7 x hx).1,(a7 x hx).2.1,hfp x hx⟩,by rw[hlen];omega,λt x hx=>by simp at hx⟩
theorem b1s{us:List Int}{i:DI}(hp:apd q b c l us i){s:Nat}(hs:s+4<=us.length)(v:Int):∃ us',us'.length=us.length/\apd q b c l us' ⟨p4R i.q i.b (i.c+(l+s)) v,i.b,i.c,i.l,i.k⟩/\
  (∀ j,j<4->bG ⟨p4R i.q i.b (i.c+(l+s)) v,i.b,i.c,i.l,i.k⟩ (l+s+j)=byI v j)/\∀ p,(p<l+s∨l+s+4<=p)->bG ⟨p4R i.q i.b (i.c+(l+s)) v,i.b,i.c,i.l,i.k⟩ p=bG i p:=by
 have off:∀ x y,(x≠i.b∨y<i.c+(l+s)∨i.c+(l+s)+4<=y)->(p4R i.q i.b (i.c+(l+s)) v).F x y=i.q.F x y:=λx y hxy=>by
  show pB _ _ _ _ _ x y=_;unfold pB;rw[b9 (by omega),b9 (by omega),b9 (by omega),b9 (by omega)]
 have at4:∀ j,j<4->(p4R i.q i.b (i.c+(l+s)) v).F i.b (i.c+(l+s)+j)=.int .u8 (byI v j):=λj hj=>by
  show pB _ _ _ _ _ i.b _=_;unfold pB
  match j,hj with
  | 0,_=>rw[b9 (by omega),b9 (by omega),b9 (by omega)];exact A2
  | 1,_=>rw[b9 (by omega),b9 (by omega)];exact A2
  | 2,_=>rw[b9 (by omega)];exact A2
  | 3,_=>exact A2
 have hn:=hp.n
 have hby:∀ j,j<us.length->H2 ((p4R i.q i.b (i.c+(l+s)) v).F i.b (i.c+(l+j))):=λj hj=>by
  by_cases hc:s<=j/\j<s+4
  ·have:=at4 (j-s) (by omega);rw[show i.c+(l+s)+(j-s)=i.c+(l+j) by omega]at this;rw[this];exact H2.mk' (V5 _ _)
  ·rw[off _ _ (by omega)];exact hp.o.is (l+j) (by omega)
 refine⟨(List.range us.length).map λj=>p7 ((p4R i.q i.b (i.c+(l+s)) v).F i.b (i.c+(l+j))),by simp,hp.put (by simp) (λx hx=>?_) rfl rfl (λx y hxy=>off x y (by omega)) (λj x hx=>?_),λj hj=>?_,λp hpp=>?_⟩
 ·obtain⟨j,hj,rfl⟩:=List.mem_map.1 hx;exact⟨(hby j (by simpa using hj)).2.1,(hby j (by simpa using hj)).2.2⟩
 ·obtain⟨h1,h2⟩:=List.getElem?_eq_some_iff.1 hx;have hj:j<us.length:=by simpa using h1
  have:x=p7 ((p4R i.q i.b (i.c+(l+s)) v).F i.b (i.c+(l+j))):=by rw[<-h2];simp
  rw[this];exact(hby j hj).1
 ·unfold bG;show p7 ((p4R i.q i.b (i.c+(l+s)) v).F i.b (i.c+(l+s+j)))=_;have:=at4 j hj;rw[show i.c+(l+s)+j=i.c+(l+s+j) by omega]at this;rw[this];rfl
 ·unfold bG;show p7 ((p4R i.q i.b (i.c+(l+s)) v).F i.b (i.c+p))=p7 (i.q.F i.b (i.c+p));rw[off _ _ (by omega)]
theorem W5.kid(ha:W5 q rb rc (h+1) k b){A B:List Kid}{x:Kid}(hits:k.its=(A++x :: B).flatMap (·.its))(hnd:F1 q k.b ((A++x :: B).map E5))(hk:isTr q h x/\1<=x.n/\x.fp.Nodup/\k.b∉x.fp/\∀ y∈x.fp,y∈k.fp):W5 q k.b (1+A.length*5) h x b:=by
 have hget:((A++x :: B).map E5)[A.length]? = some (E5 x):=by simp
 have hv:=hnd.v _ _ hget;have hb:=hnd.B _ _ hget;rw[Nat.mul_comm]at hv hb;have hle:=hnd.le;have hS:=hnd.S;simp only[List.length_map,List.length_append,List.length_cons]at hle;obtain⟨k1,k2,k3,k4,k5⟩:=hk;refine⟨hnd.D,by omega,hv,hb,k1,k2,λe=>k4 (e▸k1.fp0),k3,λe=>ha.bf (e▸ha.tr.fp0),λe=>ha.bf (k5 _ e),λy hy=>ha.it y ?_⟩;rw[hits];exact List.mem_flatMap.2 ⟨x,by simp,hy⟩
theorem b3z(ha:W5 q rb rc (h+1) k b)(hbd:l+102*((h+2)*k.its.length)<=100000000){p:C3}(hp:c4K q b c l h p k)(hj:p.j<k.n) :
  l+33+4*p.j+4<=p.i.l/\p.i.l<=100000000/\byO p.i.q p.i.b p.i.c p.i.l p.i.k/\
  b4C (p4R p.i.q p.i.b (p.i.c+(l+(33+4*p.j))) (p.i.l:Nat)) k.b (1+p.j*5) p.i.b p.i.c p.i.l p.i.k h/\
  ∀ i',b2a (p4R p.i.q p.i.b (p.i.c+(l+(33+4*p.j))) (p.i.l:Nat)) k.b (1+p.j*5) p.i.b p.i.c p.i.l h i'->c4K q b c l h ⟨i',p.j+1,p.g⟩ k:=by
 obtain⟨us,u1,u2,u3,u4,A,B0,b1,b2,b3,b4,b5,b6⟩:=hp;have hn:=u1.n;obtain⟨n1,n2,n3,n4,n5⟩:=ha.node
 have hABn:(A++B0).length=k.n:=by
  have:=b3.of;unfold ndN at n2;rw[this,List.length_map]at n2;exact n2
 obtain⟨x,B,rfl⟩:∃ x B,B0=x :: B:=by
  cases B0 with
  | nil=>rw[List.append_nil]at hABn;omega
  | cons x B=>exact⟨x,B,rfl⟩
 have hkid:=ha.kid b2 b3 (b4 x (by simp));rw[b1]at hkid;have hcnt:=ha.tr.cnt
 have hits:k.its.length=(A.flatMap (·.its)).length+x.its.length+(B.flatMap (·.its)).length:=by
  rw[b2];simp only[List.flatMap_append,List.flatMap_cons,List.length_append];omega
 have m1:(h+2)*k.its.length=(h+1)*k.its.length+k.its.length:=by rw[show h+2=(h+1)+1 from rfl,Nat.add_mul,Nat.one_mul]
 have m2:(h+1)*k.its.length=(h+1)*(A.flatMap (·.its)).length+(h+1)*x.its.length+(h+1)*(B.flatMap (·.its)).length:=by rw[hits,Nat.mul_add,Nat.mul_add]
 have hn1:=ha.n;obtain⟨us2,v1,v2,v3,v4⟩:=b1s u1 (s:=33+4*p.j) (by omega) (p.i.l:Nat);have hb2:=(hkid.keep v2);refine⟨by omega,by omega,u1.o,⟨v2.o,x,hb2,by omega⟩,λi' hi'=>?_⟩;obtain⟨us3,w1,w2,w3⟩:=hi' x hb2 (by omega);have hall:=v2.trans w1;have hn3:=w1.n
 have old:∀ pp,pp<p.i.l->bG i' pp=bG ⟨p4R p.i.q p.i.b (p.i.c+(l+(33+4*p.j))) (p.i.l:Nat),p.i.b,p.i.c,p.i.l,p.i.k⟩ pp:=λpp hpp=>by
  unfold bG;rw[w1.old pp hpp]
 have old2:∀ pp,pp<p.i.l->(pp<l+(33+4*p.j)∨l+(33+4*p.j)+4<=pp)->bG i' pp=bG p.i pp:=λpp h1 h2=>(old pp h1).trans (v4 pp h2)
 refine⟨us2++us3,hall,a0I u2 λj hj=>old2 _ (by omega) (by omega),by rw[show bG i' (l+32)=bG p.i (l+32)from old2 _ (by omega) (by omega)];exact u3,by rw[List.length_append];omega,A++[x],B,by simp[b1],by rw[b2];simp,by rw[List.append_assoc];exact b3,by rw[List.append_assoc];exact b4,?_,λt y ht=>?_⟩
 ·rw[List.length_append,List.flatMap_append,List.length_append,Nat.mul_add];simp only[List.flatMap_cons,List.flatMap_nil,List.append_nil];omega
 ·by_cases hc:t<A.length
  ·rw[List.getElem?_append_left hc]at ht;obtain⟨a,e,a1,a2,a3,a4⟩:=b6 t y ht;refine⟨a,e,?_,a2,by show e<=i'.l;omega,a1N a4 λpp p1 p2=>old2 pp (by omega) (by omega)⟩;rw[L5 λj hj=>old2 _ (by omega) (by omega)];exact a1
  ·have htl:t=A.length:=by
    have:=(List.getElem?_eq_some_iff.1 ht).1;simp at this;omega
   subst htl;simp at ht;subst ht;refine⟨p.i.l,i'.l,?_,by omega,Nat.le_refl _,w3⟩;rw[b1];refine b1x (λj hj=>?_) (by omega) (by omega);rw[Nat.add_assoc l 33];exact(old _ (by omega)).trans (v3 j hj)
theorem c2G(ha:W5 q rb rc (h+1) k b){p:C3}(hp:c4K q b c l h p k)(hj:p.j=k.n):∃ us,apd q b c l us p.i/\us.length<=102*((h+1+1)*k.its.length)/\Z1 (bG p.i) (h+1) l p.i.l k.its k.B:=by
 obtain⟨us,u1,u2,u3,u4,A,B,b1,b2,b3,b4,b5,b6⟩:=hp;have hn:=u1.n;obtain⟨n1,n2,n3,n4,n5⟩:=ha.node
 have hABn:(A++B).length=k.n:=by
  have:=b3.of;unfold ndN at n2;rw[this,List.length_map]at n2;exact n2
 have hB:B=[]:=by
  rw[List.length_append]at hABn;exact List.length_eq_zero_iff.1 (by omega)
 subst hB;rw[List.append_nil]at b2 b3 hABn;have hcnt:=ha.tr.cnt;have m1:(h+1+1)*k.its.length=(h+1)*k.its.length+k.its.length:=by rw[Nat.add_mul (h+1),Nat.one_mul]
 rw[<-b2]at b5;have hn1:=ha.n
 have hch:∃ ks:List EK,ks.length=A.length/\∀ t x,A[t]? = some x->∃ kk,ks[t]? = some kk/\kk.its=x.its/\kk.B=x.B/\leN (bG p.i) (l+33+4*t) 4=(kk.a:Nat)/\l+33+4*k.n<=kk.a/\kk.e<=p.i.l/\Z1 (bG p.i) h kk.a kk.e x.its x.B:=by
  clear b1 b2 b3 b4 b5 hABn hj
  have:∀(A:List Kid)(s:Nat),(∀ t x,A[t]? = some x->∃ a e,leN (bG p.i) (l+33+4*(s+t)) 4=(a:Nat)/\l+33+4*k.n<=a/\e<=p.i.l/\Z1 (bG p.i) h a e x.its x.B)->
    ∃ ks:List EK,ks.length=A.length/\∀ t x,A[t]? = some x->∃ kk,ks[t]? = some kk/\kk.its=x.its/\kk.B=x.B/\leN (bG p.i) (l+33+4*(s+t)) 4=(kk.a:Nat)/\l+33+4*k.n<=kk.a/\kk.e<=p.i.l/\Z1 (bG p.i) h kk.a kk.e x.its x.B:=by
   intro A
   induction A with
   | nil=>intro s _;exact⟨[],rfl,λt x ht=>by simp at ht⟩
   | cons x r ih =>
    intro s hs;obtain⟨a,e,c1,c2,c3,c4⟩:=hs 0 x rfl
    obtain⟨ks,d1,d2⟩:=ih (s+1) λt y ht=>by
     have:=hs (t+1) y (by simpa using ht);rw[show s+1+t=s+(t+1) by omega];exact this
    refine⟨⟨a,e,x.its,x.B⟩ :: ks,by simp[d1],λt y ht=>?_⟩
    cases t with
    | zero=>simp at ht;subst ht;exact⟨_,rfl,rfl,rfl,c1,c2,c3,c4⟩
    | succ t =>
     obtain⟨kk,f1,f2⟩:=d2 t y (by simpa using ht);rw[show s+1+t=s+(t+1) by omega]at f2;exact⟨kk,by simpa using f1,f2⟩
  obtain⟨ks,g1,g2⟩:=this A 0 λt x ht=>by rw[Nat.zero_add];exact b6 t x ht
  exact⟨ks,g1,λt x ht=>by have:=g2 t x ht;rw[Nat.zero_add]at this;exact this⟩
 obtain⟨ks,g1,g2⟩:=hch;refine⟨us,u1,by omega,u2,ha.tr.has,ks,?_,by rw[u3,g1,hABn],by rw[g1,hABn];omega,λt kk ht=>?_⟩
 ·rw[b2]
  have:∀(A:List Kid)(ks:List EK),ks.length=A.length->(∀(t:Nat)(x:Kid),A[t]? = some x->∃ kk:EK,ks[t]? = some kk/\kk.its=x.its)->A.flatMap (·.its)=ks.flatMap (·.its):=by
   intro A
   induction A with
   | nil=>intro ks hl _;cases ks with|nil=>rfl|cons a r=>simp at hl
   | cons x r ih =>
    intro ks hl hs
    cases ks with
    | nil=>simp at hl
    | cons kk rr =>
     obtain⟨k0,e1,e2⟩:=hs 0 x rfl;simp at e1;subst e1;simp only[List.flatMap_cons]
     rw[e2,ih rr (by simpa using hl) λt y ht=>by
      have:=hs (t+1) y (by simpa using ht)
      simpa using this]
  exact this A ks g1 λt x ht=>by obtain⟨kk,e1,e2,_⟩:=g2 t x ht;exact⟨kk,e1,e2⟩
 ·have htl:t<A.length:=by
   have:=(List.getElem?_eq_some_iff.1 ht).1;omega
  obtain⟨k0,e1,e2,e3,e4,e5,e6,e7⟩:=g2 t _ (List.getElem?_eq_getElem htl);rw[ht]at e1;cases e1;exact⟨e4,by rw[g1,hABn];exact e5,e6,by rw[e2,e3];exact e7⟩
end
noncomputable section
def b7i(rb rc nb:Nat)(hh:Int)(i:DI)(r:Slots):Slots:=(0, .pb 0 rb rc) :: (1, .slb 0 i.b i.c i.l i.k) :: (2, .int .i64 hh) :: (7, .pb 0 nb 0) :: r
def hdC(ts:List Nat)(q:RM)(rb rc b c l:Nat)(hh:Int):Nat×Fam:=(7,⟨DI,λi=>⟨155,b7i rb rc (kb (q.F rb rc)) hh i [],[(0,rwO ts i.q)],1⟩,λi=>apd q b c l (hdL q rb rc) i,λ_=>0⟩)
def c1L(ts:List Nat)(q:RM)(rb rc b c l:Nat)(hh:Int):R5:=⟨⟨C1,λp=>⟨155,b7i rb rc (kb (q.F rb rc)) hh p.i [(8, .int .u8 p.w),(9, .int .i64 p.j)],[(0,rwO ts p.i.q)],1⟩,λp=>hh=0/\c1P q rb rc b c l p,λp=>ndN q (kb (q.F rb rc))-p.j⟩,λ_=>[]⟩
def c2L(ts:List Nat)(q:RM)(rb rc b c l:Nat)(hh:Int):R5:=⟨⟨C1,λp=>⟨155,b7i rb rc (kb (q.F rb rc)) hh p.i [(8, .int .u8 p.w),(11, .int .i64 p.j)],[(0,rwO ts p.i.q)],1⟩,λp=>hh=0/\c2P q rb rc b c l p,λp=>ndN q (kb (q.F rb rc))-p.j⟩,λ_=>[]⟩
def c6e(q:RM)(rb rc:Nat)(g:Nat->Int):Ob:=⟨true,3, .ints .i64 (ndN q (kb (q.F rb rc))) g,1⟩
def c3L(ts:List Nat)(q:RM)(rb rc b c l:Nat)(hh:Int):R5:=⟨⟨C3,λp=>⟨155,b7i rb rc (kb (q.F rb rc)) hh p.i [(12, .slcc 1 (ndN q (kb (q.F rb rc)))),(13, .int .i64 p.j)],[(0,rwO ts p.i.q),(1,c6e q rb rc p.g)],2⟩,λp=>hh≠0/\c3P q rb rc b c l p,λp=>ndN q (kb (q.F rb rc))-p.j⟩,λ_=>[]⟩
def c4L(ts:List Nat)(q:RM)(rb rc b c l:Nat)(hh:Int):R5:=⟨⟨C3,λp=>⟨155,b7i rb rc (kb (q.F rb rc)) hh p.i [(12, .slcc 1 (ndN q (kb (q.F rb rc)))),(14, .int .i64 p.j)],[(0,rwO ts p.i.q),(1,c6e q rb rc p.g)],2⟩,λp=>hh≠0/\c4P q rb rc b c l (hh.toNat-1) p,λp=>ndN q (kb (q.F rb rc))-p.j⟩,λ_=>[]⟩
def b2S(K:Nat):List SV->RRd DI
 | [.pb n rb rc, .slb n1 b c l kk, .int .i64 hh]=>.read n λo0=>(match I5 o0 with
  | some (ts,q)=>.ret ⟨[.pb 0 rb rc, .slb 0 b c l kk, .int .i64 hh],[(0,rwO ts q)],some (n=n1/\((0<=hh/\hh<(K:Int)/\hh<1000)/\b4C q rb rc b c l kk hh.toNat)),λi=>b2a q rb rc b c l hh.toNat i,λi=>⟨[],[], .slb 0 i.b i.c i.l i.k,[(0,rwO ts (i.q))],[],none⟩⟩
  | none=>.fail)
 | _=>.fail
def GCb:Ctx:=⟨⟨tys,[]⟩,[(125,z4 b3n)]⟩
theorem gCb:B7 prog GCb:=⟨⟨E1,FlatsOk.nil⟩,j9.cons (.pure c5w) j9.nil,by kernel_rfl⟩
def X8(H:Nat):F3:=⟨GCb,[(122,o9 DI ⟨default⟩ (b2S H)),(121,o9 Unit ⟨()⟩ a7F),(126,o9 DI ⟨default⟩ a5g),(131,o9 DI ⟨default⟩ a9I)],[],[],[(185,0)]⟩
theorem x8(H:Nat)(ih:z0 prog 122 (o9 DI ⟨default⟩ (b2S H))):A7 prog (X8 H):=⟨gCb,q8.cons ih (q8.cons b8w (q8.cons b7Q (q8.cons c3h q8.nil)))⟩
def b9S(K:Nat):List SV->RRd (DI)
 | [.pb n rb rc, .slb n1 b c l kk, .int .i64 hh]=>.read n λo0=>(match I5 o0 with
  | some (ts,q)=>.ret ⟨[.pb 0 rb rc, .slb 0 b c l kk, .int .i64 hh],[(0,rwO ts q)],some (n=n1/\((0<=hh/\hh<(K:Int)/\hh<1000)/\b4C q rb rc b c l kk hh.toNat)),λi=>b2a q rb rc b c l hh.toNat i,λi=>⟨[],[], .slb 0 i.b i.c i.l i.k,[(0,rwO ts (i.q))],[],none⟩⟩
  | none=>.fail)
 | _=>.fail
theorem b9A(R:Option Ob->SV->Prop)(H:Nat)(ts:List Nat)(q:RM)(rb rc b c l kk:Nat)(hh:Int){T1}(t1:T1=(kb (q.3 rb rc))){T2}(t2:T2=λ(i:C3)=>(RM.mk (RM.D (p4R (RM.mk (RM.D (DI.q (C3.i i))) (RM.S (DI.q (C3.i i))) (RM.F (DI.q (C3.i i)))) (DI.b (C3.i i)) (DI.c (C3.i i)+toNat (C3.g i (0+toNat (↑(C3.j i):Int)*TI.size ty3)) *
 TI.size ty5) (wrap IntKind.u32 (↑(DI.l (C3.i i)):Int)))) (DI.q (C3.i i)).2 (pB (pB (pB (pB (DI.q (C3.i i)).3 (DI.b (C3.i i)) (DI.c (C3.i i)+toNat (i.3 (0+toNat (↑(C3.j i):Int)*1))*1) (wrap IntKind.u32 (↑(DI.l
 (C3.i i)):Int)) 0) (DI.b (C3.i i)) (DI.c (C3.i i)+toNat (i.3 (0+toNat (↑(C3.j i):Int)*1))*1) (wrap IntKind.u32 (↑(DI.l (C3.i i)):Int)) 1) (DI.b (C3.i i)) (DI.c (C3.i i)+toNat (i.3 (0+toNat (↑(C3.j i):Int)
 * 1))*1) (wrap IntKind.u32 (↑(DI.l (C3.i i)):Int)) 2) (DI.b (C3.i i)) (DI.c (C3.i i)+toNat (i.3 (0+toNat (↑(C3.j i):Int)*1))*1) (wrap IntKind.u32 (↑(DI.l (C3.i i)):Int)) 3))){T3}(t3:T3=λ(i:C1)=>((DI.q (C1.i
 i)).3 T1 (1+toNat (↑(C1.j i):Int)*5+0))){T4}(t4:T4=(True/\kb (q.3 rb rc)=kb (q.3 rb rc)/\0=0)){T5}(t5:T5=λ(i:C1)=>(DI.q (C1.i i))){T6}(t6:T6=λ(i:C3)=>(↑(C3.j i):Int)){T7}(t7:T7=(True/\rb=rb/\rc=rc)){T8}(t8:T8=fun
 (i:C3)=>(DI.q (C3.i i))){T9}(t9:T9=(K0 (q.3 rb (rc+0)))){T10}(t10:T10=λ(i:C1)=>(↑(C1.j i):Int)){T11}(t11:T11=λ(i:C1) (pq:C1)=>(True/\DI.b (C1.i i)=DI.b (C1.i pq)/\DI.c (C1.i i)=DI.c (C1.i pq)/\DI.l (C1.i i)=DI.l (C1.i pq)/\DI.k
 (C1.i i)=DI.k (C1.i pq))){T12}(t12:T12=λ(i:C1)=>(wrap IntKind.u32 (p7 (K0 (T3 i))))){T13}(t13:T13=λ(i:C1) (pq:C1)=>(0=0/\0=0/\ts=ts/\(T5 i).3=(DI.q (C1.i pq)).3/\(T5 i).2=(DI.q (C1.i pq)).2/\RM.D (T5 i)=RM.D
 (DI.q (C1.i pq)))){T14}(t14:T14=λ(i:DI)=>(RM.mk (RM.D (DI.q i)) (DI.q i).2 (DI.q i).3)){T15}(t15:T15=λ(i:C3)=>(0+toNat (T6 i)*1)){T16}(t16:T16=λ(pq:C3)=>(DI.q (C3.i pq))){T17}(t17:T17=λ(j:DI)=>((DI.q j).3 T1 0)){T18}(t18:T18=fun
 (i:DI)=>(byO (T14 i) (DI.b i) (DI.c i) (DI.l i) (DI.k i)/\DI.l i<=1000000000)){T19}(t19:T19=λ(pq:C1)=>(hh=(0:Int)/\c1P q rb rc b c l pq)){T20}(t20:T20=(True/\ndN q T1=ndN q T1)){T21}(t21:T21=λ(i:C3)=>((0<=(T6 i)/\(T6 i)<(↑(ndN q
 T1):Int))/\1<=ndN q T1)){T22}(t22:T22=λ(pq:C1)=>(DI.q (C1.i pq))){T23}(t23:T23=(hh-(1:Int))){T24}(t24:T24=λ(i:C1)=>((T5 i).1 T1/\0<(T5 i).2 T1/\B9 .i64 ((T5 i).3 T1 0))){T25}(t25:T25=λ(i:C3)=>((T8 i).1 T1/\0<(T8 i).2 T1/\
 B9 .i64 ((T8 i).3 T1 0))){T26}(t26:T26=λ(i:C3)=>(DI.b (C3.i i))){T27}(t27:T27=λ(i:C3)=>(DI.l (C3.i i))):K8 (X8 H) 1 [(10,c1L ts q rb rc b c l hh),(17,c2L ts q rb rc b c l hh),(23,c3L ts q rb rc b c l hh),(28,c4L ts q rb rc b c l hh)] [hdC ts q rb rc b c l hh] (p9 f122) (A6 f122.ntmps [.pb 0 rb rc, .slb 0 b c l kk, .int .i64 hh] [(0,rwO ts q)] 1) (A8 (X8 H).G.E.T f122.results.toList λS v=>R (Go.Sx.look S.H 0) v)=(
 (q.1 rb/\rc+0<q.2 rb)/\(a2u 207 (q.3 rb (rc+0))/\a1d T9)/\((0:Int)<=0/\(0:Int)<2)/\(q.1 rb/\rc+1+0<q.2 rb/\z6 .f64 (q.3 rb (rc+1+0)))/\∀(i:DI),((byO (RM.mk (RM.D q) q.2 q.3) b c l kk/\l<=1000000000)/\j6
 (q.3 rb (rc+1+0))<18446744073709551616)/\(apd (RM.mk (RM.D q) q.2 q.3) b c l (byL (↑(j6 (q.3 rb (rc+1+0))):Int) 8) i->((0:Int)<=1/\(1:Int)<2)/\((DI.q i).1 rb/\rc+1+1<(DI.q i).2 rb/\z6 .f64 ((DI.q i).3 rb (rc+1 +
 1)))/\∀(i_1:DI),((T18 i)/\j6 ((DI.q i).3 rb (rc+1+1))<18446744073709551616)/\(apd (T14 i) (DI.b i) (DI.c i) (DI.l i) (byL (↑(j6 ((DI.q i).3 rb (rc+1+1))):Int) 8) i_1->((0:Int)<=0/\(0:Int)<(2:Int))/\((DI.q i_1).1 rb
 /\rc+3+0<(DI.q i_1).2 rb/\z6 .f64 ((DI.q i_1).3 rb (rc+3+0)))/\∀(i:DI),((byO (RM.mk (RM.D (DI.q i_1)) (DI.q i_1).2 (DI.q i_1).3) (DI.b i_1) (DI.c i_1) (DI.l i_1) (DI.k i_1)/\DI.l i_1<=1000000000)/\j6 ((DI.q i_1).3 rb (rc+3 +
 0))<18446744073709551616)/\(apd (RM.mk (RM.D (DI.q i_1)) (DI.q i_1).2 (DI.q i_1).3) (DI.b i_1) (DI.c i_1) (DI.l i_1) (byL (↑(j6 ((DI.q i_1).3 rb (rc+3+0))):Int) 8) i->((0:Int)<=1/\(1:Int)<2)/\((DI.q i).1 rb/\rc+3+1<(DI.q
 i).2 rb/\z6 .f64 ((DI.q i).3 rb (rc+3+1)))/\∀(i_2:DI),((T18 i)/\j6 ((DI.q i).3 rb (rc+3+1))<18446744073709551616)/\(apd (T14 i) (DI.b i) (DI.c i) (DI.l i) (byL (↑(j6 ((DI.q i).3 rb (rc+3+1))):Int) 8) i_2->(((DI.q
 i_2).1 (ptB T9)/\ptC T9+0<(DI.q i_2).2 (ptB T9)/\B9 .i64 ((DI.q i_2).3 (ptB T9) (ptC T9+0)))/\∀(i:ApI),appO (RM.D (DI.q i_2)) (DI.q i_2).2 1 1 (DI.b i_2) (DI.c i_2) (DI.l i_2) (DI.k i_2) 1/\(P1 (RM.D (DI.q i_2)) (DI.q i_2).2 (DI.q
 i_2).3 1 (DI.b i_2) (DI.c i_2) (DI.l i_2) (DI.k i_2) 1 [Value.int .u8 (wrap .u8 (p7 ((DI.q i_2).3 (ptB T9) (ptC T9+0))))] i->∃(pq:DI),apd q b c l (hdL q rb rc) pq/\(T7/\(True/\i.1=DI.b pq/\i.2=DI.c pq/\DI.l i_2+1=DI.l pq
 /\i.3=DI.k pq)/\hh=hh/\(True/\ptB T9=kb (q.3 rb rc)/\ptC T9=0)/\True)/\True/\(0=0/\0=0/\ts=ts/\i.6=(DI.q pq).3/\i.5=(DI.q pq).2/\ApI.D i=RM.D (DI.q pq))/\True))/\∀(j:DI),apd q b c l (hdL q rb rc) j->((hh==(0 :
 Int))=true->(∃(pq:C1),(T19 pq)/\(T7/\(True/\DI.b j=DI.b (C1.i pq)/\DI.c j=DI.c (C1.i pq)/\DI.l j=DI.l (C1.i pq)/\DI.k j=DI.k (C1.i pq))/\hh=hh/\T4/\(1:Int)=C1.w pq/\0=(↑(C1.j pq):Int)/\True)/\True/\(0=0/\0=0
 /\ts=ts/\(DI.q j).3=(T22 pq).3/\(DI.q j).2=(T22 pq).2/\RM.D (DI.q j)=RM.D (T22 pq))/\True)/\∀(i:C1),hh=(0:Int)/\c1P q rb rc b c l i->(T24 i)/\(decide ((T10 i)<p7 ((T5 i).3 T1 0))=true->(0<=(T10 i)/\(T10 i)<(17 :
 Int))/\((T5 i).1 T1/\1+toNat (T10 i)*5+0<(T5 i).2 T1)/\(a2u 3 (T3 i)/\B9 .i64 (K0 (T3 i)))/\(decide (C1.w i<nbI (T12 i))=true->∃(pq:C1),(T19 pq)/\ndN q T1-C1.j pq<ndN q T1-C1.j i/\(T7/\(T11 i pq)/\hh=hh/\
 T4/\nbI (T12 i)=C1.w pq/\wrap .i64 ((T10 i)+(1:Int))=(↑(C1.j pq):Int)/\True)/\True/\(T13 i pq)/\True)/\(decide (C1.w i<nbI (T12 i))=false->∃(pq:C1),(T19 pq)/\ndN q T1-C1.j pq<ndN q T1-C1.j i/\(T7/\(T11 i pq)
 /\hh=hh/\T4/\C1.w i=C1.w pq/\wrap .i64 ((T10 i)+1)=(↑(C1.j pq):Int)/\True)/\True/\(T13 i pq)/\True))/\(decide ((T10 i)<p7 ((T5 i).3 T1 0))=false->∀(i_3:ApI),appO (RM.D (T5 i)) (T5 i).2 1 1 (DI.b (C1.i i)) (DI.c
 (C1.i i)) (DI.l (C1.i i)) (DI.k (C1.i i)) 1/\(P1 (RM.D (T5 i)) (T5 i).2 (T5 i).3 1 (DI.b (C1.i i)) (DI.c (C1.i i)) (DI.l (C1.i i)) (DI.k (C1.i i)) 1 [Value.int .u8 (C1.w i)] i_3->(∃(pq:C1),(hh=(0:Int)/\c2P q rb rc b c l pq)/\(T7/\(True
 /\i_3.1=DI.b (C1.i pq)/\i_3.2=DI.c (C1.i pq)/\DI.l (C1.i i)+1=DI.l (C1.i pq)/\i_3.3=DI.k (C1.i pq))/\hh=hh/\T4/\C1.w i=C1.w pq/\(0:Int)=(↑(C1.j pq):Int)/\True)/\True/\(0=0/\0=0/\ts=ts/\i_3.6=(T22 pq).3/\i_3.5
 = (T22 pq).2/\ApI.D i_3=RM.D (T22 pq))/\True)/\∀(i:C1),hh=(0:Int)/\c2P q rb rc b c l i->(T24 i)/\(decide ((T10 i)<p7 ((T5 i).3 T1 0))=true->(0<=(T10 i)/\(T10 i)<17)/\((T5 i).1 T1/\1+toNat (T10 i)*5+0<(T5 i).2
 T1)/\(a2u 3 (T3 i)/\B9 .i64 (K0 (T3 i)))/\∀(i_4:DI),((byO (RM.mk (RM.D (T5 i)) (T5 i).2 (T5 i).3) (DI.b (C1.i i)) (DI.c (C1.i i)) (DI.l (C1.i i)) (DI.k (C1.i i))/\DI.l (C1.i i)<=1000000000)/\((0:Int)<=wrap IntKind.u32 (p7
 (K0 (T3 i)))/\wrap IntKind.u32 (p7 (K0 (T3 i)))<(4294967296:Int))/\(C1.w i=(1:Int)∨C1.w i=(2:Int)∨C1.w i=(4:Int)))/\(apd (RM.mk (RM.D (T5 i)) (T5 i).2 (T5 i).3) (DI.b (C1.i i)) (DI.c (C1.i i)) (DI.l (C1.i i)) (byL
 (T12 i) (toNat (C1.w i))) i_4->∃(pq:C1),(hh=(0:Int)/\c2P q rb rc b c l pq)/\ndN q T1-C1.j pq<ndN q T1-C1.j i/\(T7/\(True/\DI.b i_4=DI.b (C1.i pq)/\DI.c i_4=DI.c (C1.i pq)/\DI.l i_4=DI.l (C1.i pq)/\DI.k i_4=DI.k
 (C1.i pq))/\hh=hh/\T4/\C1.w i=C1.w pq/\wrap .i64 ((T10 i)+1)=(↑(C1.j pq):Int)/\True)/\True/\(0=0/\0=0/\ts=ts/\(DI.q i_4).3=(T22 pq).3/\(DI.q i_4).2=(T22 pq).2/\RM.D (DI.q i_4)=RM.D (T22 pq))/\True))/\
 (decide ((T10 i)<p7 ((T5 i).3 T1 0))=false->R (Option.some (Ob.mk true 0 (a9.raw ts (RM.D (T5 i)) (T5 i).2 (T5 i).3) 0)) (SV.slb 0 (DI.b (C1.i i)) (DI.c (C1.i i)) (DI.l (C1.i i)) (DI.k (C1.i i)))))))/\((hh==(0:Int))=false->((DI.q
 j).1 T1/\0<(DI.q j).2 T1/\B9 .i64 (T17 j))/\(p7 (T17 j)=p7 (T17 j)/\(0:Int)<=p7 (T17 j)/\p7 (T17 j)<=(9223372036854775807:Int)/\p7 (T17 j)*(8:Int)<=140737488355328)/\(∃(pq:C3),(hh≠(0:Int)/\c3P q rb rc b c l
 pq)/\(T7/\(True/\DI.b j=DI.b (C3.i pq)/\DI.c j=DI.c (C3.i pq)/\DI.l j=DI.l (C3.i pq)/\DI.k j=DI.k (C3.i pq))/\hh=hh/\T4/\(True/\toNat (p7 (T17 j))=ndN q T1)/\0=(↑(C3.j pq):Int)/\True)/\True/\(0=0/\0=0/\ts =
 ts/\(DI.q j).3=(T16 pq).3/\(DI.q j).2=(T16 pq).2/\RM.D (DI.q j)=RM.D (T16 pq))/\True/\(3=3/\1=1/\ndN q T1<=toNat (p7 (T17 j))*1/\∀(i:Nat),i<ndN q T1->(0:Int)=pq.3 i)/\True)/\∀(i:C3),hh≠(0:Int)/\c3P q
 rb rc b c l i->(T25 i)/\(decide ((T6 i)<p7 ((T8 i).3 T1 0))=true->(T21 i)/\0+toNat (T6 i)*1+1<=ndN q T1/\∀(i_3:ApI),appO (RM.D (T8 i)) (T8 i).2 1 1 (T26 i) (DI.c (C3.i i)) (T27 i) (DI.k (C3.i i)) 4/\(P1 (RM.D (T8 i)) (T8
 i).2 (T8 i).3 1 (T26 i) (DI.c (C3.i i)) (T27 i) (DI.k (C3.i i)) 4 [Value.int .u8 (0:Int),Value.int .u8 (0:Int),Value.int .u8 (0:Int),Value.int .u8 (0:Int)] i_3->∃(pq:C3),(hh≠(0:Int)/\c3P q rb rc b c l pq)/\ndN q T1-C3.j pq <
 ndN q T1-C3.j i/\(T7/\(True/\i_3.1=DI.b (C3.i pq)/\i_3.2=DI.c (C3.i pq)/\DI.l (C3.i i)+4=DI.l (C3.i pq)/\i_3.3=DI.k (C3.i pq))/\hh=hh/\T4/\T20/\wrap .i64 ((T6 i)+1)=(↑(C3.j pq):Int)/\True)/\True/\(0=0/\0 =
 0/\ts=ts/\i_3.6=(T16 pq).3/\i_3.5=(T16 pq).2/\ApI.D i_3=RM.D (T16 pq))/\True/\(3=3/\1=1/\ndN q T1<=ndN q T1/\∀(i_4:Nat),i_4<ndN q T1->upd (C3.g i) (T15 i) (↑(T27 i):Int) i_4=pq.3 i_4)/\True))/\(decide ((T6 i)<p7
 ((T8 i).3 T1 0))=false->(∃(pq:C3),(hh≠(0:Int)/\c4P q rb rc b c l (toNat hh-1) pq)/\(T7/\(True/\DI.b (C3.i i)=DI.b (C3.i pq)/\DI.c (C3.i i)=DI.c (C3.i pq)/\DI.l (C3.i i)=DI.l (C3.i pq)/\DI.k (C3.i i)=DI.k (C3.i pq))/\
 hh=hh/\T4/\T20/\0=(↑(C3.j pq):Int)/\True)/\True/\(0=0/\0=0/\ts=ts/\(T8 i).3=(T16 pq).3/\(T8 i).2=(T16 pq).2/\RM.D (T8 i)=RM.D (T16 pq))/\True/\(3=3/\1=1/\ndN q T1<=ndN q T1/\∀(i_3:Nat),i_3<ndN q T1->i.3
 i_3=pq.3 i_3)/\True)/\∀(i:C3),hh≠(0:Int)/\c4P q rb rc b c l (toNat hh-1) i->(T25 i)/\(decide ((T6 i)<p7 ((T8 i).3 T1 0))=true->∀(_:Unit),(T21 i)/\0+toNat (T6 i)*1+1<=ndN q T1/\((0:Int)<=i.3 (T15 i)/\
 toNat (i.3 (T15 i))<=DI.l (C3.i i)/\toNat (i.3 (T15 i))<DI.k (C3.i i))/\(((0:Int)<=wrap IntKind.u32 (↑(T27 i):Int)/\wrap IntKind.u32 (↑(T27 i):Int)<4294967296)/\(4<=DI.l (C3.i i)-toNat (i.3 (T15 i))/\
 (T8 i).1 (T26 i)/\DI.c (C3.i i)+toNat (i.3 (T15 i))*1+4<=(RM.mk (RM.D (T8 i)) (RM.S (T8 i)) (RM.F (T8 i))).2 (T26 i))/\B9 .u8 ((RM.mk (RM.D (T8 i)) (RM.S (T8 i)) (RM.F (T8 i))).3 (T26 i) (DI.c (C3.i i)+toNat (i.3 (T15 i))*1 +
 3)))/\true=true/\(True->((0:Int)<=(T6 i)/\(T6 i)<17)/\∀(i_4:DI),(0=0/\((0:Int)<=wrap .i64 T23/\wrap .i64 T23<(↑H:Int)/\wrap .i64 T23<(1000:Int))/\b4C (T2 i) T1 (1+toNat (T6 i)*5) (T26
 i) (DI.c (C3.i i)) (T27 i) (DI.k (C3.i i)) (toNat (wrap .i64 T23)))/\(b2a (T2 i) T1 (1+toNat (T6 i)*5) (T26 i) (DI.c (C3.i i)) (T27 i) (toNat (wrap .i64 T23)) i_4->∃(pq:C3),(hh≠(0:Int)/\c4P q rb rc b c l
 (toNat hh-1) pq)/\ndN q T1-C3.j pq<ndN q T1-C3.j i/\(T7/\(True/\DI.b i_4=DI.b (C3.i pq)/\DI.c i_4=DI.c (C3.i pq)/\DI.l i_4=DI.l (C3.i pq)/\DI.k i_4=DI.k (C3.i pq))/\hh=hh/\T4/\T20/\wrap .i64 ((T6 i)+1) =
 (↑(C3.j pq):Int)/\True)/\True/\(0=0/\0=0/\ts=ts/\(DI.q i_4).3=(T16 pq).3/\(DI.q i_4).2=(T16 pq).2/\RM.D (DI.q i_4)=RM.D (T16 pq))/\True/\(3=3/\1=1/\ndN q T1<=ndN q T1/\∀(i_5:Nat),i_5<ndN q T1->i.3 i_5=pq.3
 i_5)/\True)))/\(decide ((T6 i)<p7 ((T8 i).3 T1 0))=false->R (Option.some (Ob.mk true 0 (a9.raw ts (RM.D (T8 i)) (T8 i).2 (T8 i).3) 0)) (SV.slb 0 (T26 i) (DI.c (C3.i i)) (T27 i) (DI.k (C3.i i))))))))))):=by subst t1 t2 t3 t4 t5 t6 t7 t8 t9 t10 t11 t12 t13 t14 t15 t16 t17 t18 t19 t20 t21 t22 t23 t24 t25 t26 t27;kernel_rfl
theorem c8d(H:Nat)(ih:z0 prog 122 (o9 DI ⟨default⟩ (b2S H))):z0 prog 122 (o9 (DI) ⟨default⟩ (b9S (H+1))):=by
 refine D7 (x8 H ih) func122 rfl (by kernel_rfl) λargs=>?_
 unfold b9S;split;rotate_left;trivial;rename_i n rb rc n1 b c l kk hh;intro o0;try dsimp only
 split;rotate_left;trivial;rename_i ts q hm0;intro(ho:n=n1/\((0<=hh/\hh<((H+1):Int)/\hh<1000)/\b4C q rb rc b c l kk hh.toNat));obtain⟨heq0,ho⟩:=ho;subst heq0;refine⟨?_,Nat.succ_pos _,ts,λ(i:DI)=>i.q,λ(i:DI)=>.slb 0 i.b i.c i.l i.k,λ_=>rfl,?_,_,_,(b9A (I7 1 ts (λ(i:DI)=>b2a q rb rc b c l hh.toNat i) (λ(i:DI)=>i.q) (λ(i:DI)=>.slb 0 i.b i.c i.l i.k)) H ts q rb rc b c l kk hh rfl rfl rfl rfl rfl rfl rfl rfl rfl rfl rfl rfl rfl rfl rfl rfl rfl rfl rfl rfl rfl rfl rfl rfl rfl rfl rfl).mpr ?_⟩
 ·refine j8 rfl ⟨λ_=>rfl,?_,⟨trivial,B8 hm0,trivial⟩⟩;simp[q9,z5,A0,z8,z3,nth,g9]
 ·intro i _;rfl
 ·obtain⟨⟨hh0,hhK,hh1000⟩,hO,k,ha,hbd⟩:=ho;obtain⟨n1,n2,n3,n4,n5⟩:=ha.node;obtain⟨f1,f2,f3,f4⟩:=n4.facts;have hS:=ha.S;have hN86:=n1.S;have hle1:=hO.le;have hpos:=ha.tr.cnt;have hn1:=ha.n
  have hbig:l+102*k.its.length<=100000000:=by
   have:(hh.toNat+1)*k.its.length=hh.toNat*k.its.length+k.its.length:=by rw[Nat.add_mul,Nat.one_mul]
   omega
  simp only[true_and,and_true,eq_self,tN9,Nat.mul_one,decide_eq_true_eq,decide_eq_false_iff_not,true_implies,Int.reduceLE,Int.reduceLT,Int.le_refl];simp only[Nat.add_zero,f3,f4,n3];obtain⟨x0,x1,x2,x3⟩:=ha.box;refine⟨⟨ha.D,by omega⟩,⟨f1,f2⟩,⟨ha.D,by omega,x0.flt⟩,λi1=>⟨⟨⟨hO,by omega⟩,x0.bits⟩,λp1=>?_⟩⟩;obtain⟨⟨a1,a2,a3⟩,a4,a5,a6⟩:=ha.off p1;have l1:=p1.n;rw[F5]at l1;simp only[a6];refine⟨⟨a4,by omega,x1.flt⟩,λi2=>⟨⟨⟨p1.o,by omega⟩,x1.bits⟩,λp2=>?_⟩⟩;have p12:=p1.trans p2;obtain⟨⟨b1,b2,b3⟩,b4,b5,b6⟩:=ha.off p12;have l2:=p2.n;rw[F5]at l2;simp only[b6]
  refine⟨⟨b4,by omega,x2.flt⟩,λi3=>⟨⟨⟨p2.o,by omega⟩,x2.bits⟩,λp3=>?_⟩⟩;have p123:=p12.trans p3;obtain⟨⟨c1,c2,c3⟩,c4,c5,c6⟩:=ha.off p123;have l3:=p3.n;rw[F5]at l3;simp only[c6];refine⟨⟨c4,by omega,x3.flt⟩,λi4=>⟨⟨⟨p3.o,by omega⟩,x3.bits⟩,λp4=>?_⟩⟩;have p1234:=p123.trans p4;obtain⟨⟨d1,d2,d3⟩,d4,d5,d6⟩:=ha.off p1234;obtain⟨e1,e2⟩:=ha.cnt p1234;have l4:=p4.n;rw[F5]at l4;simp only[e2];refine⟨⟨⟨d1,by omega,by rw[e1];rfl⟩,λi5=>⟨K6 p4.o (by omega) (by omega),λhp=>?_⟩⟩,?_⟩
  ·have hw:wrap .u8 ((k.n:Nat):Int)=((k.n:Nat):Int):=by rw[a5s];omega
   rw[hw]at hp;have p5:=J7 p4.o (us:=[((k.n:Nat):Int)]) rfl (by intro x hx;simp at hx;omega) rfl hp;have p6:=p1234.trans p5
   have hh:apd q b c l (hdL q rb rc) ⟨⟨i5.D,i5.S,i5.F⟩,i5.b,i5.c,i4.l+1,i5.k⟩:=by
    have:hdL q rb rc=byL (j6 (q.F rb (rc+1)):Nat) 8++byL (j6 (q.F rb (rc+2)):Nat) 8++byL (j6 (q.F rb (rc+3)):Nat) 8++byL (j6 (q.F rb (rc+4)):Nat) 8++[((k.n:Nat):Int)]:=by
     unfold hdL;rw[n3,n2]
    rw[this];exact p6
   exact⟨_,hh,(by and_intros <;> first|trivial|rfl|(rw[j5 (by omega) (by omega)];first|rfl|omega))⟩
  clear e1 e2 p1 p2 p3 p4 p12 p123 p1234 a1 a2 a3 a4 a5 a6 b1 b2 b3 b4 b5 b6 c1 c2 c3 c4 c5 c6 d1 d2 d3 d4 d5 d6 l1 l2 l3 l4;intro j hj;have hjn:=hj.n;rw[S4]at hjn;obtain⟨⟨a1,a2,a3⟩,a4,a5,a6⟩:=ha.off hj;obtain⟨e1,e2⟩:=ha.cnt hj;have e0:p7 (q.F k.b 0)=(k.n:Nat):=by rw[n1.n];show ((ndN q k.b:Nat):Int)=_;rw[n2]
  refine⟨λh0=>?_,λh0=>?_⟩
  ·have h0:hh=0:=by simpa using h0
   subst h0;have ha0:W5 q rb rc 0 k b:=ha;have hkl:k.n=k.its.length:=ha0.tr.2.1
   have item:∀ t,t<k.n->∃ it,k.its[t]? = some it/\q.F k.b (1+t*5)=.iface 3 (.int .i64 it.1)/\itI q k.b t=it.1/\0<=it.1/\it.1<4294967296:=λt ht=>by
    have hg:=List.getElem?_eq_getElem (by omega:t<k.its.length);obtain⟨g1,g2⟩:=b3o ha0 hg;rw[Nat.mul_comm]at g1;exact⟨_,hg,g1,g2,ha0.it _ (List.mem_of_getElem? hg)⟩
   have hw32:∀ v:Int,0<=v->v<4294967296->wrap .u32 v=v:=λv v0 v1=>by
    show v % 4294967296=v;omega
   refine⟨⟨⟨j,0,1⟩,⟨rfl,hj,Nat.zero_le _, .inl rfl,λt ht=>absurd ht (Nat.not_lt_zero t)⟩,(by and_intros <;> first|trivial|rfl|(rw[j5 (by omega) (by omega)];first|rfl|omega))⟩,?_⟩;rintro p ⟨_,p1,p2,p3,p4⟩;obtain⟨⟨b1,b2,b3⟩,b4,b5,b6⟩:=ha.off p1;obtain⟨g1,g2⟩:=ha.cnt p1;have hpn:=p1.n;rw[S4]at hpn;rw[n3]at p2 p4;rw[n2]at p2;simp only[b3,e0,n2];refine⟨⟨b1,by omega,by rw[n1.n];rfl⟩,λhlt=>?_,λhge=>?_⟩
   ·obtain⟨it,i1,i2,i3,i4,i5⟩:=item p.j (by omega);have hj1:p.j+1<=ndN q (kb (q.F rb rc)):=by rw[n3,n2];omega
    simp only[i2,K0,p7,hw32 _ i4 i5];refine⟨⟨by omega,by omega⟩,⟨b1,by omega⟩,⟨rfl,rfl⟩,λhw=>⟨⟨p.i,p.j+1,nbI it.1⟩,⟨trivial,p1,hj1,b2x _,λt ht=>?_⟩,?_,(by and_intros <;> first|trivial|rfl|(rw[j5 (by omega) (by omega)];first|rfl|omega))⟩,λhw=>⟨⟨p.i,p.j+1,p.w⟩,⟨trivial,p1,hj1,p3,λt ht=>?_⟩,?_,(by and_intros <;> first|trivial|rfl|(rw[j5 (by omega) (by omega)];first|rfl|omega))⟩⟩
    ·rw[n3];show nbI (itI q k.b t)<=nbI it.1;rcases Nat.lt_or_ge t p.j with c|c
     ·have:=p4 t c;omega
     ·have:t=p.j:=by have ht:t<p.j+1:=ht;omega
      subst this;rw[i3];exact Int.le_refl _
    ·show k.n-(p.j+1)<k.n-p.j;omega
    ·rw[n3];show nbI (itI q k.b t)<=p.w;rcases Nat.lt_or_ge t p.j with c|c
     ·exact p4 t c
     ·have:t=p.j:=by have ht:t<p.j+1:=ht;omega
      subst this;rw[i3];omega
    ·show k.n-(p.j+1)<k.n-p.j;omega
   ·have hpj:p.j=k.n:=by omega
    refine λi3=>⟨K6 p1.o (by omega) (by omega),λhp=>⟨?_,?_⟩⟩
    ·have p5:=J7 p1.o (us:=[p.w]) rfl (by intro x hx;simp at hx;subst hx;exact p3.r) rfl hp;have p6:=p1.trans p5;refine⟨⟨⟨⟨i3.D,i3.S,i3.F⟩,i3.b,i3.c,p.i.l+1,i3.k⟩,0,p.w⟩,⟨trivial,?_,Nat.zero_le _,p3,λt ht=>?_⟩,(by and_intros <;> first|trivial|rfl|(rw[j5 (by omega) (by omega)];first|rfl|omega))⟩
     ·simpa using p6
     ·rw[n3];rw[n3,n2]at ht;exact p4 t (by omega)
    rintro p' ⟨_,q1,q2,q3,q4⟩;obtain⟨⟨b1,b2,b3⟩,b4,b5,b6⟩:=ha.off q1;obtain⟨g1,g2⟩:=ha.cnt q1;have hpn:=q1.n;have hfl:((List.range p'.j).flatMap λt=>byL (itI q (kb (q.F rb rc)) t) p'.w.toNat).length=p'.w.toNat*p'.j:=W2 (λt=>F5 _ _) p'.j;rw[List.length_append,List.length_append,S4,hfl]at hpn;have hw4:p'.w.toNat<=4:=by unfold wOk at q3;omega
    have hmul:p'.w.toNat*p'.j<=4*p'.j:=Nat.mul_le_mul_right _ hw4;rw[n3,n2]at q2;simp only[List.length_cons,List.length_nil]at hpn;simp only[b3,e0];refine⟨⟨b1,by omega,by rw[n1.n];rfl⟩,λhlt=>?_,λhge=>?_⟩
    ·obtain⟨it,i1,i2,i3,i4,i5⟩:=item p'.j (by omega);have hj1:p'.j+1<=ndN q (kb (q.F rb rc)):=by rw[n3,n2];omega
     simp only[i2,K0,p7,hw32 _ i4 i5];refine⟨⟨by omega,by omega⟩,⟨b1,by omega⟩,⟨rfl,rfl⟩,λi4'=>⟨⟨⟨q1.o,by omega⟩,⟨i4,i5⟩,q3⟩,λhp=>⟨⟨i4',p'.j+1,p'.w⟩,⟨trivial,?_,hj1,q3,q4⟩,?_,(by and_intros <;> first|trivial|rfl|(rw[j5 (by omega) (by omega)];first|rfl|omega))⟩⟩⟩
     ·have:=q1.trans hp;rw[List.range_succ,List.flatMap_append];simp only[List.flatMap_cons,List.flatMap_nil,List.append_nil];rw[n3]at this ⊢;rw[i3,<-List.append_assoc];exact this
     ·show k.n-(p'.j+1)<k.n-p'.j;omega
    ·have hpj2:p'.j=ndN q (kb (q.F rb rc)):=by rw[n3,n2];omega
     refine⟨p'.i,λk2 ha2 hb2=>b6G ha2 ⟨q1,by rw[hpj2];exact Nat.le_refl _,q3,q4⟩ hpj2,rfl,⟨trivial,rfl,rfl,rfl,rfl⟩⟩
  ·have h0:hh≠0:=by simpa using h0
   obtain⟨h,rfl⟩:∃ h:Nat,hh=((h+1:Nat):Int):=⟨hh.toNat-1,by omega⟩;have ha1:W5 q rb rc (h+1) k b:=ha;have hbd1:l+102*((h+2)*k.its.length)<=100000000:=hbd;have hw:IntKind.i64.wrap (((h+1:Nat):Int)-1)=((h:Nat):Int):=by rw[j5 (by omega) (by omega)];omega
   simp only[hw,tN9,Nat.add_sub_cancel,a3,e0,n2];refine⟨⟨a1,by omega,by rw[n1.n];rfl⟩,⟨by omega,by omega,by omega⟩,⟨⟨j,0,λ_=>0⟩,⟨h0,by simpa using hj,Nat.zero_le _,λt ht=>absurd ht (Nat.not_lt_zero t)⟩,?_⟩,?_⟩
   ·and_intros <;> first|trivial|rfl|(rw[n3];exact n2.symm)|(rw[n3,n2];omega)|(intro i hi;rfl)|skip
    exact Nat.le_refl _
   rintro p ⟨_,p1,p2,p3⟩;obtain⟨⟨b1,b2,b3⟩,b4,b5,b6⟩:=ha.off p1;have hpn:=p1.n;rw[List.length_append,S4,List.length_replicate]at hpn;rw[n3,n2]at p2;simp only[b3,e0];refine⟨⟨b1,by omega,by rw[n1.n];rfl⟩,λhlt=>?_,λhge=>?_⟩
   ·refine⟨⟨⟨by omega,by omega⟩,by omega⟩,by omega,λi3=>⟨K6 p1.o (by omega) (by omega),λhp=>?_⟩⟩;have p5:=J7 p1.o (us:=[0,0,0,0]) rfl (by decide) rfl hp;have p6:=p1.trans p5;refine⟨⟨⟨⟨i3.D,i3.S,i3.F⟩,i3.b,i3.c,p.i.l+4,i3.k⟩,p.j+1,upd p.g (0+p.j) (p.i.l:Nat)⟩,⟨h0,?_,by show p.j+1<=_;rw[n3,n2];omega,λt ht=>?_⟩,by show k.n-(p.j+1)<k.n-p.j;omega,⟨⟨rfl,rfl,rfl,rfl⟩,?_⟩,⟨rfl,rfl,rfl⟩,Nat.le_refl _,λi hi=>rfl⟩
    ·have:hdL q rb rc++List.replicate (4*(p.j+1)) 0=hdL q rb rc++List.replicate (4*p.j) 0++[0,0,0,0]:=by
      rw[List.append_assoc,Nat.mul_add,<-List.replicate_append_replicate];rfl
     show apd q b c l (hdL q rb rc++List.replicate (4*(p.j+1)) 0) _;rw[this];exact p6
    ·have ht:t<p.j+1:=ht;show upd p.g (0+p.j) (p.i.l:Nat) t=_;rw[Nat.zero_add];by_cases c:t=p.j
     ·subst c;unfold upd;simp;omega
     ·have:=p3 t (by omega);unfold upd;simp[c];omega
    ·rw[j5 (by omega) (by omega)];rfl
   ·have hpj:p.j=k.n:=by omega
    refine⟨⟨⟨p.i,0,p.g⟩,⟨h0,Nat.zero_le _,λt ht=>p3 t (by rw[n3,n2]at ht;omega),λk2 ha2 _=>b5X ha2 p1 ?_ rfl rfl⟩,⟨⟨rfl,rfl,rfl,rfl⟩,rfl⟩,⟨rfl,rfl,rfl⟩,Nat.le_refl _,λi hi=>rfl⟩,?_⟩
    ·obtain⟨_,m2,m3,_⟩:=ha2.node;rw[hpj,<-n2,<-m2,<-n3,<-m3]
    rintro p' ⟨_,q1,q2,q3⟩;have hK:=q3 k ha1 hbd1;obtain⟨us,u1,_⟩:=id hK;obtain⟨⟨b1,b2,b3⟩,b4,b5,b6⟩:=ha.off u1;rw[n3,n2]at q1 q2;simp only[b3,e0];refine⟨⟨b1,by omega,by rw[n1.n];rfl⟩,λhlt=>?_,λhge=>?_⟩
    ·obtain⟨s1,s2,s3,s4,s5⟩:=b3z ha1 hbd1 hK (by omega);have s6:=s3.le;have s7:=s3.S;have hg:=q2 p'.j (by omega)
     have hu:wrap .u32 ((p'.i.l:Nat):Int)=((p'.i.l:Nat):Int):=by
      show ((p'.i.l:Nat):Int) % 4294967296=_;omega
     have hby:=(s3.is (l+(33+4*p'.j)+3) (by omega)).i;rw[<-Nat.add_assoc]at hby;have t1:(0:Int)<=(p'.j:Int)/\(p'.j:Int)<(k.n:Int):=by omega
     have t2:(0:Int)<=(p'.j:Int)/\(p'.j:Int)<17:=by omega
     simp only[Nat.zero_add,hg,hu,tN9];refine λ_=>⟨⟨t1,by omega⟩,by omega,⟨by omega,by omega,by omega⟩,⟨⟨by omega,by omega⟩,⟨by omega,s3.D,by omega⟩,hby⟩,t2,λi4=>⟨⟨⟨by omega,by omega,by omega⟩,s4⟩,λhc=>⟨⟨i4,p'.j+1,p'.g⟩,⟨h0,by show p'.j+1<=_;rw[n3,n2];omega,by rw[n3,n2];exact q2,λk2 ha2 hb2=>(b3z ha2 hb2 (q3 k2 ha2 hb2) ?_).2.2.2.2 i4 ?_⟩,by show k.n-(p'.j+1)<k.n-p'.j;omega,⟨⟨rfl,rfl,rfl,rfl⟩,?_⟩,⟨rfl,rfl,rfl⟩,Nat.le_refl _,λi hi=>rfl⟩⟩⟩
     ·obtain⟨_,m2,m3,_⟩:=ha2.node;rw[<-m2,<-m3,n3,n2];omega
     ·obtain⟨_,m2,m3,_⟩:=ha2.node;rw[<-m3,n3];exact hc
     ·rw[j5 (by omega) (by omega)];rfl
    ·have hpj2:p'.j=k.n:=by omega
     refine⟨p'.i,λk2 ha2 hb2=>c2G ha2 (q3 k2 ha2 hb2) ?_,rfl,⟨trivial,rfl,rfl,rfl,rfl⟩⟩;obtain⟨_,m2,m3,_⟩:=ha2.node;rw[<-m2,<-m3,n3,n2];exact hpj2
end
theorem b6i:z0 prog 122 (o9 DI ⟨default⟩ (b2S 0)):=by
 refine a1o x0 func122 rfl (by kernel_rfl) λargs=>?_
 unfold b2S;split;rotate_left;trivial;rename_i n rb rc n1 b c l kk hh;intro o0;try dsimp only
 split;rotate_left;trivial;intro ho;exfalso;obtain⟨_,⟨h1,h2,_⟩,_⟩:=ho;omega
theorem b7W:∀ H,z0 prog 122 (o9 DI ⟨default⟩ (b2S H))
 | 0=>b6i
 | H+1=>c8d H (b7W H)
structure a3k (q:RM) (tb tc b l:Nat) (fp:List Nat) (its:List (Int×Bx)):Prop where
 t:isRT q tb tc fp its
 bf:b∉fp
 bt:b≠tb
 le:its.length<=100
 l:l<=1000
 it:∀ x∈its,0<=x.1/\x.1<4294967296
def a3S(q:RM)(tb tc b c l:Nat)(i:DI):Prop:=∀ fp its,a3k q tb tc b l fp its->∃ us,apd q b c l us i/\i.l<=2000000/\(its=[]->us=[])/\
 (its≠[]->∃ h its' B,its'.Perm its/\h<=100/\bG i l=((h:Nat):Int)/\l+1<=i.l/\Z1 (bG i) h (l+1) i.l its' B)
noncomputable def X9:F3:=⟨G0,[(122,o9 DI ⟨default⟩ (b2S 200))],[],[],[(185,0)]⟩
theorem x9:A7 prog X9:=⟨g0,q8.cons (b7W 200) q8.nil⟩
theorem b9G{q:RM}{b c l k:Nat}(hO:byO q b c l k):apd q b c l [] ⟨q,b,c,l,k⟩ :=
 ⟨hO,rfl,λ_ _=>rfl,λj x hx=>by simp at hx,λx hx=>⟨hx,rfl,λ_ _=>rfl⟩, .inl rfl⟩
section
variable {q:RM} {tb tc b c l kk:Nat} {fp:List Nat} {its:List (Int×Bx)}
theorem b8G(hp:a3k q tb tc b l fp its):q.D tb/\tc+8<=q.S tb/\a7Z (q.F tb (tc+1)):=by
 rcases hp.t with⟨_,_,h1,h2,_,h4,_⟩|⟨_,k,ha,_⟩
 ·exact⟨h1,h2, .inl h4⟩
 ·exact⟨ha.D,ha.S, .inr ⟨_,_,ha.ref⟩⟩
theorem b9o(hO:byO q b c l kk)(hn:R0 (q.F tb (tc+1))=true):a3S q tb tc b c l ⟨q,b,c,l,kk⟩:=by
 intro fp its hp;rcases hp.t with⟨h1,_⟩|⟨_,k,ha,_⟩
 ·exact⟨[],b9G hO,by have:=hp.l;show l<=2000000;omega,λ_=>rfl,λh=>absurd h1 h⟩
 ·rw[ha.ref]at hn;exact absurd hn (λe=>nomatch e)
theorem b4i(hp:a3k q tb tc b l fp its)(hn:R0 (q.F tb (tc+1))=false):∃(h:Nat)(k:Kid),q.F tb tc=.int .i64 (h:Nat)/\h<=100/\W5 q tb (tc+1) h k b/\k.its.Perm its/\k.its.length<=100/\its≠[]:=by
 rcases hp.t with⟨_,_,_,_,_,t4,_⟩|⟨h',k,ha,hk,rfl,hpm,hh,hc⟩
 ·rw[t4]at hn;exact absurd hn (λe=>nomatch e)
 ·have hl:=hpm.length_eq;have hle:=hp.le;have hS:=ha.S;have hcnt:=ha.tr.cnt;refine⟨h',k,ha.hgt,by omega,⟨ha.D,by omega,ha.ref,ha.box,ha.tr,hk.1,λe=>ha.tfp (e▸ha.tr.fp0),ha.nd,hp.bt,hp.bf,λx hx=>hp.it x (hpm.mem_iff.1 hx)⟩,hpm,by omega,λe=>?_⟩;have h0:its.length=0:=by rw[e];rfl
  omega
theorem b0D{h:Nat}{k:Kid}(hp:a3k q tb tc b l fp its)(hh:h<=100)(hk:k.its.length<=100):l+1+102*((h+1)*k.its.length)<=2000000:=by
 have h1:(h+1)*k.its.length<=101*100:=Nat.mul_le_mul (by omega) hk;have:=hp.l;omega
theorem b8l{h:Nat}(hh:q.F tb tc=.int .i64 (h:Nat))(hn:R0 (q.F tb (tc+1))=false){i1 i:DI}(h1:apd q b c l [((h:Nat):Int)] i1)(h2:b2a i1.q tb (tc+1) i1.b i1.c (l+1) h i):a3S q tb tc b c l i:=by
 intro fp its hp;obtain⟨h',k,e1,e2,e3,e4,e5,e6⟩:=b4i hp hn
 have e:h=h':=by
  rw[e1]at hh;simp only[Value.int.injEq,true_and,Int.natCast_inj]at hh;exact hh.symm
 subst e;have hb:=b0D hp e2 e5;obtain⟨us,u1,u2,u3⟩:=h2 k (e3.keep h1) (by omega);have hl1:i1.l=l+1:=h1.n;have hall:=h1.trans (i':=i) (us':=us) (by rw[hl1];exact u1);have hn2:=u1.n;refine⟨_,hall,by omega,λe=>absurd e e6,λ_=>⟨h,k.its,k.B,e4,e2,?_,by omega,u3⟩⟩;have:=a0M hall (j:=0) (x:=((h:Nat):Int)) rfl;simpa using this
end
noncomputable def b2g:List SV->RRd (DI)
 | [.pb n tb tc, .slb n1 b c l kk]=>.read n λo0=>(match I5 o0 with
  | some (ts,q)=>.ret ⟨[.pb 0 tb tc, .slb 0 b c l kk],[(0,rwO ts q)],some (n=n1/\(byO q b c l kk/\∃ fp its,a3k q tb tc b l fp its)),λi=>a3S q tb tc b c l i,λi=>⟨[],[], .slb 0 i.b i.c i.l i.k,[(0,rwO ts (i.q))],[],none⟩⟩
  | none=>.fail)
 | _=>.fail
theorem b7S(R:Option Ob->SV->Prop)(ts:List Nat)(q:RM)(tb tc b c l kk:Nat){T1}(t1:T1=λ(i:ApI)=>(i.6 tb (tc+0))):K8 X9 1 [] [] (p9 f116) (A6 f116.ntmps [.pb 0 tb tc, .slb 0 b c l kk] [(0,rwO ts q)] 1) (A8 X9.G.E.T f116.results.toList λS v=>R (Go.Sx.look S.H 0) v)=(
 (q.1 tb/\tc+1+0<q.2 tb)/\a7Z (q.3 tb (tc+1+0))/\(R0 (q.3 tb (tc+1+0))=true->R (Option.some (Ob.mk true 0 (a9.raw ts (RM.D q) q.2 q.3) 0)) (SV.slb 0 b c l kk))/\(R0 (q.3 tb (tc+1+0))=false->(q.1 tb/\tc+0<q.2 tb
 /\B9 .i64 (q.3 tb (tc+0)))/\∀(i:ApI),appO (RM.D q) q.2 1 1 b c l kk 1/\(P1 (RM.D q) q.2 q.3 1 b c l kk 1 [Value.int .u8 (IntKind.wrap .u8 (p7 (q.3 tb (tc+0))))] i->∀(i_1:DI),(i.4 tb/\tc+0<i.5 tb/\B9 .i64 (T1 i))/\(0 =
 0/\((0:Int)<=p7 (T1 i)/\p7 (T1 i)<(200:Int)/\p7 (T1 i)<(1000:Int))/\b4C (RM.mk (ApI.D i) i.5 i.6) tb (tc+1) i.1 i.2 (l+1) i.3 (Int.toNat (p7 (T1 i))))/\true=true/\(b2a (RM.mk (ApI.D i) i.5 i.6) tb (tc+1) i.1 i.2 (l
 + 1) (Int.toNat (p7 (T1 i))) i_1->R (Option.some (Ob.mk true 0 (a9.raw ts (RM.D (DI.q i_1)) (DI.q i_1).2 (DI.q i_1).3) 0)) (SV.slb 0 (DI.b i_1) (DI.c i_1) (DI.l i_1) (DI.k i_1)))))):=by subst t1;kernel_rfl
theorem c4R:z0 prog 116 (o9 (DI) ⟨default⟩ b2g):=by
 refine D7 x9 func116 rfl (by kernel_rfl) λargs=>?_
 unfold b2g;split;rotate_left;trivial;rename_i n tb tc n1 b c l kk;intro o0;try dsimp only
 split;rotate_left;trivial;rename_i ts q hm0;intro(ho:n=n1/\(byO q b c l kk/\∃ fp its,a3k q tb tc b l fp its));obtain⟨heq0,ho⟩:=ho;subst heq0;refine⟨?_,Nat.succ_pos _,ts,λ(i:DI)=>i.q,λ(i:DI)=>.slb 0 i.b i.c i.l i.k,λ_=>rfl,?_,_,_,(b7S (I7 1 ts (λ(i:DI)=>a3S q tb tc b c l i) (λ(i:DI)=>i.q) (λ(i:DI)=>.slb 0 i.b i.c i.l i.k)) ts q tb tc b c l kk rfl).mpr ?_⟩
 ·refine j8 rfl ⟨λ_=>rfl,?_,⟨trivial,B8 hm0,trivial⟩⟩;simp[q9,z5,z8,z3,nth,g9]
 ·intro i _;rfl
 ·obtain⟨hO,fp,its,hp⟩:=ho;obtain⟨r1,r2,r3⟩:=b8G hp;simp only[true_and,eq_self];simp only[Nat.add_zero];refine⟨⟨r1,by omega⟩,r3,λhn=>⟨⟨q,b,c,l,kk⟩,b9o hO hn,rfl,⟨trivial,rfl,rfl,rfl,rfl⟩⟩,λhn=>?_⟩;obtain⟨h,k,e1,e2,e3,e4,e5,e6⟩:=b4i hp hn;have hl:=hp.l;have e7:p7 (q.F tb tc)=(h:Nat):=by rw[e1];rfl
  have e8:IntKind.wrap .u8 ((h:Nat):Int)=((h:Nat):Int):=by rw[a5s];omega
  simp only[e7,e8];refine⟨⟨r1,by omega,by rw[e1];rfl⟩,λi=>⟨K6 hO (by omega) (by omega),λha=>?_⟩⟩;have p1:=J7 hO (us:=[((h:Nat):Int)]) rfl (by intro x hx;simp at hx;omega) rfl ha;obtain⟨k1,k2,k3⟩:=p1.keep _ r1;have k4:i.F tb tc=.int .i64 (h:Nat):=(k3 (Ne.symm hp.bt) tc).trans e1;have k5:p7 (i.F tb tc)=(h:Nat):=by rw[k4];rfl
  have k1:i.D tb:=k1;have k2:i.S tb=q.S tb:=k2;have hb:=b0D hp e2 e5;simp only[k5,tN9];refine λi'=>⟨⟨k1,by omega,by rw[k4];rfl⟩,⟨⟨by omega,by omega,by omega⟩,⟨p1.o,k,e3.keep p1,by omega⟩⟩,λhc=>⟨i',b8l e1 hn p1 hc,rfl,⟨trivial,rfl,rfl,rfl,rfl⟩⟩⟩
def a3o:a9->Option (Bool×Bool×Bool×Int×Nat×Nat×Nat×Nat×Nm×Nat)
 | .cells [a,b,c, .int .u8 k, .nili, .flt .f64 x, .flt .f64 y, .flt .f64 z, .flt .f64 w, .slcc p n]=>match a.toB with
  | some a=>match b.toB with
   | some b=>match c.toB with
    | some c=>some (a,b,c,k,x,y,z,w,p,n)
    | none=>none
   | none=>none
  | none=>none
 | _=>none
def a0c(cl cw cv:Bool)(k:Int)(x y z w:Nat)(p:Nm)(n:Nat):a9:=.cells [.bool cl, .bool cw, .bool cv, .int .u8 k, .nili, .flt .f64 x, .flt .f64 y, .flt .f64 z, .flt .f64 w, .slcc p n]
theorem R6{σ:Sig}{c:a9}{cl cw cv:Bool}{k:Int}{x y z w:Nat}{p q:Nm}{n:Nat}(h:a3o c=some (cl,cw,cv,k,x,y,z,w,p,n))(hs:L1 (σ q) p):L6 σ c (a0c cl cw cv k x y z w q n):=by
 unfold a3o at h;split at h
 ·split at h
  ·rename_i ha;split at h
   ·rename_i hb;split at h
    ·rename_i hc;simp only[oI9,pI9]at h;obtain⟨rfl,rfl,rfl,rfl,rfl,rfl,rfl,rfl,rfl,rfl⟩:=h;show q9 σ _ _;simp[q9,z5,A0,C0,J9 ha,J9 hb,J9 hc,hs]
    ·cases h
   ·cases h
  ·cases h
 ·cases h
noncomputable def a5H:List SV->RdM
 | []=>.ret ⟨[],[], .ptr 0 0,[],[(0,⟨true,148, .cells [.int .u8 2, .int .i64 64],0⟩)],some (True)⟩
 | _=>.fail
theorem b1B{w9:HC}(e9:w9=⟨[],[], .ptr 0 0,[],[(0,⟨true,148, .cells [.int .u8 2, .int .i64 64],0⟩)],some (True)⟩):J3 G0 0 [] [] (p9 f97) (A6 f97.ntmps w9.args w9.heap 0) (A8 G0.E.T f97.results.toList λS v=>D5 0 w9 S v)=(
 (True/\0=0)/\True/\(148=148/\0=0/\(2:Int)=2/\(64:Int)=64/\True)/\True):=by subst e9;kernel_rfl
theorem b9K:C4 prog 97 (B3 a5H):=by
 refine A5 g0 func97 rfl (by kernel_rfl) λargs=>?_
 unfold a5H;split;rotate_left;trivial
 skip
 intro(ho:True);refine⟨?_,_,_,(b1B rfl).mpr ?_⟩
 ·refine j8 rfl ⟨?_,trivial⟩;simp[q9]
 ·simp
def a8m:a9->Option (Int×Int)
 | .cells [.int .u8 k, .int .i64 m]=>some (k,m)
 | _=>none
def a9E(k m:Int):a9:=.cells [.int .u8 k, .int .i64 m]
theorem a0F{σ:Sig}{c:a9}{k m:Int}(h:a8m c=some (k,m)):L6 σ c (a9E k m):=by
 unfold a8m at h;split at h
 ·simp only[oI9,pI9]at h;obtain⟨rfl,rfl⟩:=h;show q9 σ _ _;simp[q9,z5,A0]
 ·cases h
def c1p(cl cw cv:Bool)(k:Int)(d:Nm)(m:Nat)(x y z w:Nat)(p:Nm)(n:Nat):a9:=.cells [.bool cl, .bool cw, .bool cv, .int .u8 k, .ifc 185 (.slcc d m), .flt .f64 x, .flt .f64 y, .flt .f64 z, .flt .f64 w, .slcc p n]
def byG(q:RM)(b c j:Nat):Int:=p7 (q.F b (c+j))
theorem b6o{q:RM}{b c l kk:Nat}(hO:byO q b c l kk)(v:Int):∀ j,j<l->H2 ((p4R q b (c+1) v).F b (c+j)):=λj hj=>by
 show H2 (pB _ _ _ _ _ b (c+j));unfold pB;by_cases h4:j=4
 ·subst h4;rw[show c+4=c+1+3 by omega,A2];exact H2.mk' (V5 _ _)
 rw[b9 (by omega)];by_cases h3:j=3
 ·subst h3;rw[show c+3=c+1+2 by omega,A2];exact H2.mk' (V5 _ _)
 rw[b9 (by omega)];by_cases h2:j=2
 ·subst h2;rw[show c+2=c+1+1 by omega,A2];exact H2.mk' (V5 _ _)
 rw[b9 (by omega)];by_cases h1:j=1
 ·subst h1;rw[show c+1=c+1+0 by omega,A2];exact H2.mk' (V5 _ _)
 rw[b9 (by omega)];exact hO.is j hj
noncomputable def X10:F3:=⟨G0,[(121,o9 Unit ⟨()⟩ a7F)],[],[],[]⟩
theorem x10:A7 prog X10:=⟨g0,q8.cons b8w q8.nil⟩
noncomputable def b5s:List SV->RRd (Unit)
 | [.ptr s 0, .slb nn b c l kk]=>.read nn λo0=>(match I5 o0 with
  | some (ts,q)=>.read s λo1=>(match a2t o1 150 0 with
  | true=>(match a3o o1.c with
  | some (cl,cw,cv,k,x,y,z,w,p,n)=>.read p λo2=>(match A9 .f64 o2.c with
  | some (m2,g)=>.ret ⟨[.ptr 1 0, .slb 0 b c l kk],[(0,rwO ts q),(1,⟨true,150,a0c cl cw cv k x y z w 2 n,0⟩),(2,⟨false,100, .flts .f64 m2 g,0⟩)],some (m2=2*n/\(byO q b c l kk/\5<=l/\l<=2000000)),λ_i=>True,λ_i=>⟨[],[], .tup [],[(0,rwO ts (p4R q b (c+1) (l:Nat))),(1,⟨true,150,c1p cl cw cv k 3 l x y z w 2 n,0⟩)],[(3,⟨true,5, .ints .u8 l (byG (p4R q b (c+1) (l:Nat)) b c),1⟩)],none⟩⟩
  | none=>.fail)
  | none=>.fail)
  | false=>.fail)
  | none=>.fail)
 | _=>.fail
theorem b9b(ts:List Nat)(q:RM)(b c l kk:Nat)(cl cw cv:Bool)(k:Int)(x y z w:Nat)(_:Nm)(n:Nat)(g:Nat->Nat){T1}(t1:T1=(IntKind.wrap IntKind.u32 (↑l:Int))){T2}(t2:T2=(↑l:Int)){T3}(t3:T3=(pB (pB (pB q.3 b (c+1) T1 0) b (c+1) T1 1) b (c+1) T1 2)){T4}(t4:T4=(RM.mk (RM.D q) (RM.S q) (RM.F q))){T5}(t5:T5=(p4R T4 b (c+toNat (1:Int)*TI.size
 ty5) T1)):K8 X10 3 [] [] (p9 f115) (A6 f115.ntmps [.ptr 1 0, .slb 0 b c l kk] [(0,rwO ts q),(1,⟨true,150,a0c cl cw cv k x y z w 2 n,0⟩),(2,⟨false,100, .flts .f64 (2*n) g,0⟩)] 3) (A8 X10.G.E.T f115.results.toList λS v=>∃ _i:Unit,True/\D5 3 ⟨[],[], .tup [],[(0,rwO ts (p4R q b (c+1) (l:Nat))),(1,⟨true,150,c1p cl cw cv k 3 l x y z w 2 n,0⟩)],[(3,⟨true,5, .ints .u8 l (byG (p4R q b (c+1) (l:Nat)) b c),1⟩)],none⟩ S v)=(
 ∀(_:Unit),((0:Int)<=1/\1<=l/\1<kk)/\(((0:Int)<=IntKind.wrap IntKind.u32 T2/\IntKind.wrap IntKind.u32 T2<4294967296)/\(4<=l-1/\q.1 b/\c+1+4<=T4.2 b)/\B9 .u8 (T4.3 b (c+1+3)))/\true=true/\(True->(T2=T2/\(0
 : Int)<=T2/\T2<=9223372036854775807/\T2*1<=(140737488355328:Int))/\(l=toNat T2/\toNat T2*1=toNat T2*1/\0<toNat T2*1/\q.1 b/\c+toNat T2*1<=T5.2 b/\∀(j:Nat),j<toNat T2*1->B9 .u8 (pB T3
 b (c+1) T1 3 b (c+j)))/\∃(_:Unit),True/\True/\True/\(0=0/\0=0/\ts=ts/\pB T3 b (c+1) T1 3=pB (pB (pB (pB q.3 b (c+1) T2 0) b (c+1) T2 1) b (c+1) T2 2) b (c+1) T2 3/\q.2=q.2/\RM.D T5=RM.D (p4R q b (c+1) T2))/\
 True/\(150=150/\0=0/\cl=cl/\cw=cw/\cv=cv/\k=k/\(True/\toNat T2=l)/\x=x/\y=y/\z=z/\w=w/\(True/\n=n)/\True)/\True/\(5=5/\1=1/\l<=toNat T2*1/\∀(i:Nat),i<l->p7 (pB T3 b (c+1) T1 3 b (c
 + i))=byG (p4R q b (c+1) T2) b c i)/\True)):=by subst t1 t2 t3 t4 t5;kernel_rfl
theorem c7Y:z0 prog 115 (o9 (Unit) ⟨()⟩ b5s):=by
 refine G7 x10 func115 rfl (by kernel_rfl) λargs=>?_
 unfold b5s;split;rotate_left;trivial;rename_i s nn b c l kk;intro o0;try dsimp only
 split;rotate_left;trivial;rename_i ts q hm0;intro o1;try dsimp only
 split;rotate_left;trivial;rename_i hrw1;try dsimp only
 split;rotate_left;trivial;rename_i cl cw cv k x y z w p n hm1;intro o2;try dsimp only
 split;rotate_left;trivial;rename_i m2 g hm2;intro(ho:m2=2*n/\(byO q b c l kk/\5<=l/\l<=2000000));obtain⟨hsz2,ho⟩:=ho;subst hsz2;refine⟨?_,_,_,(b9b ts q b c l kk cl cw cv k x y z w p n g rfl rfl rfl rfl rfl).mpr ?_⟩
 ·refine j8 rfl ⟨λ_=>rfl,?_,⟨trivial,B8 hm0,⟨trivial,Q6 hrw1 (R6 hm1 g9),⟨trivial,(C6 hm2).1,trivial⟩⟩⟩⟩;simp[q9,z5,z8,z3,nth,g9]
 ·obtain⟨hO,h5,hl⟩:=ho
  have hu:IntKind.wrap .u32 ((l:Nat):Int)=((l:Nat):Int):=by
   show ((l:Nat):Int) % 4294967296=_;omega
  have hk:=hO.le;have hS:=hO.S;have hb4:=(hO.is 4 (by omega)).i;have hby:=b6o hO ((l:Nat):Int);simp only[true_and,and_true,eq_self,tN9,Nat.mul_one,true_implies,Int.reduceLE];simp only[hu];refine λ_=>⟨⟨by omega,by omega⟩,⟨⟨by omega,by omega⟩,⟨by omega,hO.D,by show c+1+4<=q.S b;omega⟩,hb4⟩,⟨by omega,by omega,by omega⟩,⟨by omega,hO.D,by show c+l<=q.S b;omega,λj hj=>(hby j hj).i⟩,(),?_⟩
  exact⟨⟨trivial,rfl⟩,Nat.le_refl _,λi hi=>rfl⟩
end Go.Proofs.Tryz.Sx

namespace Go.Fl
open Go Go.Sx Ieee
def FU(x:Nat)(n:Int)(u:Nat):Prop:=Fin x/\V x=n*2 ^ u
theorem FU.up{x:Nat}{n:Int}{u v k:Nat}(h:FU x n v)(hu:v=u+k):FU x (n*2 ^ k) u:=by
 refine⟨h.1,?_⟩;rw[h.2,hu,Int.pow_add,Int.mul_comm (2 ^ u:Int),<-Int.mul_assoc]
theorem a8g(neg:Bool){mag k u:Nat}{place:Int}(hu:u<=2000)(hp : -1074<=place)(hk0:k≠0)(hk:k<2 ^ 53)(h:mag*2 ^ (place+1074).toNat=k*2 ^ u) :
  FU (double.nearest neg mag place) (if neg then -(k:Int)else(k:Int)) u:=by
 have hkl:k.log2<=52:=by
  have:=(Nat.log2_lt hk0).2 hk;omega
 by_cases hs:(place+1074).toNat<=u
 ·have e:mag=k*2 ^ (u-(place+1074).toNat):=by
   have e1:u=(u-(place+1074).toNat)+(place+1074).toNat:=by omega
   have h':=h;rw[e1,Nat.pow_add,<-Nat.mul_assoc]at h';have:=Nat.eq_of_mul_eq_mul_right (Nat.two_pow_pos _) h';exact this
  subst e;obtain⟨h1,h2⟩:=N6 neg hk0 hk (sh:=u-(place+1074).toNat) (place:=place) (by omega) (by omega);refine⟨h1,?_⟩;rw[h2];have e2:(place+((u-(place+1074).toNat:Nat):Int)+1074).toNat=u:=by omega
  rw[e2,Int.natCast_mul,Int.natCast_pow];cases neg <;> simp[Int.neg_mul]
 ·have e:k=mag*2 ^ ((place+1074).toNat-u):=by
   have e1:(place+1074).toNat=((place+1074).toNat-u)+u:=by omega
   rw[e1,Nat.pow_add,<-Nat.mul_assoc]at h;exact(Nat.eq_of_mul_eq_mul_right (Nat.two_pow_pos _) h).symm
  have hm0:mag≠0:=λe0=>hk0 (by rw[e,e0,Nat.zero_mul])
  have hle:mag<=k:=by rw[e];exact Nat.le_mul_of_pos_right _ (Nat.two_pow_pos _)
  have hlog:k.log2=mag.log2+((place+1074).toNat-u):=by
   conv=>lhs;rw[e]
   rw[a0w hm0]
  obtain⟨h1,h2⟩:=N6 neg hm0 (Nat.lt_of_le_of_lt hle hk) (sh:=0) (place:=place) (by omega) (by omega);rw[Nat.pow_zero,Nat.mul_one]at h1 h2;refine⟨h1,?_⟩;rw[h2];have e2:(place+(0:Nat)+1074).toNat=((place+1074).toNat-u)+u:=by omega
  rw[e2,Nat.pow_add,<-Nat.mul_assoc,<-e,Int.natCast_mul,Int.natCast_pow];cases neg <;> simp[Int.neg_mul]
theorem c3n{s t:Bool}{m n:Nat}{i j:Int}{a b:Int}{u:Nat}(hu:u<=2000)(hi : -1074<=i)(hj : -1074<=j)(h1:signed s m (i+1074).toNat=a*2 ^ u)(h2:signed t n (j+1074).toNat=b*2 ^ u)
  (hab:(a+b).natAbs<2 ^ 53):∃ d,Datum.sum (.number s m i) (.number t n j)=some d/\FU (double.write d) (a+b) u:=by
 refine⟨_,rfl,?_⟩;simp only[Format.write];generalize htot:signed s m (i-min i j).toNat+signed t n (j-min i j).toNat=tot;have e1:(i+1074).toNat=(i-min i j).toNat+(min i j+1074).toNat:=by omega
 have e2:(j+1074).toNat=(j-min i j).toNat+(min i j+1074).toNat:=by omega
 have hkey:tot*2 ^ (min i j+1074).toNat=(a+b)*2 ^ u:=by
  rw[Int.add_mul,<-h1,<-h2,e1,e2,L0,L0,<-Int.add_mul,htot]
 have hpos:∀ k:Nat,(2:Int) ^ k≠0:=λk=>Int.ne_of_gt (G1 k)
 by_cases h0:tot=0
 ·have:a+b=0:=by
   rw[h0,Int.zero_mul]at hkey;rcases Int.mul_eq_zero.1 hkey.symm with h|h
   ·exact h
   ·exact absurd h (hpos _)
  rw[this];have hz:tot.natAbs=0:=by rw[h0];rfl
  unfold Format.nearest;rw[if_pos hz];exact⟨(P0 _).1,by rw[(P0 _).2];simp⟩
 ·have hab0:a+b≠0:=by
   intro e;rw[e,Int.zero_mul]at hkey;rcases Int.mul_eq_zero.1 hkey with h|h
   ·exact h0 h
   ·exact absurd h (hpos _)
  have hk:tot.natAbs*2 ^ (min i j+1074).toNat=(a+b).natAbs*2 ^ u:=by
   have:=congrArg Int.natAbs hkey;rw[Int.natAbs_mul,Int.natAbs_mul,C7,C7]at this;exact this
  rw[if_neg h0];have:=a8g (decide (tot<0)) hu (by omega) (by omega:(a+b).natAbs≠0) hab hk
  have hsign:tot<0↔a+b<0:=by
   have hp1:=G1 (min i j+1074).toNat;have hp2:=G1 u;constructor
   ·intro h;have h3:tot*2 ^ (min i j+1074).toNat<0:=Int.mul_neg_of_neg_of_pos h hp1;rw[hkey]at h3;rcases Int.lt_or_le (a+b) 0 with h4|h4
    ·exact h4
    ·have:=Int.mul_nonneg h4 (Int.le_of_lt hp2);omega
   ·intro h;have h3:(a+b)*2 ^ u<0:=Int.mul_neg_of_neg_of_pos h hp2;rw[<-hkey]at h3;rcases Int.lt_or_le tot 0 with h4|h4
    ·exact h4
    ·have:=Int.mul_nonneg h4 (Int.le_of_lt hp1);omega
  have hval:(if decide (tot<0)then -((a+b).natAbs:Int)else((a+b).natAbs:Int))=a+b:=by
   by_cases h:tot<0
   ·simp only[h,decide_true,if_true];have:=hsign.1 h;omega
   ·simp only[h,decide_false,Bool.false_eq_true,if_false];have:=mt hsign.2 h;omega
  rw[hval]at this;exact this
theorem c2J{x y:Nat}{a b:Int}{u:Nat}(hu:u<=2000)(hx:FU x a u)(hy:FU y b u)(h:(a+b).natAbs<2 ^ 53):∃ r,double.add x y=some r/\FU r (a+b) u:=by
 obtain⟨s,m,i,h1,h2,h3,_⟩:=B6 hx.1;obtain⟨t,n,j,h4,h5,h6,_⟩:=B6 hy.1;rw[hx.2]at h3;rw[hy.2]at h6;obtain⟨d,hd,hr⟩:=c3n hu h2 h5 h3 h6 h;refine⟨_,?_,hr⟩;unfold Format.add;rw[h1,h4,hd];rfl
theorem a6p:double.read 4611686018427387904=.number false (2 ^ 52) (-51):=by decide
theorem b8Q{x r:Nat}{a:Int}{u:Nat}(hu:1000<=u)(hu2:u<=1900)(hx:FU x a (u+1))(ha:a.natAbs<2 ^ 53)(h:D4 .f64 x 4611686018427387904 r):FU r a u:=by
 obtain⟨s,m,i,h1,h2,h3,hm⟩:=B6 hx.1;rw[hx.2]at h3
 have hma:m*2 ^ (i+1074).toNat=a.natAbs*2 ^ (u+1):=by
  have:=congrArg Int.natAbs h3;rw[C9,Int.natAbs_mul,C7]at this;exact this
 have hpos:∀ k:Nat,(2:Nat) ^ k≠0:=λk=>Nat.ne_of_gt (Nat.two_pow_pos _)
 by_cases ha0:a=0
 ·have hm0:m=0:=by
   rw[ha0,Int.natAbs_zero,Nat.zero_mul]at hma;rcases Nat.mul_eq_zero.1 hma with h|h
   ·exact h
   ·exact absurd h (hpos _)
  subst hm0
  have hdiv:double.div x 4611686018427387904=some (double.word (s ^^ false) 0):=by
   unfold Format.div;rw[h1,a6p];simp only[Datum.quotient,hpos 52,if_false,Option.map_some,Format.write,Nat.zero_shiftLeft,Nat.zero_div,Nat.zero_mod,bne_self_eq_false,Bool.toNat_false,Nat.mul_zero,Nat.add_zero];unfold Format.nearest;simp
  have:floatBits .quo .f64 x 4611686018427387904=some (double.word (s ^^ false) 0):=hdiv;unfold D4 at h;rw[this]at h;subst h;exact⟨(P0 _).1,by rw[(P0 _).2,ha0];simp⟩
 ·have hm0:m≠0:=λe=>by
   rw[e,Nat.zero_mul]at hma;rcases Nat.mul_eq_zero.1 hma.symm with h|h
   ·exact ha0 (Int.natAbs_eq_zero.1 h)
   ·exact hpos _ h
  have hlm:m.log2<=52:=by
   have:=(Nat.log2_lt hm0).2 hm;omega
  have hi:(u:Int)-1127<i:=by
   rcases Int.lt_or_le ((u:Int)-1127) i with hc|hc
   ·exact hc
   ·exfalso;have e1:(i+1074).toNat+53<=u+1:=by omega
    have e2:m*2 ^ (i+1074).toNat<2 ^ 53*2 ^ (i+1074).toNat:=Nat.mul_lt_mul_of_pos_right hm (Nat.two_pow_pos _);rw[<-Nat.pow_add]at e2;have e3:2 ^ (53+(i+1074).toNat)<=2 ^ (u+1):=Nat.pow_le_pow_right (by decide) (by omega);have e4:1*2 ^ (u+1)<=a.natAbs*2 ^ (u+1):=Nat.mul_le_mul_right _ (by omega);omega
  have hmo:∃ z7,z7=54+(2 ^ 52).log2-m.log2/\54<=z7/\z7<=106:=by
   have:(2 ^ 52:Nat).log2=52:=by decide
   exact⟨_,rfl,by omega,by omega⟩
  obtain⟨z7,hmore,hm1,hm2⟩:=hmo
  have hq:m*2 ^ z7=m*2 ^ (z7-52)*2 ^ 52:=by
   rw[Nat.mul_assoc,<-Nat.pow_add];congr 2;omega
  have hdiv:double.div x 4611686018427387904=some (double.nearest (s ^^ false) (2*(m*2 ^ (z7-52))) (i-(-51)-z7-1)):=by
   unfold Format.div;rw[h1,a6p];simp only[Datum.quotient,hpos 52,if_false,frb,Option.map_some,Format.write];rw[show (52+2)+(2 ^ 52:Nat).log2-m.log2=z7 from hmore.symm,Nat.shiftLeft_eq,hq,Nat.mul_div_cancel _ (Nat.two_pow_pos 52),Nat.mul_mod_left];simp
  have:floatBits .quo .f64 x 4611686018427387904=some (double.nearest (s ^^ false) (2*(m*2 ^ (z7-52))) (i-(-51)-z7-1)):=hdiv;unfold D4 at h;rw[this]at h;subst h
  have hk:2*(m*2 ^ (z7-52))*2 ^ (i-(-51)-z7-1+1074).toNat=a.natAbs*2 ^ u:=by
   have e1:2*(m*2 ^ (z7-52))*2 ^ (i-(-51)-z7-1+1074).toNat*2=m*2 ^ (i+1074).toNat:=by
    have e2:1+(z7-52)+(i-(-51)-z7-1+1074).toNat+1=(i+1074).toNat:=by omega
    rw[<-e2,Nat.pow_add,Nat.pow_add,Nat.pow_add,Nat.pow_one]
    ac_rfl
   rw[hma,Nat.pow_succ]at e1;have e3:a.natAbs*(2 ^ u*2)=a.natAbs*2 ^ u*2:=by rw[Nat.mul_assoc]
   rw[e3]at e1;exact Nat.eq_of_mul_eq_mul_right (show 0<2 by decide) e1
  have hn:=a8g (s ^^ false) (u:=u) (by omega) (place:=i-(-51)-z7-1) (by omega) (by omega:a.natAbs≠0) ha hk
  have hsg:=b8K h3 (by
   intro e;rcases Int.mul_eq_zero.1 e with e|e
   ·exact ha0 e
   ·exact absurd e (Int.ne_of_gt (G1 _)))
  have hp:=G1 (u+1)
  have e:(if (s ^^ false)=true then -((a.natAbs:Nat):Int)else((a.natAbs:Nat):Int))=a:=by
   rw[Bool.xor_false,hsg];by_cases hneg:a<0
   ·have:a*2 ^ (u+1)<0:=Int.mul_neg_of_neg_of_pos hneg hp;simp only[this,decide_true,if_true];omega
   ·have:¬a*2 ^ (u+1)<0:=by
     have:=Int.mul_nonneg (show 0<=a by omega) (Int.le_of_lt hp);omega
    simp only[this,decide_false,Bool.false_eq_true,if_false];omega
  rw[e]at hn;exact hn
end Go.Fl

namespace Go.Proofs.Tryz.Sx
open Go Go.Sx Go.Proofs Go.Fl Go.Geo
set_option maxRecDepth 100000
def mid(x y:Nat):Nat:=fdiv (fop .add .f64 x y) 4611686018427387904
def midOk(x y:Nat):Prop:=fok .add .f64 x y/\b1Z (fop .add .f64 x y) 4611686018427387904
structure Q4 where
 x0:Nat
 y0:Nat
 x1:Nat
 y1:Nat
def qb0(q:Q4)(k:Int):Nat:=if k=0∨k=2 then q.x0 else mid q.x0 q.x1
def qb1(q:Q4)(k:Int):Nat:=if k=0∨k=1 then mid q.y0 q.y1 else q.y0
def qb2(q:Q4)(k:Int):Nat:=if k=0∨k=2 then mid q.x0 q.x1 else q.x1
def qb3(q:Q4)(k:Int):Nat:=if k=0∨k=1 then q.y1 else mid q.y0 q.y1
def qbV(q:Q4)(k:Int):Q4:=⟨qb0 q k,qb1 q k,qb2 q k,qb3 q k⟩
def cqV(q r:Q4):Int :=
 if fLt .f64 r.x1 (mid q.x0 q.x1)=true then(if fLt .f64 r.y1 (mid q.y0 q.y1)=true then 2 else if fLt .f64 r.y0 (mid q.y0 q.y1)=true then -1 else 0)
 else if fLt .f64 r.x0 (mid q.x0 q.x1)=true then -1 else if fLt .f64 r.y1 (mid q.y0 q.y1)=true then 3 else if fLt .f64 r.y0 (mid q.y0 q.y1)=true then -1 else 1
def b0F:PF:=fun
 | [.agg [.flt .f64 a, .flt .f64 b, .flt .f64 c, .flt .f64 d], .int .i64 k]=>some (.agg [.flt .f64 (qbV ⟨a,b,c,d⟩ k).x0, .flt .f64 (qbV ⟨a,b,c,d⟩ k).y0, .flt .f64 (qbV ⟨a,b,c,d⟩ k).x1, .flt .f64 (qbV ⟨a,b,c,d⟩ k).y1],some ((midOk a c/\midOk b d)/\0<=k/\k<4))
 | _=>none
theorem b8p(R:SV->Prop)(a b c d:Nat)(k:Int){T1}(t1:T1=(fop BinOp.add .f64 b d)){T2}(t2:T2=(fop BinOp.add .f64 a c)):J3 G0 0 [] [] (p9 f124) (A6 f124.ntmps [.agg [.flt .f64 a, .flt .f64 b, .flt .f64 c, .flt .f64 d], .int .i64 k] [] 0) (A8 G0.E.T f124.results.toList λ_ v=>R v)=(
 ((k==(0:Int))=true->fok BinOp.add .f64 b d/\∀(r:Nat),D4 .f64 T1 4611686018427387904 r->fok BinOp.add .f64 a c/\∀(r_1:Nat),D4 .f64 T2 4611686018427387904 r_1->R (SV.agg [SV.flt .f64 a,SV.flt .f64 r,SV.flt .f64 r_1,SV.flt
 .f64 d]))/\((k==(0:Int))=false->((k==(1:Int))=true->fok BinOp.add .f64 a c/\∀(r:Nat),D4 .f64 T2 4611686018427387904 r->fok BinOp.add .f64 b d/\∀(r_1:Nat),D4 .f64 T1 4611686018427387904 r_1->R (SV.agg [SV.flt .f64 r,
 SV.flt .f64 r_1,SV.flt .f64 c,SV.flt .f64 d]))/\((k==(1:Int))=false->((k==(2:Int))=true->fok BinOp.add .f64 a c/\∀(r:Nat),D4 .f64 T2 4611686018427387904 r->fok BinOp.add .f64 b d/\∀(r_1:Nat),D4 .f64 T1
 4611686018427387904 r_1->R (SV.agg [SV.flt .f64 a,SV.flt .f64 b,SV.flt .f64 r,SV.flt .f64 r_1]))/\((k==(2:Int))=false->((k==(3:Int))=true->fok BinOp.add .f64 a c/\∀(r:Nat),D4 .f64 T2 4611686018427387904 r->fok BinOp.add
 .f64 b d/\∀(r_1:Nat),D4 .f64 T1 4611686018427387904 r_1->R (SV.agg [SV.flt .f64 r,SV.flt .f64 b,SV.flt .f64 c,SV.flt .f64 r_1]))/\((k==(3:Int))=false->R (SV.agg [SV.flt .f64 0,SV.flt .f64 0,SV.flt .f64 0,SV.flt .f64 0])))))):=by subst t1 t2;kernel_rfl
theorem c2i:E8 prog 124 b0F:=by
 refine G6 g0 func124 rfl (by kernel_rfl) ?_;intro args v p h hp;unfold b0F at h;split at h
 ·rename_i a b c d k;injection h with h;injection h with h1 h2;subst h1 h2
  have hp:(midOk a c/\midOk b d)/\0<=k/\k<4:=hp;refine⟨rfl,_,_,(b8p _ a b c d k rfl rfl).mpr ?_⟩;obtain⟨⟨⟨h1,h2⟩,⟨h3,h4⟩⟩,h5,h6⟩:=hp;have hk:k=0∨k=1∨k=2∨k=3:=by omega
  rcases hk with rfl|rfl|rfl|rfl
  ·refine⟨λ_=>⟨h3,λr hr=>⟨h1,λr1 hr1=>?_⟩⟩,λh=>absurd h (by decide)⟩;rw[S8 hr h4,S8 hr1 h2];simp[qbV,qb0,qb1,qb2,qb3,eqv,a2v,C0,mid]
  ·refine⟨λh=>absurd h (by decide),λ_=>⟨λ_=>⟨h1,λr hr=>⟨h3,λr1 hr1=>?_⟩⟩,λh=>absurd h (by decide)⟩⟩;rw[S8 hr h2,S8 hr1 h4];simp[qbV,qb0,qb1,qb2,qb3,eqv,a2v,C0,mid]
  ·refine⟨λh=>absurd h (by decide),λ_=>⟨λh=>absurd h (by decide),λ_=>⟨λ_=>⟨h1,λr hr=>⟨h3,λr1 hr1=>?_⟩⟩,λh=>absurd h (by decide)⟩⟩⟩;rw[S8 hr h2,S8 hr1 h4];simp[qbV,qb0,qb1,qb2,qb3,eqv,a2v,C0,mid]
  ·refine⟨λh=>absurd h (by decide),λ_=>⟨λh=>absurd h (by decide),λ_=>⟨λh=>absurd h (by decide),λ_=>⟨λ_=>⟨h1,λr hr=>⟨h3,λr1 hr1=>?_⟩⟩,λh=>absurd h (by decide)⟩⟩⟩⟩;rw[S8 hr h2,S8 hr1 h4];simp[qbV,qb0,qb1,qb2,qb3,eqv,a2v,C0,mid]
 ·cases h
noncomputable def b9r:List SV->RRd (Unit)
 | [.pb n b c, .agg [.flt .f64 x0, .flt .f64 y0, .flt .f64 x1, .flt .f64 y1], .agg [.flt .f64 r0, .flt .f64 r1, .flt .f64 r2, .flt .f64 r3]]=>.read n λo0=>(match I5 o0 with
  | some (ts,q)=>.ret ⟨[.pb 0 b c, .agg [.flt .f64 x0, .flt .f64 y0, .flt .f64 x1, .flt .f64 y1], .agg [.flt .f64 r0, .flt .f64 r1, .flt .f64 r2, .flt .f64 r3]],[(0,rwO ts q)],some ((midOk x0 x1/\midOk y0 y1)),λ_i=>True,λ_i=>⟨[],[], .int .i64 (cqV ⟨x0,y0,x1,y1⟩ ⟨r0,r1,r2,r3⟩),[(0,rwO ts (q))],[],none⟩⟩
  | none=>.fail)
 | _=>.fail
theorem c2I(R:Option Ob->SV->Prop)(ts:List Nat)(q:RM)(b c:Nat)(x0 y0 x1 y1 r0 r1 r2 r3:Nat){T1}(t1:T1=(Option.some (Ob.mk true 0 (a9.raw ts (RM.D q) q.2 q.3) 0))){T2}(t2:T2=(SV.int .i64 (-1:Int))):K8 X0 1 [] [] (p9 f123) (A6 f123.ntmps [.pb 0 b c, .agg [.flt .f64 x0, .flt .f64 y0, .flt .f64 x1, .flt .f64 y1], .agg [.flt .f64 r0, .flt .f64 r1, .flt .f64 r2, .flt .f64 r3]] [(0,rwO ts q)] 1) (A8 X0.G.E.T f123.results.toList λS v=>R (Go.Sx.look S.H 0) v)=(
 fok BinOp.add .f64 x0 x1/\∀(r:Nat),D4 .f64 (fop BinOp.add .f64 x0 x1) 4611686018427387904 r->fok BinOp.add .f64 y0 y1/\∀(r_1:Nat),D4 .f64 (fop BinOp.add .f64 y0 y1) 4611686018427387904 r_1->(fLt .f64 r2 r=true->(fLt .f64 r3 r_1
 = true->R T1 (SV.int .i64 (2:Int)))/\(fLt .f64 r3 r_1=false->(fLt .f64 r1 r_1=true->R T1 T2)/\(fLt .f64 r1 r_1=false->R T1 (SV.int .i64 (0:Int)))))/\(fLt .f64 r2 r=false->(fLt .f64 r0 r=true->R T1 T2)/\(fLt .f64 r0 r=false->
 (fLt .f64 r3 r_1=true->R T1 (SV.int .i64 (3:Int)))/\(fLt .f64 r3 r_1=false->(fLt .f64 r1 r_1=true->R T1 T2)/\(fLt .f64 r1 r_1=false->R T1 (SV.int .i64 (1:Int))))))):=by subst t1 t2;kernel_rfl
theorem rCq:z0 prog 123 (o9 (Unit) ⟨()⟩ b9r):=by
 refine D7 x0 func123 rfl (by kernel_rfl) λargs=>?_
 unfold b9r;split;rotate_left;trivial;rename_i n b c x0 y0 x1 y1 r0 r1 r2 r3;intro o0;try dsimp only
 split;rotate_left;trivial;rename_i ts q hm0;intro(ho:(midOk x0 x1/\midOk y0 y1));refine⟨?_,Nat.succ_pos _,ts,λ(_i:Unit)=>q,λ(_i:Unit)=>.int .i64 (cqV ⟨x0,y0,x1,y1⟩ ⟨r0,r1,r2,r3⟩),λ_=>rfl,?_,_,_,(c2I (I7 1 ts (λ(_i:Unit)=>True) (λ(_i:Unit)=>q) (λ(_i:Unit)=>.int .i64 (cqV ⟨x0,y0,x1,y1⟩ ⟨r0,r1,r2,r3⟩))) ts q b c x0 y0 x1 y1 r0 r1 r2 r3 rfl rfl).mpr ?_⟩
 ·refine j8 rfl ⟨λ_=>rfl,?_,⟨trivial,B8 hm0,trivial⟩⟩;simp[q9,z5,C0,z8,z3,nth,g9]
 ·intro _i _;rfl
 ·obtain⟨⟨h1,h2⟩,⟨h3,h4⟩⟩:=ho;refine⟨h1,λr hr=>⟨h3,λr' hr'=>?_⟩⟩;obtain rfl:r=mid x0 x1:=S8 hr h2;obtain rfl:r'=mid y0 y1:=S8 hr' h4;have hR:∀ i:Int,i=cqV ⟨x0,y0,x1,y1⟩ ⟨r0,r1,r2,r3⟩->I7 1 ts (λ_i:Unit=>True) (λ_i=>q) (λ_i=>.int .i64 (cqV ⟨x0,y0,x1,y1⟩ ⟨r0,r1,r2,r3⟩)) (some ⟨true,0, .raw ts q.D q.S q.F,0⟩) (.int .i64 i):=λi hi=>⟨(),trivial,rfl,by rw[hi];simp[z5,A0]⟩
  generalize I7 1 ts (λ_i:Unit=>True) (λ_i=>q) (λ_i=>.int .i64 (cqV ⟨x0,y0,x1,y1⟩ ⟨r0,r1,r2,r3⟩)) (some ⟨true,0, .raw ts q.D q.S q.F,0⟩)=R at hR ⊢;unfold cqV at hR;refine⟨λa1=>⟨λa2=>hR _ ?_,λa2=>⟨λa3=>hR _ ?_,λa3=>hR _ ?_⟩⟩,λa1=>⟨λa2=>hR _ ?_,λa2=>⟨λa3=>hR _ ?_,λa3=>⟨λa4=>hR _ ?_,λa4=>hR _ ?_⟩⟩⟩⟩
  all_goals simp_all
theorem c8f:C4 prog 123 (a4s (o9 Unit ⟨()⟩ b9r) ()):=a9Y rCq () λ_=>rfl
open Ieee in
theorem b8N{x:Nat}(hx:Fl.Fin x):b1Z x 4611686018427387904:=by
 obtain⟨s,m,i,h1,_⟩:=B6 hx;show (Format.div double x 4611686018427387904).isSome=true;unfold Format.div;rw[h1,a6p];simp only[Datum.quotient,Nat.ne_of_gt (Nat.two_pow_pos 52),if_false];rfl
theorem b7c{x y:Nat}(h:b1Z x y):D4 .f64 x y (fdiv x y):=by
 unfold b1Z at h;unfold D4 fdiv
 cases hq:floatBits .quo .f64 x y with
 | none=>rw[hq]at h;cases h
 | some v=>rfl
theorem b8d{x y:Nat}{a b:Int}{u:Nat}(hu:1000<=u)(hu2:u<=1899)(hx:FU x a (u+1))(hy:FU y b (u+1))(h:(a+b).natAbs<2 ^ 53):midOk x y/\FU (mid x y) (a+b) u:=by
 obtain⟨r,h1,h2⟩:=c2J (by omega) hx hy h;have e1:floatBits .add .f64 x y=some r:=h1;have e2:fop .add .f64 x y=r:=by unfold fop;rw[e1];rfl
 have e3:fok .add .f64 x y:=by unfold fok;rw[e1];rfl
 have e4:b1Z (fop .add .f64 x y) 4611686018427387904:=by rw[e2];exact b8N h2.1
 refine⟨⟨e3,e4⟩,?_⟩;exact b8Q hu (by omega) (by rw[<-e2]at h2;exact h2) h (b7c e4)
noncomputable def b5A:List SV->RdM
 | [.int .i64 k, .int .i64 m]=>.ret ⟨[.int .i64 k, .int .i64 m],[], .ptr 0 0,[],[(0,⟨true,148, .cells [.int .u8 (IntKind.u8.wrap k), .int .i64 m],0⟩)],some (True)⟩
 | _=>.fail
theorem b9D(k m:Int){w9:HC}(e9:w9=⟨[.int .i64 k, .int .i64 m],[], .ptr 0 0,[],[(0,⟨true,148, .cells [.int .u8 (IntKind.u8.wrap k), .int .i64 m],0⟩)],some (True)⟩):J3 G0 0 [] [] (p9 f64) (A6 f64.ntmps w9.args w9.heap 0) (A8 G0.E.T f64.results.toList λS v=>D5 0 w9 S v)=(
 (True/\0=0)/\True/\(148=148/\0=0/\IntKind.wrap .u8 k=IntKind.wrap .u8 k/\m=m/\True)/\True):=by subst e9;kernel_rfl
theorem c7W:C4 prog 64 (B3 b5A):=by
 refine A5 g0 func64 rfl (by kernel_rfl) λargs=>?_
 unfold b5A;split;rotate_left;trivial;rename_i k m;intro(ho:True);refine⟨?_,_,_,(b9D k m rfl).mpr ?_⟩
 ·refine j8 rfl ⟨?_,trivial⟩;simp[q9,z5,A0]
 ·simp
def GPT:Ctx:=⟨⟨tys,[]⟩,[(75,z4 ptF)]⟩
theorem gPT:B7 prog GPT:=⟨⟨E1,FlatsOk.nil⟩,j9.cons (.pure pt) j9.nil,by kernel_rfl⟩
def fI(g:Nat->Int)(j:Nat):Nat:=ofI .f64 (g j)
def c7p(len:Nat)(g:Nat->Int):Fam:=⟨Nat,λi =>
 ⟨19,[(3, .slcc 1 i),(6, .slcc 0 len),(7, .int .i64 len),(8, .int .i64 i)],[(0,⟨false,23, .ints .i64 (2*len) g,0⟩),(1,⟨true,100, .flts .f64 (2*i) (fI g),2⟩)],2⟩,λi=>i<=len,λi=>len-i⟩
theorem b4y{i:Nat}{g:Nat->Nat}{x y:Nat}(hx:x=g (2*i))(hy:y=g (2*i+1)):∀ j,j<2*(i+1)->z7 (2*i) g [x,y] 0 j=g j:=by
 intro j hj;subst hx hy;unfold z7;split
 ·rfl
 ·have:j=2*i∨j=2*i+1:=by omega
  rcases this with rfl|rfl <;> simp
noncomputable def c2M:List SV->RdM
 | [.slcc n len]=>.read n λo0=>(match y7 .i64 o0.c with
  | some (m0,g)=>.ret ⟨[.slcc 0 len],[(0,⟨false,23, .ints .i64 m0 g,0⟩)], .slcc 1 len,[],[(1,⟨true,100, .flts .f64 (2*len) (fI g),2⟩)],some (m0=2*len/\len<=1000000)⟩
  | none=>.fail)
 | _=>.fail
theorem c1Y(len:Nat)(g:Nat->Int){w9:HC}(e9:w9=⟨[.slcc 0 len],[(0,⟨false,23, .ints .i64 (2*len) g,0⟩)], .slcc 1 len,[],[(1,⟨true,100, .flts .f64 (2*len) (fI g),2⟩)],some (2*len=2*len/\len<=1000000)⟩){T1}(t1:T1=(↑len:Int)){T2}(t2:T2=λ(i:Nat)=>(↑i:Int))
 {T3}(t3:T3=λ(i:Nat)=>(2*len<=2*len/\∀(i:Nat),i<2*len->g i=g i)):J3 GPT 1 [(3,c7p len g)] [] (p9 f74) (A6 f74.ntmps w9.args w9.heap 1) (A8 GPT.E.T f74.results.toList λS v=>D5 1 w9 S v)=(
 (∃(i:Nat),i<=len/\(i=0/\(True/\len=len)/\T1=T1/\0=(T2 i)/\True)/\True/\(T3 i)/\True/\2*i=0/\True)/\∀(i:Nat),i<=len->(decide ((T2 i)<T1)=true->((0<=(T2 i)/\(T2 i)<T1)/\1<=2*len)/\0+Int.toNat (T2 i) *
 2+2<=2*len/\(2*i=i*2/\(i+1)*16<=140737488355328/\i+1<=9223372036854775807)/\∃(i':Nat),i'<=len/\len-i'<len-i/\((True/\i+1=i')/\(True/\len=len)/\T1=T1/\IntKind.wrap .i64 ((T2 i)+1)=(↑i':Int)/\
 True)/\True/\(T3 i)/\True/\(100=100/\2=2/\2*i'<=2*i+List.length [ofI .f64 (g (0+Int.toNat (T2 i)*2)),ofI .f64 (g (0+Int.toNat (T2 i)*2+1))]/\∀(i_1:Nat),i_1<2*i'->z7 (2*i) (fI g) [ofI .f64 (g (0+Int.toNat
 (T2 i)*2)),ofI .f64 (g (0+Int.toNat (T2 i)*2+1))] 0 i_1=fI g i_1)/\True)/\(decide ((T2 i)<T1)=false->(True/\i=len)/\True/\(100=100/\2=2/\2*len<=2*i/\∀(i:Nat),i<2*len->fI g i=fI g i)/\True)):=by subst e9 t1 t2 t3;kernel_rfl
theorem pts:C4 prog 74 (B3 c2M):=by
 refine A5 gPT func74 rfl (by kernel_rfl) λargs=>?_
 unfold c2M;split;rotate_left;trivial;rename_i n len;intro o0;try dsimp only
 split;rotate_left;trivial;rename_i m0 g hm0;intro(ho:m0=2*len/\len<=1000000);obtain⟨hsz0,ho⟩:=ho;subst hsz0;refine⟨?_,_,_,(c1Y len g rfl rfl rfl rfl).mpr ?_⟩
 ·refine j8 rfl ⟨?_,⟨trivial,(y6 hm0).1,trivial⟩⟩;simp[q9,z5,z8,z3,nth,g9]
 ·refine⟨⟨0,by omega,by simp⟩,λi hi=>?_⟩;have e:i*2=2*i:=by omega
  simp only[tN9,Nat.zero_add,e,true_and,and_true,implies_true,Nat.le_refl];refine⟨λh=>?_,λh=>?_⟩
  ·have h:=oT9 h;have hw:IntKind.i64.wrap ((i:Int)+1)=((i+1:Nat):Int):=by rw[j5 (by omega) (by omega)];omega
   refine⟨by omega,by omega,by omega,i+1,by omega,by omega,⟨rfl,hw⟩,?_,b4y rfl rfl⟩;show 2*(i+1)<=2*i+2;omega
  ·have h:=of_decide_eq_false h;omega
def a8U:PF:=fun
 | [.flt .f64 x]=>some (.bool (!(fLt .f64 x 0||fGt .f64 x 0)),none)
 | _=>none
theorem b5i(R:SV->Prop)(x:Nat):J3 G0 0 [] [] (p9 f214) (A6 f214.ntmps [.flt .f64 x] [] 0) (A8 G0.E.T f214.results.toList λ_ v=>R v)=(
(fLt .f64 x (0:Nat)=true->R SV.ff)/\(fLt .f64 x (0:Nat)=false->R (SV.bool !fGt .f64 x (0:Nat)))):=by kernel_rfl
theorem c2m:E8 prog 214 a8U:=by
 refine G6 g0 func214 rfl (by kernel_rfl) ?_;intro args v p h hp;unfold a8U at h;split at h
 ·rename_i x;injection h with h;injection h with h1 h2;subst h1 h2
  clear hp;refine⟨rfl,_,_,(b5i _ x).mpr ?_⟩;simp only[eqv];grind
 ·cases h
def b3w(a2 b2 c2 d2:Int):Prop:=¬(max a2 b2<min c2 d2∨max c2 d2<min a2 b2)
def b2w(a1 a2 b1 b2 c1 c2 d1 d2:Int):Prop:=¬((a1=c1/\a2=c2)∨(a1=d1/\a2=d2)∨(b1=c1/\b2=c2)∨(b1=d1/\b2=d2))
def xp(x y z w:Int):Int:=x*w-y*z
def b9L(a b c:Int):Prop:=(c<=a/\b<c)∨(a<c/\c<=b)
def c6o(a1 a2 b1 b2 c1 c2 d1 d2:Int):Prop :=
 b3w a2 b2 c2 d2/\b3w a1 b1 c1 d1/\(¬b2w a1 a2 b1 b2 c1 c2 d1 d2∨
  (xp (c1-a1) (c2-a2) (b1-a1) (b2-a2)=0/\(b9L a1 b1 c1∨b9L a2 b2 c2∨On a1 a2 b1 b2 c1 c2∨On a1 a2 b1 b2 d1 d2))∨
  (xp (c1-a1) (c2-a2) (b1-a1) (b2-a2)≠0/\xp (b1-a1) (b2-a2) (d1-c1) (d2-c2)≠0/\
   0<=xp (c1-a1) (c2-a2) (d1-c1) (d2-c2)*xp (b1-a1) (b2-a2) (d1-c1) (d2-c2)/\(xp (c1-a1) (c2-a2) (d1-c1) (d2-c2)).natAbs<=(xp (b1-a1) (b2-a2) (d1-c1) (d2-c2)).natAbs/\
   0<=xp (c1-a1) (c2-a2) (b1-a1) (b2-a2)*xp (b1-a1) (b2-a2) (d1-c1) (d2-c2)/\(xp (c1-a1) (c2-a2) (b1-a1) (b2-a2)).natAbs<=(xp (b1-a1) (b2-a2) (d1-c1) (d2-c2)).natAbs))
instance (a b c d:Int):Decidable (b3w a b c d):=by unfold b3w;infer_instance
instance (a b c d e f g h:Int):Decidable (b2w a b c d e f g h):=by unfold b2w;infer_instance
instance (a b c:Int):Decidable (b9L a b c):=by unfold b9L;infer_instance
instance (a b c d e f g h:Int):Decidable (c6o a b c d e f g h):=by unfold c6o;infer_instance
structure P8 (ax ay bx by' cx cy dx dy:Nat) (a1 a2 b1 b2 c1 c2 d1 d2:Int):Prop where
 ax:FI ax a1
 ay:FI ay a2
 bx:FI bx b1
 by':FI by' b2
 cx:FI cx c1
 cy:FI cy c2
 dx:FI dx d1
 dy:FI dy d2
 s:(y9 a1/\y9 a2/\y9 b1/\y9 b2)/\(y9 c1/\y9 c2/\y9 d1/\y9 d2)
noncomputable def GC:Ctx:=⟨⟨tys,[]⟩,[(90,z4 b8W),(214,z4 a8U),(80,z4 b1P)]⟩
theorem gC:B7 prog GC:=⟨⟨E1,FlatsOk.nil⟩,j9.cons (.pure ray) (j9.cons (.pure c2m) (j9.cons (.pure c5y) j9.nil)),by kernel_rfl⟩
def I2(x y:Nat):Nat:=if fGt .f64 x y=true then y else x
def H8(x y:Nat):Nat:=if fGt .f64 x y=true then x else y
def a2P:PF:=fun
 | [.agg [.flt .f64 ax, .flt .f64 ay, .flt .f64 bx, .flt .f64 by']]=>some (.agg [.flt .f64 (I2 ax bx), .flt .f64 (I2 ay by'), .flt .f64 (H8 ax bx), .flt .f64 (H8 ay by')],none)
 | _=>none
theorem b7q(R : SV -> Prop)(ax ay bx by' : Nat) : J3 GC 0 [] [] (p9 f113) (A6 f113.ntmps [.agg [.flt .f64 ax, .flt .f64 ay, .flt .f64 bx, .flt .f64 by']] [] 0) (A8 GC.E.T f113.results.toList λ_ v => R v) = (
(fGt .f64 ax bx = true -> (fGt .f64 ay by' = true -> R (SV.agg [SV.flt .f64 bx, SV.flt .f64 by', SV.flt .f64 ax, SV.flt .f64 ay])) /\ (fGt .f64 ay by' = false -> R (SV.agg [SV.flt .f64 bx, SV.flt .f64 ay, SV.flt .f64 ax, SV.flt .f64
 by']))) /\ (fGt .f64 ax bx = false -> (fGt .f64 ay by' = true -> R (SV.agg [SV.flt .f64 ax, SV.flt .f64 by', SV.flt .f64 bx, SV.flt .f64 ay])) /\ (fGt .f64 ay by' = false -> R (SV.agg [SV.flt .f64 ax, SV.flt .f64 ay, SV.flt .f64 bx,
 SV.flt .f64 by'])))) := by kernel_rfl
theorem b0h:E8 prog 113 a2P:=by
 refine G6 gC func113 rfl (by kernel_rfl) ?_;intro args v p h hp;unfold a2P at h;split at h
 ·rename_i ax ay bx by';injection h with h;injection h with h1 h2;subst h1 h2
  clear hp;refine⟨rfl,_,_,(b7q _ ax ay bx by').mpr ?_⟩;simp only[eqv,a2v,C0,I2,H8];grind
 ·cases h
def sgn(n:Int):Int:=if 0<n then 1 else if n<0 then -1 else 0
def c1S(a1 a2 b1 b2 c1 c2 d1 d2:Int):Prop:=On a1 a2 b1 b2 c1 c2∨On a1 a2 b1 b2 d1 d2∨On c1 c2 d1 d2 a1 a2∨On c1 c2 d1 d2 b1 b2∨
 (sgn (E7 a1 a2 b1 b2 c1 c2)*sgn (E7 a1 a2 b1 b2 d1 d2)<0/\sgn (E7 c1 c2 d1 d2 a1 a2)*sgn (E7 c1 c2 d1 d2 b1 b2)<0)
instance (a b c d e f g h:Int):Decidable (c1S a b c d e f g h):=by unfold c1S;infer_instance
def c6B(a1 a2 b1 b2 c1 c2 d1 d2:Int):Prop:=On c1 c2 d1 d2 a1 a2/\On c1 c2 d1 d2 b1 b2/\¬On a1 a2 b1 b2 c1 c2/\¬On a1 a2 b1 b2 d1 d2
instance (a b c d e f g h:Int):Decidable (c6B a b c d e f g h):=by unfold c6B;infer_instance
def mn(g:Nat->Int)(k:Nat):Nat->Int
 | 0=>g k
 | i+1=>a0Q (mn g k i) (g (2*i+k))
def mx(g:Nat->Int)(k:Nat):Nat->Int
 | 0=>g k
 | i+1=>a6B (mx g k i) (g (2*i+k))
def toL(len:Nat)(g:Nat->Int):Fam:=⟨Nat,λi =>
 ⟨18,[(3, .slcc 1 i),(6, .slcc 0 len),(7, .int .i64 len),(8, .int .i64 i)],[(0,⟨false,28, .ints .i64 (2*len) g,0⟩),(1,⟨true,23, .ints .i64 (2*i) g,2⟩)],2⟩,λi=>i<=len,λi=>len-i⟩
noncomputable def a9S:List SV->RdM
 | [.slcc n len]=>.read n λo0=>(match y7 .i64 o0.c with
  | some (m0,g)=>.ret ⟨[.slcc 0 len],[(0,⟨false,28, .ints .i64 m0 g,0⟩)], .slcc 1 len,[],[(1,⟨true,23, .ints .i64 (2*len) g,2⟩)],some (m0=2*len/\len<=1000000)⟩
  | none=>.fail)
 | _=>.fail
theorem b6D(len:Nat)(g:Nat->Int){w9:HC}(e9:w9=⟨[.slcc 0 len],[(0,⟨false,28, .ints .i64 (2*len) g,0⟩)], .slcc 1 len,[],[(1,⟨true,23, .ints .i64 (2*len) g,2⟩)],some (2*len=2*len/\len<=1000000)⟩){T1}(t1:T1=(↑len:Int)){T2}(t2:T2=λ(i:Nat)=>(↑i:Int))
 {T3}(t3:T3=λ(i:Nat)=>(2*len<=2*len/\∀(i:Nat),i<2*len->g i=g i)):J3 G0 1 [(3,toL len g)] [] (p9 f34) (A6 f34.ntmps w9.args w9.heap 1) (A8 G0.E.T f34.results.toList λS v=>D5 1 w9 S v)=(
 (∃(i:Nat),i<=len/\(i=0/\(True/\len=len)/\T1=T1/\0=(T2 i)/\True)/\True/\(T3 i)/\True/\2*i=0/\True)/\∀(i:Nat),i<=len->(decide ((T2 i)<T1)=true->((0<=(T2 i)/\(T2 i)<T1)/\1<=2*len)/\0+Int.toNat (T2 i) *
 2+2<=2*len/\(2*i=i*2/\(i+1)*16<=140737488355328/\i+1<=9223372036854775807)/\∃(i':Nat),i'<=len/\len-i'<len-i/\((True/\i+1=i')/\(True/\len=len)/\T1=T1/\IntKind.wrap .i64 ((T2 i)+1)=(↑i':Int)/\
 True)/\True/\(T3 i)/\True/\(23=23/\2=2/\2*i'<=2*i+List.length [g (0+Int.toNat (T2 i)*2),g (0+Int.toNat (T2 i)*2+1)]/\∀(i_1:Nat),i_1<2*i'->z7 (2*i) g [g (0+Int.toNat (T2 i)*2),g (0+Int.toNat (T2 i)*2
 + 1)] (0:Int) i_1=g i_1)/\True)/\(decide ((T2 i)<T1)=false->(True/\i=len)/\True/\(23=23/\2=2/\2*len<=2*i/\∀(i:Nat),i<2*len->g i=g i)/\True)):=by subst e9 t1 t2 t3;kernel_rfl
theorem c1b:C4 prog 34 (B3 a9S):=by
 refine A5 g0 func34 rfl (by kernel_rfl) λargs=>?_
 unfold a9S;split;rotate_left;trivial;rename_i n len;intro o0;try dsimp only
 split;rotate_left;trivial;rename_i m0 g hm0;intro(ho:m0=2*len/\len<=1000000);obtain⟨hsz0,ho⟩:=ho;subst hsz0;refine⟨?_,_,_,(b6D len g rfl rfl rfl rfl).mpr ?_⟩
 ·refine j8 rfl ⟨?_,⟨trivial,(y6 hm0).1,trivial⟩⟩;simp[q9,z5,z8,z3,nth,g9]
 ·refine⟨⟨0,by simp⟩,λi hi=>⟨λh=>?_,λh=>?_⟩⟩
  ·have h:=oT9 h;have e:0+(i:Int).toNat*2=2*i:=by omega
   refine⟨by omega,by omega,by omega,i+1,by omega,by omega,⟨⟨trivial,rfl⟩,⟨trivial,rfl⟩,rfl,?_,trivial⟩,trivial,⟨Nat.le_refl _,λ_ _=>rfl⟩,trivial,⟨rfl,rfl,?_,?_⟩,trivial⟩
   ·rw[j5 (by omega) (by omega)];omega
   ·show 2*(i+1)<=2*i+2;omega
   ·exact b0K (by rw[e]) (by rw[e])
  ·have h:=of_decide_eq_false h;have:i=len:=by omega
   subst this;exact⟨⟨trivial,rfl⟩,trivial,⟨rfl,rfl,Nat.le_refl _,λ_ _=>rfl⟩,trivial⟩
def GIG:Ctx:=⟨⟨tys,[]⟩,[(19,B3 a6z)]⟩
theorem gIG:B7 prog GIG:=⟨⟨E1,FlatsOk.nil⟩,j9.cons b6n j9.nil,by kernel_rfl⟩
noncomputable def a3v:List SV->RdM
 | [.slcc n len]=>.read n λo0=>(match y7 .i64 o0.c with
  | some (m0,g)=>.ret ⟨[.slcc 0 len],[(0,⟨false,28, .ints .i64 m0 g,0⟩)], .bool (decide (len<=40)&&L7 (2*len) g),[],[],some (m0=2*len/\True)⟩
  | none=>.fail)
 | _=>.fail
theorem b2L(len:Nat)(g:Nat->Int){w9:HC}(e9:w9=⟨[.slcc 0 len],[(0,⟨false,28, .ints .i64 (2*len) g,0⟩)], .bool (decide (len<=40)&&L7 (2*len) g),[],[],some (2*len=2*len/\True)⟩):J3 GIG 1 [] [] (p9 f18) (A6 f18.ntmps w9.args w9.heap 1) (A8 GIG.E.T f18.results.toList λS v=>D5 1 w9 S v)=(
 (decide ((↑len:Int)<=40)=true->(2*len=2*len/\len<=1000000)/\L7 (2*len) g=(decide (len<=40)&&L7 (2*len) g)/\True)/\(decide ((↑len:Int)<=40)=false->(decide (len<=40)&&L7 (2*len) g)=false/\True)):=by subst e9;kernel_rfl
theorem b3i:C4 prog 18 (B3 a3v):=by
 refine A5 gIG func18 rfl (by kernel_rfl) λargs=>?_
 unfold a3v;split;rotate_left;trivial;rename_i n len;intro o0;try dsimp only
 split;rotate_left;trivial;rename_i m0 g hm0;intro(ho:m0=2*len/\True);obtain⟨hsz0,ho⟩:=ho;subst hsz0;refine⟨?_,_,_,(b2L len g rfl).mpr ?_⟩
 ·refine j8 rfl ⟨?_,⟨trivial,(y6 hm0).1,trivial⟩⟩;simp[q9,z5,z8,z3,nth,g9]
 ·simp;exact⟨λh=>⟨by omega,λ_=>by omega⟩,λh h2=>by omega⟩
theorem c3a{g:Nat->Int}{m:Nat}(h:∀ j,j<m->y9 (g j)):Whl (fI g) g m:=λj hj=>⟨fi (h j hj),by have:=h j hj;unfold y9 at this;omega⟩
theorem a9H{len:Nat}{cl:Bool}(h:l9 len cl=true):2<=len:=(oT9 h).1
theorem c1q{z:Nat->Int}{k:Nat}:∀ {i:Nat},0<i->loZ z k i=mn z k i
 | 0,h=>by omega
 | 1,_=>by simp[loZ,mn,a0Q]
 | i+2,_=>by
  show (if i+1=0∨z (2*(i+1)+k)<loZ z k (i+1)then z (2*(i+1)+k)else loZ z k (i+1))=a0Q (mn z k (i+1)) (z (2*(i+1)+k));rw[c1q (i:=i+1) (by omega)];unfold a0Q;by_cases h:z (2*(i+1)+k)<mn z k (i+1)
  ·rw[if_pos (.inr h),if_pos h]
  ·rw[if_neg (by omega),if_neg h]
theorem c5j{z:Nat->Int}{k i:Nat}(h:0<i):loZ z k i<=hiZ z k i:=Int.le_trans (a1Y (j:=0) h) (a2Y h)
theorem c1z{z:Nat->Int}{k:Nat}:∀ {i:Nat},0<i->hiZ z k i=mx z k i
 | 0,h=>by omega
 | 1,_=>by simp[hiZ,mx,a6B]
 | i+2,_=>by
  have hl:=c5j (z:=z) (k:=k) (i:=i+1) (by omega);show (if i+1=0 then z (2*(i+1)+k)else if z (2*(i+1)+k)<loZ z k (i+1)then hiZ z k (i+1)else if hiZ z k (i+1)<z (2*(i+1)+k)then z (2*(i+1)+k)else hiZ z k (i+1))=a6B (mx z k (i+1)) (z (2*(i+1)+k));rw[<-c1z (i:=i+1) (by omega),if_neg (by omega)];unfold a6B;by_cases h:hiZ z k (i+1)<z (2*(i+1)+k)
  ·rw[if_neg (by omega),if_pos h]
  ·rw[if_neg h];split <;> rfl
open Int (toNat)
open Go.IntKind (wrap)
noncomputable section
def W1(x:Nat):Prop:=FI x (wh x)/\y9 (wh x)
def SmF(g:Nat->Nat)(m:Nat):Prop:=∀ j,j<m->W1 (g j)
def wz(g:Nat->Nat)(j:Nat):Int:=wh (g j)
theorem W1.abs{x:Nat}(h:W1 x):(wh x).natAbs<=2 ^ 22:=by have:=h.2;unfold y9 at this;omega
theorem b5F{n:Int}(h:y9 n):W1 (ofI .f64 n)/\wh (ofI .f64 n)=n:=by
 have e:=a6N h;exact⟨⟨by rw[e];exact fi h,by rw[e];exact h⟩,e⟩
def bxI:a9->Option Int
 | .cells [.int .i64 n]=>some n
 | _=>none
def a1c(n:Int):a9:=.cells [.int .i64 n]
theorem a1i{σ:Sig}{c:a9}{n:Int}(h:bxI c=some n):L6 σ c (a1c n):=by
 unfold bxI at h;split at h
 ·simp only[oI9]at h;subst h;show q9 σ _ _;simp[q9,z5,A0]
 ·cases h
def nsg(cl:Bool)(n:Nat)(z:Nat->Int):Nat:=if cl=true then(if n<3 then 0 else if z (2*(n-1))=z 0/\z (2*(n-1)+1)=z 1 then n-1 else n)else n-1
def FP:Flats:=[(100,[true,true])]
theorem c3d:FlatsOk prog FP:=FlatsOk.cons b6R FlatsOk.nil
def GPF:Ctx:=⟨⟨tys,FP⟩,[]⟩
theorem gPF:B7 prog GPF:=⟨⟨E1,c3d⟩,j9.nil,by kernel_rfl⟩
def b2o:List SV->RdM
 | [.ptr s 0]=>.read s λo0=>(match a3o o0.c with
  | some (cl,cw,cv,k,x,y,z,w,p,n)=>.read p λo1=>(match A9 .f64 o1.c with
  | some (m1,g)=>.ret ⟨[.ptr 0 0],[(0,⟨false,150,a0c cl cw cv k x y z w 1 n,0⟩),(1,⟨false,100, .flts .f64 m1 g,0⟩)], .int .i64 (nsg cl n (wz g)),[],[],some (m1=2*n/\n<=1000000/\SmF g (2*n))⟩
  | none=>.fail)
  | none=>.fail)
 | _=>.fail
theorem b6Z(cl cw cv:Bool)(k:Int)(x y z w:Nat)(_:Nm)(n:Nat)(g:Nat->Nat){w9:HC}(e9:w9=⟨[.ptr 0 0],[(0,⟨false,150,a0c cl cw cv k x y z w 1 n,0⟩),(1,⟨false,100, .flts .f64 (2*n) g,0⟩)], .int .i64 (nsg cl n (wz g)),[],[],some (2*n=2*n/\n<=1000000/\SmF g (2*n))⟩){T1}(t1:T1=(fEq .f64 (g (0 +
 toNat (wrap .i64 ((↑n:Int)-1))*2)) (g 0)&&(fEq .f64 (g (0+toNat (wrap .i64 ((↑n:Int)-1))*2+1)) (g 1)&&true))){T2}(t2:T2=(↑n:Int)){T3}(t3:T3=(↑(nsg cl n (wz g)):Int)):J3 GPF 2 [] [] (p9 f111) (A6 f111.ntmps w9.args w9.heap 2) (A8 GPF.E.T f111.results.toList λS v=>D5 2 w9 S v)=(
 (cl=true->(decide (T2<3)=true->0=T3/\True)/\(decide (T2<3)=false->(((0:Int)<=wrap .i64 (T2-1)/\wrap .i64 (T2-1)<T2)/\1<=2*n)/\0+toNat (wrap .i64 (T2-1))*2+2<=2*n/\(((0:Int)<=0
 /\0<T2)/\1<=2*n)/\2<=2*n/\true=true/\(T1=true->wrap .i64 (T2-1)=T3/\True)/\(T1=false->T2=T3/\True)))/\(cl=false->(decide (T2<2)=true->0=T3/\True)/\(decide (T2<(2:Int))=false->wrap .i64
 (T2-1)=T3/\True))):=by subst e9 t1 t2 t3;kernel_rfl
theorem c3H:C4 prog 111 (B3 b2o):=by
 refine A5 gPF func111 rfl (by kernel_rfl) λargs=>?_
 unfold b2o;split;rotate_left;trivial;rename_i s;intro o0;try dsimp only
 split;rotate_left;trivial;rename_i cl cw cv k x y z w p n hm0;intro o1;try dsimp only
 split;rotate_left;trivial;rename_i m1 g hm1;intro(ho:m1=2*n/\n<=1000000/\SmF g (2*n));obtain⟨hsz1,ho⟩:=ho;subst hsz1;refine⟨?_,_,_,(b6Z cl cw cv k x y z w p n g rfl rfl rfl rfl).mpr ?_⟩
 ·refine j8 rfl ⟨?_,⟨trivial,R6 hm0 g9,⟨trivial,(C6 hm1).1,trivial⟩⟩⟩;simp[q9,z5,z8,z3,nth,g9]
 ·obtain⟨hn,hg⟩:=ho;have hw:IntKind.i64.wrap ((n:Int)-1)=n-1:=j5 (by omega) (by omega);rw[hw];refine⟨λhc=>⟨λh=>?_,λh=>?_⟩,λhc=>⟨λh=>?_,λh=>?_⟩⟩
  ·have h:=oT9 h;refine⟨?_,trivial⟩;unfold nsg;rw[if_pos hc,if_pos (by omega)];rfl
  ·have h:=of_decide_eq_false h;have e:0+((n:Int)-1).toNat*2=2*(n-1):=by omega
   rw[e];have e1:fEq .f64 (g (2*(n-1))) (g 0)=decide (wz g (2*(n-1))=wz g 0):=a0d (hg _ (by omega)).1 (hg _ (by omega)).1;have e2:fEq .f64 (g (2*(n-1)+1)) (g 1)=decide (wz g (2*(n-1)+1)=wz g 1):=a0d (hg _ (by omega)).1 (hg _ (by omega)).1;rw[e1,e2];refine⟨by omega,by omega,by omega,by omega,rfl,λh1=>⟨?_,trivial⟩,λh1=>⟨?_,trivial⟩⟩
   ·unfold nsg;rw[if_pos hc,if_neg (by omega),if_pos (by simpa using h1)];omega
   ·unfold nsg;rw[if_pos hc,if_neg (by omega),if_neg (by simpa using h1)]
  ·have h:=oT9 h;refine⟨?_,trivial⟩;unfold nsg;rw[if_neg (by simp[hc])];omega
  ·have h:=of_decide_eq_false h;refine⟨?_,trivial⟩;unfold nsg;rw[if_neg (by simp[hc])];omega
def b0Q:List SV->RdM
 | [.ptr s 0, .int .i64 i]=>.read s λo0=>(match a3o o0.c with
  | some (cl,cw,cv,k,x,y,z,w,p,n)=>.read p λo1=>(match A9 .f64 o1.c with
  | some (m1,g)=>.ret ⟨[.ptr 0 0, .int .i64 i],[(0,⟨false,150,a0c cl cw cv k x y z w 1 n,0⟩),(1,⟨false,100, .flts .f64 m1 g,0⟩)], .agg [.flt .f64 (g (2*i.toNat)), .flt .f64 (g (2*i.toNat+1)), .flt .f64 (g (2*nx n i.toNat)), .flt .f64 (g (2*nx n i.toNat+1))],[],[],some (m1=2*n/\0<=i/\i<n/\n<=1000000)⟩
  | none=>.fail)
  | none=>.fail)
 | _=>.fail
theorem b9a(cl cw cv:Bool)(k:Int)(x y z w:Nat)(_:Nm)(n:Nat)(i:Int)(g:Nat->Nat){w9:HC}(e9:w9=⟨[.ptr 0 0, .int .i64 i],[(0,⟨false,150,a0c cl cw cv k x y z w 1 n,0⟩),(1,⟨false,100, .flts .f64 (2*n) g,0⟩)], .agg [.flt .f64 (g (2*i.toNat)), .flt .f64 (g (2*i.toNat+1)), .flt .f64 (g (2*nx n i.toNat)), .flt .f64
 (g (2*nx n i.toNat+1))],[],[],some (2*n=2*n/\0<=i/\i<n/\n<=1000000)⟩){T1}(t1:T1=(wrap .i64 (i+(1:Int)))){T2}(t2:T2=(i==wrap .i64 ((↑n:Int)-1))):J3 GPF 2 [] [] (p9 f112) (A6 f112.ntmps w9.args w9.heap 2) (A8 GPF.E.T f112.results.toList λS v=>D5 2 w9 S v)=(
 (((0:Int)<=i/\i<(↑n:Int))/\1<=2*n)/\0+toNat i*2+2<=2*n/\(T2=true->(((0:Int)<=0/\0<(↑n:Int))/\1<=2*n)/\2<=2*n/\(g (0+toNat i*2)=g (2*toNat i)/\g (0+toNat i*2+1)=g (2 *
 toNat i+1)/\g 0=g (2*nx n (toNat i))/\g 1=g (2*nx n (toNat i)+1)/\True)/\True)/\(T2=false->(((0:Int)<=wrap .i64 (i+(1:Int))/\wrap .i64 (i+(1:Int))<(↑n:Int))/\1<=2*n)/\0+toNat
 T1*2+2<=2*n/\(g (0+toNat i*2)=g (2*toNat i)/\g (0+toNat i*2+1)=g (2*toNat i+1)/\g (0+toNat T1*2)=g (2*nx n (toNat i))/\g (0+toNat T1*2+1)=g (2*nx n (toNat i)+1)/\
 True)/\True)):=by subst e9 t1 t2;kernel_rfl
theorem c2V:C4 prog 112 (B3 b0Q):=by
 refine A5 gPF func112 rfl (by kernel_rfl) λargs=>?_
 unfold b0Q;split;rotate_left;trivial;rename_i s i;intro o0;try dsimp only
 split;rotate_left;trivial;rename_i cl cw cv k x y z w p n hm0;intro o1;try dsimp only
 split;rotate_left;trivial;rename_i m1 g hm1;intro(ho:m1=2*n/\0<=i/\i<n/\n<=1000000);obtain⟨hsz1,ho⟩:=ho;subst hsz1;refine⟨?_,_,_,(b9a cl cw cv k x y z w p n i g rfl rfl rfl).mpr ?_⟩
 ·refine j8 rfl ⟨?_,⟨trivial,R6 hm0 g9,⟨trivial,(C6 hm1).1,trivial⟩⟩⟩;simp[q9,z5,A0,z8,z3,nth,g9]
 ·obtain⟨h0,h1,hn⟩:=ho;have hw:IntKind.i64.wrap ((n:Int)-1)=n-1:=j5 (by omega) (by omega);have hw1:IntKind.i64.wrap (i+1)=i+1:=j5 (by omega) (by omega);have e:0+i.toNat*2=2*i.toNat:=by omega
  rw[hw,hw1,e];refine⟨by omega,by omega,λh=>?_,λh=>?_⟩
  ·have h:i=n-1:=by simpa using h
   have e2:nx n i.toNat=0:=by unfold nx;rw[if_pos (by omega)]
   rw[e2];refine⟨by omega,by omega,?_⟩;simp
  ·have h:¬i=n-1:=by simpa using h
   have e2:nx n i.toNat=i.toNat+1:=by unfold nx;rw[if_neg (by omega)]
   have e3:0+(i+1).toNat*2=2*(i.toNat+1):=by omega
   rw[e2,e3];refine⟨by omega,by omega,?_⟩;simp
end
def finQ(r:Q4):Prop:=Fl.Fin r.x0/\Fl.Fin r.y0/\Fl.Fin r.x1/\Fl.Fin r.y1
def inQ(Q r:Q4):Prop:=V Q.x0<=V r.x0/\V Q.y0<=V r.y0/\V r.x1<=V Q.x1/\V r.y1<=V Q.y1
def FUB(d x:Nat):Prop:=∃ n:Int,FU x n (1058+d)/\n.natAbs*2 ^ d<=2 ^ 38
def QB(d:Nat)(Q:Q4):Prop:=FUB d Q.x0/\FUB d Q.y0/\FUB d Q.x1/\FUB d Q.y1
theorem FUB.down{d x:Nat}(h:FUB (d+1) x):FUB d x:=by
 obtain⟨n,h1,h2⟩:=h;refine⟨n*2,?_,?_⟩
 ·have:=h1.up (u:=1058+d) (k:=1) (by omega)
  rwa [Int.pow_succ,Int.pow_zero,Int.one_mul]at this
 ·rw[Int.natAbs_mul,Nat.mul_assoc,show (2:Int).natAbs*2 ^ d=2 ^ (d+1) by rw[Nat.pow_succ,Nat.mul_comm];rfl];exact h2
theorem c1O{a b p:Nat}(hp:0<p)(ha:a*(p*2)<=2 ^ 38)(hb:b*(p*2)<=2 ^ 38):(a+b)*p<=2 ^ 38/\a+b<2 ^ 53:=by
 have h1:(a+b)*p<=2 ^ 38:=by
  rw[Nat.add_mul];rw[<-Nat.mul_assoc]at ha hb;omega
 have h2:a+b<=(a+b)*p:=Nat.le_mul_of_pos_right _ hp;exact⟨h1,by omega⟩
theorem FUB.mid{d x y:Nat}(hd:d<=15)(hx:FUB (d+1) x)(hy:FUB (d+1) y):midOk x y/\FUB d (mid x y):=by
 obtain⟨a,a1,a2⟩:=hx;obtain⟨b,b1,b2⟩:=hy;have hab:=Int.natAbs_add_le a b;rw[Nat.pow_succ]at a2 b2;obtain⟨h1,h2⟩:=c1O (Nat.two_pow_pos d) a2 b2;obtain⟨h3,h4⟩:=b8d (u:=1058+d) (by omega) (by omega) a1 b1 (by omega);exact⟨h3,_,h4,Nat.le_trans (Nat.mul_le_mul_right _ hab) h1⟩
theorem FUB.fin{d x:Nat}(h:FUB d x):Fl.Fin x:=h.choose_spec.1.1
theorem FI.fub{x:Nat}{n:Int}(h:FI x n)(hn:n.natAbs<=4194304):FUB 16 x:=⟨n,⟨h.1,h.2⟩,by
 have:(2:Nat) ^ 38=4194304*2 ^ 16:=by decide
 rw[this]
 exact Nat.mul_le_mul_right _ hn⟩
theorem QB.midOk{d:Nat}{Q:Q4}(hd:d<=15)(h:QB (d+1) Q):midOk Q.x0 Q.x1/\midOk Q.y0 Q.y1:=⟨(h.1.mid hd h.2.2.1).1,(h.2.1.mid hd h.2.2.2).1⟩
theorem QB.sub{d:Nat}{Q:Q4}(hd:d<=15)(h:QB (d+1) Q)(k:Int):QB d (qbV Q k):=by
 obtain⟨h1,h2,h3,h4⟩:=h;have m1:=(h1.mid hd h3).2;have m2:=(h2.mid hd h4).2;refine⟨?_,?_,?_,?_⟩ <;> simp only[qbV,qb0,qb1,qb2,qb3] <;> split
 all_goals first|exact h1.down|exact h2.down|exact h3.down|exact h4.down|exact m1|exact m2
theorem b3R{d:Nat}{Q r:Q4}(hd:d<=15)(h:QB (d+1) Q)(hr:finQ r)(hi:inQ Q r):cqV Q r = -1∨((0<=cqV Q r/\cqV Q r<4)/\inQ (qbV Q (cqV Q r)) r):=by
 obtain⟨h1,h2,h3,h4⟩:=h;have m1:=(h1.mid hd h3).2.fin;have m2:=(h2.mid hd h4).2.fin;obtain⟨r1,r2,r3,r4⟩:=hr;obtain⟨i1,i2,i3,i4⟩:=hi;unfold cqV;simp only[a4P r1 m1,a4P r3 m1,a4P r2 m2,a4P r4 m2,decide_eq_true_eq]
 repeat' split
 all_goals first|exact .inl rfl|refine .inr ⟨⟨by decide,by decide⟩,?_⟩
 all_goals simp[inQ,qbV,qb0,qb1,qb2,qb3]
 all_goals omega
structure isU (q:RM) (v:Value) (E:List Nat):Prop where
 sl:isSlN v
 n:slL v=E.length
 le:slL v<=slK v
 D:0<slK v->q.D (slB v)/\slC v+slK v<=q.S (slB v)
 c:∀(j x:Nat),E[j]? = some x->q.F (slB v) (slC v+j)=.int .u32 (x:Nat)
def fpU(v:Value):List Nat:=if 0<slK v then [slB v]else []
structure QK where
 b:Nat
 fp:List Nat
 its:List Nat
def a7q:Option QK->Value
 | none=>.pointer none
 | some k=>.pointer (some ⟨k.b,0,none⟩)
def kfp:Option QK->List Nat
 | none=>[]
 | some k=>k.fp
def Q1:Option QK->List Nat
 | none=>[]
 | some k=>k.its
structure qnA (q:RM) (b:Nat) (sp:Bool) (v:Value) (E:List Nat) (ks:List (Option QK)):Prop where
 D:q.D b
 S:q.S b=6
 s0:q.F b 0=.bool sp
 s1:q.F b 1=v
 u:isU q v E
 kl:ks.length=4
 k:∀(j:Nat)(o:Option QK),ks[j]? = some o->q.F b (2+j)=a7q o
def nok:List (Option QK):=[none,none,none,none]
def a1j(R:Nat->Q4)(m:Nat)(Q:Q4)(x:Nat):Prop:=x<m/\finQ (R x)/\inQ Q (R x)
def kne(ks:List (Option QK)):Prop:=∀(j:Nat)(x:QK),ks[j]? = some (some x)->1<=x.its.length
def b1O(c:Nat)(ks:List (Option QK)):Prop:=∀(j:Nat)(x:QK),j≠c->ks[j]? = some (some x)->1<=x.its.length
def isQT(q:RM)(R:Nat->Q4)(m:Nat):Nat->Q4->QK->Prop
 | 0,Q,k=>∃ v E,qnA q k.b false v E nok/\k.fp=k.b :: fpU v/\k.its=E/\∀ x∈E,a1j R m Q x
 | d+1,Q,k=>∃ sp v E ks,qnA q k.b sp v E ks/\(sp=false->ks=nok/\E.length<=32)/\k.fp=k.b :: (fpU v++ks.flatMap kfp)/\k.its=E++ks.flatMap Q1/\(∀ x∈E,a1j R m Q x)/\
   (∀(j:Nat)(x:QK),ks[j]? = some (some x)->isQT q R m d (qbV Q (j:Int)) x)/\kne ks
def rcF(g:Nat->Nat)(n i:Nat):Q4:=⟨I2 (g (2*i)) (g (2*nx n i)),I2 (g (2*i+1)) (g (2*nx n i+1)),H8 (g (2*i)) (g (2*nx n i)),H8 (g (2*i+1)) (g (2*nx n i+1))⟩
structure qiA (q:RM) (g:Nat->Nat) (n b:Nat) (Q:Q4) (d:Nat) (k:QK):Prop where
 t:isQT q (rcF g n) n d Q k
 b:k.b=b
 nd:k.fp.Nodup
 le:k.its.length<=1000
def a1x(q:RM)(b:Nat):Nat:=if Z8 (q.F b 0)=true then 0 else 1
def frQ(W:Nat->Prop)(q q':RM):Prop:=∀ x,q.D x->q'.D x/\(¬W x->q'.S x=q.S x/\∀ c,q'.F x c=q.F x c)
theorem frQ.refl(W:Nat->Prop)(q:RM):frQ W q q:=λ_ h=>⟨h,λ_=>⟨rfl,λ_=>rfl⟩⟩
theorem frQ.trans{W W' W'':Nat->Prop}{q q' q'':RM}(h:frQ W q q')(h':frQ W' q' q'')(h1:∀ x,q.D x->W x->W'' x)(h2:∀ x,q.D x->W' x->W'' x):frQ W'' q q'':=λx hx=>by
 obtain⟨a1,a2⟩:=h x hx;obtain⟨b1,b2⟩:=h' x a1;refine⟨b1,λhn=>?_⟩;obtain⟨c1,c2⟩:=a2 λhw=>hn (h1 x hx hw)
 obtain⟨d1,d2⟩:=b2 λhw=>hn (h2 x hx hw)
 exact⟨d1.trans c1,λc=>(d2 c).trans (c2 c)⟩
theorem frQ.mono{W W':Nat->Prop}{q q':RM}(h:frQ W q q')(h1:∀ x,q.D x->W x->W' x):frQ W' q q':=λx hx=>⟨(h x hx).1,λhn=>(h x hx).2 λhw=>hn (h1 x hx hw)⟩
theorem a9J{v:Value}{x:Nat}(h:x∈fpU v):0<slK v/\x=slB v:=by
 unfold fpU at h;split at h
 ·rename_i hk;simp at h;exact⟨hk,h⟩
 ·simp at h
theorem a6T{v:Value}(h:0<slK v):slB v∈fpU v:=by unfold fpU;rw[if_pos h];simp
theorem b5E(v:Value):(fpU v).Nodup:=by unfold fpU;split <;> simp
theorem isU.D'{q:RM}{v:Value}{E:List Nat}(h:isU q v E):∀ x∈fpU v,q.D x:=λx hx=>by
 obtain⟨h1,rfl⟩:=a9J hx;exact(h.D h1).1
theorem isU.pos{q:RM}{v:Value}{E:List Nat}(h:isU q v E){j x:Nat}(hj:E[j]? = some x):0<slK v:=by
 have:=(List.getElem?_eq_some_iff.1 hj).1;have h1:=h.n;have h2:=h.le;omega
theorem isU.same{q q':RM}{v:Value}{E:List Nat}(h:isU q v E)(hs:∀ x∈fpU v,q'.D x/\q'.S x=q.S x/\∀ c,q'.F x c=q.F x c):isU q' v E where
 sl:=h.sl
 n:=h.n
 le:=h.le
 D:=λh0=>by
  obtain⟨h1,h2,h3⟩:=hs _ (a6T h0);exact⟨h1,by rw[h2];exact(h.D h0).2⟩
 c:=λj x hj=>by rw[(hs _ (a6T (h.pos hj))).2.2];exact h.c j x hj
theorem isU.nil(q:RM):isU q (.slice none 0 0) [] where
 sl:=.inl rfl
 n:=rfl
 le:=Nat.le_refl _
 D:=λh=>absurd h (by decide)
 c:=λj x hj=>by simp at hj
theorem isU.uniq{q:RM}{v:Value}{E E':List Nat}(h:isU q v E)(h':isU q v E'):E=E':=by
 refine List.ext_getElem? λj=>?_
 by_cases hj:j<E.length
 ·have e1:=List.getElem?_eq_getElem hj;have hj':j<E'.length:=by rw[<-h'.n,h.n];exact hj
  have e2:=List.getElem?_eq_getElem hj';have h1:=h.c _ _ e1;have h2:=h'.c _ _ e2;rw[h1]at h2;simp only[Value.int.injEq,true_and,Int.natCast_inj]at h2;rw[e1,e2,h2]
 ·have hj':¬j<E'.length:=by rw[<-h'.n,h.n];exact hj
  rw[List.getElem?_eq_none (by omega),List.getElem?_eq_none (by omega)]
theorem isU.appO{q:RM}{v:Value}{E:List Nat}(h:isU q v E)(hl:E.length<=1000):isSlN v/\Go.Sx.appO q.D q.S 1 4 (slB v) (slC v) (slL v) (slK v) 1:=by
 have h1:=h.n;have h2:=h.le;refine⟨h.sl,λhk=>?_,λhk=>?_,by omega,by simp only[maxLen];omega⟩
 ·obtain⟨d1,d2⟩:=h.D (by omega);exact⟨d1,by omega⟩
 ·obtain⟨d1,d2⟩:=h.D (by omega);exact⟨d1,by omega⟩
theorem isU.app{q:RM}{v:Value}{E:List Nat}(h:isU q v E){x:Nat}{i:ApI}(hp:P1 q.D q.S q.F 1 (slB v) (slC v) (slL v) (slK v) 1 [.int .u32 (x:Nat)] i) :
  isU ⟨i.D,i.S,i.F⟩ (.slice (some ⟨i.b,i.c,none⟩) (slL v+1) i.k) (E++[x])/\(∀ y∈fpU (.slice (some ⟨i.b,i.c,none⟩) (slL v+1) i.k),y∈fpU v∨¬q.D y)/\frQ (·∈fpU v) q ⟨i.D,i.S,i.F⟩:=by
 have hn:=h.n
 have get:∀ j y,(E++[x])[j]? = some y->(j<E.length/\E[j]? = some y)∨(j=E.length/\y=x):=λj y hj=>by
  by_cases hc:j<E.length
  ·rw[List.getElem?_append_left hc]at hj;exact .inl ⟨hc,hj⟩
  ·have hjl:j=E.length:=by
    have:=(List.getElem?_eq_some_iff.1 hj).1;simp at this;omega
   subst hjl;simp at hj;exact .inr ⟨rfl,hj.symm⟩
 rcases hp with⟨h1,h2,h3,h4,h5,h6,h7⟩|⟨h1,h2,h3,h4,h5,h6,h7,z,h8⟩
 ·have hk:0<slK v:=by omega
  rw[h2,h3,h4,h5,h6,h7];refine⟨⟨.inr rfl,by simp[slL];exact hn,by simp only[slL,slK];exact h1,λ_=>h.D hk,λj y hj=>?_⟩,λy hy=>.inl ?_,λy hy=>⟨hy,λhw=>⟨rfl,λc=>?_⟩⟩⟩
  ·show a3u _ _ _ _ (slB v) (slC v+j)=_;rcases get j y hj with⟨g1,g2⟩|⟨rfl,rfl⟩
   ·rw[a0n (by omega)];exact h.c j y g2
   ·rw[a3E,if_pos ⟨rfl,by omega,by simp only[List.length_cons,List.length_nil];omega⟩];rw[show slC v+E.length-(slC v+slL v*1)=0 by omega];rfl
  ·obtain⟨_,rfl⟩:=a9J hy;exact a6T hk
  ·show a3u _ _ _ _ y c=_;exact a0n (.inl λe=>hw (by rw[e];exact a6T hk))
 ·rw[h3,h6,h7,h8];refine⟨⟨.inr rfl,by simp[slL];exact hn,by simp only[slL,slK];exact h4,λ_=>⟨.inl rfl,?_⟩,λj y hj=>?_⟩,λy hy=>.inr ?_,λy hy=>⟨.inr hy,λhw=>?_⟩⟩
  ·simp[D8,slB,slC,slK]
  ·show C8 _ _ _ i.b (0+j)=_;simp only[C8,if_true,a4W];rcases get j y hj with⟨g1,g2⟩|⟨rfl,rfl⟩
   ·rw[if_pos (by omega),Nat.zero_add];exact h.c j y g2
   ·rw[if_neg (by omega),if_pos (by simp only[List.length_cons,List.length_nil];omega),show 0+E.length-slL v*1=0 by omega];rfl
  ·obtain⟨_,rfl⟩:=a9J hy;exact h2
  ·have hne:y≠i.b:=λe=>h2 (e▸hy)
   exact⟨by simp only[D8];rw[if_neg hne],λc=>by simp only[C8];rw[if_neg hne]⟩
theorem isQT.fp0{q:RM}{R:Nat->Q4}{m:Nat}:∀ {d:Nat} {Q:Q4} {k:QK},isQT q R m d Q k->k.b∈k.fp
 | 0,Q,k,⟨v,E,_,h,_⟩=>by rw[h];simp
 | d+1,Q,k,⟨sp,v,E,ks,_,_,h,_⟩=>by rw[h];simp
theorem b3d{ks:List (Option QK)}{y:Nat}(h:y∈ks.flatMap kfp):∃(j:Nat)(x:QK),ks[j]? = some (some x)/\y∈x.fp:=by
 obtain⟨o,ho,hy⟩:=List.mem_flatMap.1 h;obtain⟨j,hj,e⟩:=List.getElem_of_mem ho
 cases o with
 | none=>simp[kfp]at hy
 | some x=>exact⟨j,x,by rw[List.getElem?_eq_getElem hj,e],hy⟩
theorem I6{ks:List (Option QK)}{j:Nat}{x:QK}{y:Nat}(h:ks[j]? = some (some x))(hy:y∈x.fp):y∈ks.flatMap kfp :=
 List.mem_flatMap.2 ⟨some x,List.mem_of_getElem? h,hy⟩
theorem isQT.D{q:RM}{R:Nat->Q4}{m:Nat}:∀ {d:Nat} {Q:Q4} {k:QK},isQT q R m d Q k->∀ y∈k.fp,q.D y
 | 0,Q,k,⟨v,E,ha,h,_⟩,y,hy=>by
  rw[h]at hy;rcases List.mem_cons.1 hy with rfl|hy
  ·exact ha.D
  ·exact ha.u.D' y hy
 | d+1,Q,k,⟨sp,v,E,ks,ha,_,h,_,_,hk,_⟩,y,hy=>by
  rw[h]at hy;rcases List.mem_cons.1 hy with rfl|hy
  ·exact ha.D
  rcases List.mem_append.1 hy with hy|hy
  ·exact ha.u.D' y hy
  ·obtain⟨j,x,hj,hy⟩:=b3d hy;exact(hk j x hj).D y hy
theorem qnA.same{q q':RM}{b:Nat}{sp:Bool}{v:Value}{E:List Nat}{ks:List (Option QK)}(h:qnA q b sp v E ks)(hb:q'.D b/\q'.S b=q.S b/\∀ c,q'.F b c=q.F b c)
  (hs:∀ x∈fpU v,q'.D x/\q'.S x=q.S x/\∀ c,q'.F x c=q.F x c):qnA q' b sp v E ks where
 D:=hb.1
 S:=hb.2.1.trans h.S
 s0:=(hb.2.2 _).trans h.s0
 s1:=(hb.2.2 _).trans h.s1
 u:=h.u.same hs
 kl:=h.kl
 k:=λj o ho=>(hb.2.2 _).trans (h.k j o ho)
theorem isQT.same{q q':RM}{R:Nat->Q4}{m:Nat}:∀ {d:Nat} {Q:Q4} {k:QK},isQT q R m d Q k->(∀ y∈k.fp,q'.D y/\q'.S y=q.S y/\∀ c,q'.F y c=q.F y c)->isQT q' R m d Q k
 | 0,Q,k,⟨v,E,ha,h,h1,h2⟩,hs=>⟨v,E,ha.same (hs _ (by rw[h];simp)) λx hx=>hs x (by rw[h];exact List.mem_cons_of_mem _ hx),h,h1,h2⟩
 | d+1,Q,k,⟨sp,v,E,ks,ha,h0,h,h1,h2,hk,hn⟩,hs=>⟨sp,v,E,ks,ha.same (hs _ (by rw[h];simp)) λx hx=>hs x (by rw[h];exact List.mem_cons_of_mem _ (List.mem_append_left _ hx)),h0,h,h1,h2,
   λj x hj=>(hk j x hj).same λy hy=>hs y (by rw[h];exact List.mem_cons_of_mem _ (List.mem_append_right _ (I6 hj hy))),hn⟩
theorem b8c{o o':Option QK}(h:a7q o=a7q o'):(o=none/\o'=none)∨∃ x x',o=some x/\o'=some x'/\x.b=x'.b:=by
 cases o with
 | none=>cases o' with
  | none=>exact .inl ⟨rfl,rfl⟩
  | some x=>simp[a7q]at h
 | some x=>cases o' with
  | none=>simp[a7q]at h
  | some x' =>
   simp[a7q]at h;exact .inr ⟨x,x',rfl,rfl,h⟩
theorem isQT.uniq{q:RM}{R:Nat->Q4}{m:Nat}:∀ {d:Nat} {Q:Q4} {k k':QK},isQT q R m d Q k->isQT q R m d Q k'->k.b=k'.b->k=k'
 | 0,Q,⟨b,fp,its⟩,⟨b',fp',its'⟩,⟨v,E,ha,h,h1,_⟩,⟨v',E',ha',h',h1',_⟩,e=>by
  dsimp only at *;subst e;have ev:v=v':=ha.s1.symm.trans ha'.s1;subst ev;have eE:=ha.u.uniq ha'.u;subst eE;rw[h,h',h1,h1']
 | d+1,Q,⟨b,fp,its⟩,⟨b',fp',its'⟩,⟨sp,v,E,ks,ha,_,h,h1,_,hk,_⟩,⟨sp',v',E',ks',ha',_,h',h1',_,hk',_⟩,e=>by
  dsimp only at *;subst e;have ev:v=v':=ha.s1.symm.trans ha'.s1;subst ev;have eE:=ha.u.uniq ha'.u;subst eE
  have ek:ks=ks':=by
   refine List.ext_getElem? λj=>?_
   by_cases hj:j<ks.length
   ·have hj':j<ks'.length:=by rw[ha'.kl,<-ha.kl];exact hj
    have e1:=List.getElem?_eq_getElem hj;have e2:=List.getElem?_eq_getElem hj';rw[e1,e2];generalize ks[j]=o at *;generalize ks'[j]=o' at *;rcases b8c ((ha.k j o e1).symm.trans (ha'.k j o' e2))with⟨rfl,rfl⟩|⟨x,x',rfl,rfl,hx⟩
    ·rfl
    ·rw[isQT.uniq (hk j x e1) (hk' j x' e2) hx]
   ·rw[List.getElem?_eq_none (by omega),List.getElem?_eq_none (by rw[ha'.kl,<-ha.kl];omega)]
  subst ek;rw[h,h',h1,h1']
structure qpN (q:RM) (R:Nat->Q4) (m d:Nat) (Q:Q4) (b:Nat) (sp:Bool) (v:Value) (E:List Nat) (ks:List (Option QK)) (xs:List Nat):Prop where
 a:qnA q b sp v E ks
 kid:∀(j:Nat)(x:QK),ks[j]? = some (some x)->isQT q R m d (qbV Q (j:Int)) x
 ok:∀ x∈E,a1j R m Q x
 nd:(b :: (fpU v++(ks.flatMap kfp++xs))).Nodup
 xD:∀ x∈xs,q.D x
def qiR(q:RM)(R:Nat->Q4)(m d:Nat)(Q:Q4)(i:Nat)(k:QK)(q':RM):Prop :=
 ∃ k',isQT q' R m d Q k'/\k'.b=k.b/\k'.fp.Nodup/\k'.its.Perm (i :: k.its)/\(∀ x∈k'.fp,x∈k.fp∨¬q.D x)/\frQ (·∈k.fp) q q'
theorem nd4{b:Nat}{A B C:List Nat}:(b :: (A++(B++C))).Nodup↔(b∉A/\b∉B/\b∉C)/\(A.Nodup/\B.Nodup/\C.Nodup)/\(∀ x∈A,x∉B)/\(∀ x∈A,x∉C)/\∀ x∈B,x∉C:=by
 simp only[List.nodup_cons,List.nodup_append,List.mem_append,ne_eq];grind
theorem a9b:nok.flatMap kfp=[]:=rfl
theorem a6n:nok.flatMap Q1=[]:=rfl
theorem a5l{j:Nat}{o:Option QK}(h:nok[j]? = some o):o=none:=by
 match j,h with
 | 0,h=>simpa [nok]using h.symm
 | 1,h=>simpa [nok]using h.symm
 | 2,h=>simpa [nok]using h.symm
 | 3,h=>simpa [nok]using h.symm
 | j+4,h=>simp[nok]at h
theorem Y6{α:Type}{l:List α}{j:Nat}{o:α}(h:l[j]? = some o):∃ A B,l=A++o :: B/\A.length=j/\∀ o',l.set j o'=A++o' :: B:=by
 obtain⟨hj,rfl⟩:=List.getElem?_eq_some_iff.1 h;refine⟨l.take j,l.drop (j+1),?_,by simp;omega,λo'=>?_⟩
 ·rw[<-List.drop_eq_getElem_cons hj,List.take_append_drop]
 ·exact List.set_eq_take_append_cons_drop.trans (by rw[if_pos hj])
section
variable {q:RM} {R:Nat->Q4} {m d b:Nat} {Q:Q4} {sp:Bool} {v w:Value} {E N xs:List Nat} {ks:List (Option QK)}
theorem kne.x(h:kne ks)(c:Nat):b1O c ks:=λj x _ hj=>h j x hj
theorem kne.nok:kne nok:=λj x hj=>absurd (a5l hj) (by simp)
theorem b1O.set{c:Nat}(h:b1O c ks){x:QK}(hx:1<=x.its.length):kne (ks.set c (some x)):=λj y hy=>by
 rw[List.getElem?_set]at hy;split at hy
 ·split at hy
  ·simp only[oI9]at hy;subst hy;exact hx
  ·simp at hy
 ·exact h j y (Ne.symm ‹_›) hy
theorem kne.setX(h:kne ks){c:Nat}{o:Option QK}:b1O c (ks.set c o):=λj y hj hy=>by
 rw[List.getElem?_set_ne (Ne.symm hj)]at hy;exact h j y hy
theorem qpN.qt(h:qpN q R m d Q b sp v E ks [])(hs:sp=false->ks=nok/\E.length<=32)(hne:kne ks) :
  isQT q R m (d+1) Q ⟨b,b :: (fpU v++ks.flatMap kfp),E++ks.flatMap Q1⟩/\(b :: (fpU v++ks.flatMap kfp)).Nodup :=
 ⟨⟨sp,v,E,ks,h.a,hs,rfl,rfl,h.ok,h.kid,hne⟩,by have:=h.nd;simpa using this⟩
theorem qpN.qt0(h:qpN q R m d Q b false v E nok []):isQT q R m 0 Q ⟨b,b :: fpU v,E⟩/\(b :: fpU v).Nodup :=
 ⟨⟨v,E,h.a,rfl,rfl,h.ok⟩,by have:=h.nd;simpa [a9b]using this⟩
theorem b9T{k:QK}(h:isQT q R m (d+1) Q k)(nd:k.fp.Nodup):∃ sp v E ks,qpN q R m d Q k.b sp v E ks []/\(sp=false->ks=nok/\E.length<=32)/\k.fp=k.b :: (fpU v++ks.flatMap kfp)/\k.its=E++ks.flatMap Q1/\kne ks:=by
 obtain⟨sp,v,E,ks,ha,h0,h1,h2,h3,h4,h5⟩:=h;exact⟨sp,v,E,ks,⟨ha,h4,h3,by rw[h1]at nd;simpa using nd,by simp⟩,h0,h1,h2,h5⟩
theorem c3e{k:QK}(d:Nat)(h:isQT q R m 0 Q k)(nd:k.fp.Nodup):∃ v E,qpN q R m d Q k.b false v E nok []/\k.fp=k.b :: fpU v/\k.its=E:=by
 obtain⟨v,E,ha,h1,h2,h3⟩:=h;exact⟨v,E,⟨ha,λj x hj=>absurd (a5l hj) (by simp),h3,by rw[h1]at nd;simpa [a9b]using nd,by simp⟩,h1,h2⟩
theorem qpN.D(h:qpN q R m d Q b sp v E ks xs):q.D b/\(∀ y∈fpU v,q.D y)/\∀ y∈ks.flatMap kfp,q.D y :=
 ⟨h.a.D,h.a.u.D',λy hy=>by
  obtain⟨j,x,hj,hy⟩:=b3d hy
  exact(h.kid j x hj).D y hy⟩
theorem qpN.own(h:qpN q R m d Q b sp v E ks []){x:Nat}(hx:a1j R m Q x){i:ApI}(hp:P1 q.D q.S q.F 1 (slB v) (slC v) (slL v) (slK v) 1 [.int .u32 (x:Nat)] i) :
  qpN ⟨i.D,i.S,j0 i.F b 1 (.slice (some ⟨i.b,i.c,none⟩) (slL v+1) i.k)⟩ R m d Q b sp (.slice (some ⟨i.b,i.c,none⟩) (slL v+1) i.k) (E++[x]) ks []/\
  (∀ y∈fpU (.slice (some ⟨i.b,i.c,none⟩) (slL v+1) i.k),y∈fpU v∨¬q.D y)/\frQ (λy=>y=b∨y∈fpU v) q ⟨i.D,i.S,j0 i.F b 1 (.slice (some ⟨i.b,i.c,none⟩) (slL v+1) i.k)⟩:=by
 obtain⟨u1,u2,u3⟩:=h.a.u.app hp;obtain⟨D1,D2,D3⟩:=h.D;obtain⟨⟨n1,n2,_⟩,⟨n4,n5,_⟩,n6,_⟩:=nd4.1 h.nd;generalize Value.slice (some ⟨i.b,i.c,none⟩) (slL v+1) i.k=v' at *
 have hb:b∉fpU v':=λhb=>by
  rcases u2 b hb with h1|h1
  ·exact n1 h1
  ·exact h1 D1
 obtain⟨b1,b2⟩:=u3 b D1;obtain⟨b3,b4⟩:=b2 n1;have off:∀ y c,y≠b->j0 i.F b 1 v' y c=i.F y c:=λy c hy=>b9 (.inl hy)
 have hf:frQ (λy=>y=b∨y∈fpU v) q ⟨i.D,i.S,j0 i.F b 1 v'⟩:=λy hy=>⟨(u3 y hy).1,λhn=>⟨((u3 y hy).2 λe=>hn (.inr e)).1,λc=>by
  show j0 _ _ _ _ _ _=_
  rw[off y c λe=>hn (.inl e)];exact((u3 y hy).2 λe=>hn (.inr e)).2 c⟩⟩
 refine⟨⟨⟨b1,b3.trans h.a.S,?_,A2,u1.same λy hy=>⟨u1.D' y hy,rfl,λc=>off y c λe=>hb (e▸hy)⟩,h.a.kl,λj o ho=>?_⟩,λj k hk=>?_,?_,?_,by simp⟩,u2,hf⟩
 ·show j0 _ _ _ _ _ _=_;rw[b9 (by omega)];exact(b4 0).trans h.a.s0
 ·show j0 _ _ _ _ _ _=_;rw[b9 (by omega)];exact(b4 _).trans (h.a.k j o ho)
 ·refine(h.kid j k hk).same λy hy=>?_
  have hyk:=I6 hk hy;have h1:=hf y (D3 y hyk)
  exact⟨h1.1,h1.2 λe=>by
   rcases e with rfl|e
   ·exact n2 hyk
   ·exact n6 y e hyk⟩
 ·intro y hy;rcases List.mem_append.1 hy with hy|hy
  ·exact h.ok y hy
  ·simp at hy;subst hy;exact hx
 ·refine nd4.2 ⟨⟨hb,n2,by simp⟩,⟨b5E _,n5,by simp⟩,λy hy hy2=>?_,by simp,by simp⟩;rcases u2 y hy with h1|h1
  ·exact n6 y h1 hy2
  ·exact h1 (D3 y hy2)
theorem qpN.aside(h:qpN q R m d Q b sp v E ks (fpU w))(hw:isU q w N){x:Nat}{i:ApI}(hp:P1 q.D q.S q.F 1 (slB w) (slC w) (slL w) (slK w) 1 [.int .u32 (x:Nat)] i) :
  qpN ⟨i.D,i.S,i.F⟩ R m d Q b sp v E ks (fpU (.slice (some ⟨i.b,i.c,none⟩) (slL w+1) i.k))/\isU ⟨i.D,i.S,i.F⟩ (.slice (some ⟨i.b,i.c,none⟩) (slL w+1) i.k) (N++[x])/\
  (∀ y∈fpU (.slice (some ⟨i.b,i.c,none⟩) (slL w+1) i.k),y∈fpU w∨¬q.D y)/\frQ (·∈fpU w) q ⟨i.D,i.S,i.F⟩:=by
 obtain⟨u1,u2,u3⟩:=hw.app hp;obtain⟨D1,D2,D3⟩:=h.D;obtain⟨⟨n1,n2,n3⟩,⟨n4,n5,n6⟩,n7,n8,n9⟩:=nd4.1 h.nd;generalize Value.slice (some ⟨i.b,i.c,none⟩) (slL w+1) i.k=w' at *;have keep:∀ y,q.D y->y∉fpU w->i.D y/\i.S y=q.S y/\∀ c,i.F y c=q.F y c:=λy hy hn=>⟨(u3 y hy).1,(u3 y hy).2 hn⟩
 refine⟨⟨h.a.same (keep b D1 n3) λy hy=>keep y (D2 y hy) (n8 y hy),λj k hk=>(h.kid j k hk).same λy hy=>keep y (D3 y (I6 hk hy)) (n9 y (I6 hk hy)),h.ok,?_,u1.D'⟩,u1,u2,u3⟩;refine nd4.2 ⟨⟨n1,n2,λhb=>?_⟩,⟨n4,n5,b5E _⟩,n7,λy hy hy2=>?_,λy hy hy2=>?_⟩
 ·rcases u2 b hb with h1|h1
  ·exact n3 h1
  ·exact h1 D1
 ·rcases u2 y hy2 with h1|h1
  ·exact n8 y hy h1
  ·exact h1 (D2 y hy)
 ·rcases u2 y hy2 with h1|h1
  ·exact n9 y hy h1
  ·exact h1 (D3 y hy)
theorem b6q:rz tys 191 0=.bool false/\rz tys 191 1=.slice none 0 0/\∀ j,j<4->rz tys 191 (2+j)=.pointer none:=by
 refine⟨rfl,rfl,λj hj=>?_⟩
 match j,hj with
 | 0,_=>rfl
 | 1,_=>rfl
 | 2,_=>rfl
 | 3,_=>rfl
theorem b0O{c:Nat}(hD:q.D c)(hS:q.S c=6)(hF:∀ j,q.F c j=rz tys 191 j):isQT q R m d Q ⟨c,[c],[]⟩:=by
 have ha:qnA q c false (.slice none 0 0) [] nok:=by
  refine⟨hD,hS,by rw[hF,b6q.1],by rw[hF,b6q.2.1],isU.nil q,rfl,λj o ho=>?_⟩;have hj:j<4:=(List.getElem?_eq_some_iff.1 ho).1;rw[a5l ho,hF,b6q.2.2 j hj];rfl
 cases d with
 | zero=>exact⟨_,[],ha,rfl,rfl,by simp⟩
 | succ d=>exact⟨false,_,[],nok,ha,λ_=>⟨rfl,by simp⟩,rfl,rfl,by simp,λj x hj=>absurd (a5l hj) (by simp),kne.nok⟩
theorem a3h{f:Option QK->List Nat}{j:Nat}{o o':Option QK}(h:ks[j]? = some o)(y:Nat)(hy:y∈(ks.set j o').flatMap f):y∈f o'∨y∈ks.flatMap f:=by
 obtain⟨A,B,rfl,_,h2⟩:=Y6 h;rw[h2]at hy;simp only[List.flatMap_append,List.flatMap_cons,List.mem_append]at hy ⊢;grind
theorem b3j{j:Nat}{o o':Option QK}(h:ks[j]? = some o)(hn:(ks.flatMap kfp).Nodup)(hn':(kfp o').Nodup)(hd:∀ y∈kfp o',y∈kfp o∨y∉ks.flatMap kfp):((ks.set j o').flatMap kfp).Nodup:=by
 obtain⟨A,B,rfl,_,h2⟩:=Y6 h;rw[h2];simp only[List.flatMap_append,List.flatMap_cons,List.nodup_append,List.mem_append,ne_eq]at hn hd ⊢;grind
theorem qpN.new(h:qpN q R m d Q b sp v E ks xs){j c:Nat}(hj:ks[j]? = some none)(hc:¬q.D c) :
  qpN ⟨K5 q.D c,D8 q.S c 6,j0 (C8 q.F c (rz tys 191)) b (2+j) (.pointer (some ⟨c,0,none⟩))⟩ R m d Q b sp v E (ks.set j (some ⟨c,[c],[]⟩)) xs/\
  frQ (·= b) q ⟨K5 q.D c,D8 q.S c 6,j0 (C8 q.F c (rz tys 191)) b (2+j) (.pointer (some ⟨c,0,none⟩))⟩:=by
 obtain⟨D1,D2,D3⟩:=h.D;obtain⟨⟨n1,n2,n3⟩,⟨n4,n5,n6⟩,n7,n8,n9⟩:=nd4.1 h.nd;have hbc:b≠c:=λe=>hc (e▸D1)
 have keepS:∀ y,q.D y->D8 q.S c 6 y=q.S y:=λy hy=>by
  have hne:y≠c:=λe=>hc (e▸hy)
  simp only[D8];rw[if_neg hne]
 have keepF:∀ y x,q.D y->(y≠b∨x≠2+j)->j0 (C8 q.F c (rz tys 191)) b (2+j) (.pointer (some ⟨c,0,none⟩)) y x=q.F y x:=λy x hy hx=>by
  have hne:y≠c:=λe=>hc (e▸hy)
  rw[b9 (by omega)];simp only[C8];rw[if_neg hne]
 have hjl:j<ks.length:=(List.getElem?_eq_some_iff.1 hj).1
 have keep:∀ y,q.D y->y≠b->K5 q.D c y/\D8 q.S c 6 y=q.S y/\∀ x,j0 (C8 q.F c (rz tys 191)) b (2+j) (.pointer (some ⟨c,0,none⟩)) y x=q.F y x :=
  λy hy hn=>⟨.inr hy,keepS y hy,λx=>keepF y x hy (.inl hn)⟩
 have mem:∀ y∈(ks.set j (some ⟨c,[c],[]⟩)).flatMap kfp,y=c∨y∈ks.flatMap kfp:=λy hy=>by
  rcases a3h hj y hy with h1|h1
  ·simp[kfp]at h1;exact .inl h1
  ·exact .inr h1
 refine⟨⟨⟨.inr D1,(keepS b D1).trans h.a.S,(keepF b 0 D1 (by omega)).trans h.a.s0,(keepF b 1 D1 (by omega)).trans h.a.s1,h.a.u.same λy hy=>keep y (D2 y hy) λe=>n1 (e▸hy),by simp[h.a.kl],λj' o ho=>?_⟩,λj' x hx=>?_,h.ok,?_,λy hy=>.inr (h.xD y hy)⟩,
  λy hy=>⟨.inr hy,λhn=>⟨keepS y hy,λx=>keepF y x hy (.inl hn)⟩⟩⟩
 ·rw[List.getElem?_set]at ho;split at ho
  ·rename_i e;subst e;simp only[oI9]at ho;subst ho;exact A2
  ·rename_i e;exact(keepF b _ D1 (by omega)).trans (h.a.k j' o ho)
 ·rw[List.getElem?_set]at hx;split at hx
  ·rename_i e;subst e;simp only[oI9]at hx;subst hx;refine b0O (.inl rfl) (by simp[D8]) λx=>?_
   show j0 _ _ _ _ _ _=_;rw[b9 (.inl (Ne.symm hbc))];simp[C8]
  ·exact(h.kid j' x hx).same λy hy=>keep y (D3 y (I6 hx hy)) λe=>n2 (e▸I6 hx hy)
 ·refine nd4.2 ⟨⟨n1,λhb=>?_,n3⟩,⟨n4,b3j hj n5 (by simp[kfp]) λy hy=>.inr λhy2=>?_,n6⟩,λy hy hy2=>?_,n8,λy hy hy2=>?_⟩
  ·rcases mem b hb with h1|h1
   ·exact hbc h1
   ·exact n2 h1
  ·simp[kfp]at hy;subst hy;exact hc (D3 _ hy2)
  ·rcases mem y hy2 with rfl|h1
   ·exact hc (D2 _ hy)
   ·exact n7 y hy h1
  ·rcases mem y hy with rfl|h1
   ·exact hc (h.xD _ hy2)
   ·exact n9 y h1 hy2
theorem qpN.child(h:qpN q R m d Q b sp v E ks xs){j i:Nat}{x:QK}{q':RM}(hj:ks[j]? = some (some x))(hr:qiR q R m d (qbV Q (j:Int)) i x q') :
  ∃ x',qpN q' R m d Q b sp v E (ks.set j (some x')) xs/\((ks.set j (some x')).flatMap Q1).Perm (i :: ks.flatMap Q1)/\(∀ y∈(ks.set j (some x')).flatMap kfp,y∈ks.flatMap kfp∨¬q.D y)/\frQ (·∈x.fp) q q'/\1<=x'.its.length:=by
 obtain⟨x',t1,t2,t3,t4,t5,t6⟩:=hr;obtain⟨D1,D2,D3⟩:=h.D;obtain⟨⟨n1,n2,n3⟩,⟨n4,n5,n6⟩,n7,n8,n9⟩:=nd4.1 h.nd;have hjl:j<ks.length:=(List.getElem?_eq_some_iff.1 hj).1;have hxk:∀ y∈x.fp,y∈ks.flatMap kfp:=λy hy=>I6 hj hy
 have keep:∀ y,q.D y->y∉x.fp->q'.D y/\q'.S y=q.S y/\∀ c,q'.F y c=q.F y c:=λy hy hn=>⟨(t6 y hy).1,(t6 y hy).2 hn⟩
 have mem:∀ y∈(ks.set j (some x')).flatMap kfp,y∈ks.flatMap kfp∨¬q.D y:=λy hy=>by
  rcases a3h hj y hy with h1|h1
  ·rcases t5 y h1 with h2|h2
   ·exact .inl (hxk y h2)
   ·exact .inr h2
  ·exact .inl h1
 have kb:=keep b D1 λe=>n2 (hxk b e)
 refine⟨x',⟨⟨kb.1,kb.2.1.trans h.a.S,(kb.2.2 _).trans h.a.s0,(kb.2.2 _).trans h.a.s1,h.a.u.same λy hy=>keep y (D2 y hy) λe=>n7 y hy (hxk y e),by simp[h.a.kl],λj' o ho=>?_⟩,λj' k hk=>?_,h.ok,?_,λy hy=>(t6 y (h.xD y hy)).1⟩,?_,mem,t6,by rw[t4.length_eq];simp⟩
 ·rw[List.getElem?_set]at ho;split at ho
  ·rename_i e;subst e;simp only[oI9]at ho;subst ho;refine(kb.2.2 _).trans ((h.a.k _ _ hj).trans ?_);simp[a7q,t2]
  ·exact(kb.2.2 _).trans (h.a.k j' o ho)
 ·rw[List.getElem?_set]at hk;split at hk
  ·rename_i e;subst e;simp only[oI9]at hk;subst hk;exact t1
  ·rename_i e;refine(h.kid j' k hk).same λy hy=>keep y (D3 y (I6 hk hy)) λhy2=>?_
   obtain⟨A,B,rfl,hA,_⟩:=Y6 hj;simp only[List.flatMap_append,List.flatMap_cons,List.nodup_append,List.mem_append,ne_eq]at n5;rcases Nat.lt_or_ge j' A.length with c|c
   ·rw[List.getElem?_append_left c]at hk;have:y∈A.flatMap kfp:=I6 hk hy;exact n5.2.2 y this y (.inl hy2) rfl
   ·rw[List.getElem?_append_right c]at hk;obtain⟨u,hu⟩:∃ u,j'-A.length=u+1:=⟨j'-A.length-1,by omega⟩;rw[hu,List.getElem?_cons_succ]at hk;have:y∈B.flatMap kfp:=I6 hk hy;exact n5.2.1.2.2 y hy2 y this rfl
 ·refine nd4.2 ⟨⟨n1,λhb=>?_,n3⟩,⟨n4,b3j hj n5 t3 λy hy=>?_,n6⟩,λy hy hy2=>?_,n8,λy hy hy2=>?_⟩
  ·rcases mem b hb with h1|h1
   ·exact n2 h1
   ·exact h1 D1
  ·rcases t5 y hy with h2|h2
   ·exact .inl h2
   ·exact .inr λh3=>h2 (D3 y h3)
  ·rcases mem y hy2 with h1|h1
   ·exact n7 y hy h1
   ·exact h1 (D2 y hy)
  ·rcases mem y hy with h1|h1
   ·exact n9 y h1 hy2
   ·exact h1 (h.xD y hy2)
 ·obtain⟨A,B,rfl,hA,h2⟩:=Y6 hj;rw[h2];simp only[List.flatMap_append,List.flatMap_cons];refine(List.Perm.append_left _ (List.Perm.append_right _ t4)).trans ?_;exact List.perm_middle
theorem qpN.done(h:qpN q R m d Q b sp v E ks (fpU w))(hw:isU q w N)(hN:∀ x∈N,a1j R m Q x) :
  qpN ⟨q.D,q.S,j0 (j0 q.F b 1 w) b 0 (.bool true)⟩ R m d Q b true w N ks []/\frQ (·= b) q ⟨q.D,q.S,j0 (j0 q.F b 1 w) b 0 (.bool true)⟩:=by
 obtain⟨D1,D2,D3⟩:=h.D;obtain⟨⟨n1,n2,n3⟩,⟨n4,n5,n6⟩,n7,n8,n9⟩:=nd4.1 h.nd
 have keep:∀ y,q.D y->y≠b->q.D y/\q.S y=q.S y/\∀ x,j0 (j0 q.F b 1 w) b 0 (.bool true) y x=q.F y x :=
  λy hy hn=>⟨hy,rfl,λx=>by rw[b9 (.inl hn),b9 (.inl hn)]⟩
 refine⟨⟨⟨D1,h.a.S,A2,?_,hw.same λy hy=>keep y (h.xD y hy) λe=>n3 (e▸hy),h.a.kl,λj o ho=>?_⟩,λj x hx=>(h.kid j x hx).same λy hy=>keep y (D3 y (I6 hx hy)) λe=>n2 (e▸I6 hx hy),hN,?_,by simp⟩,
  λy hy=>⟨hy,λhn=>(keep y hy hn).2⟩⟩
 ·show j0 _ _ _ _ _ _=_;rw[b9 (by omega)];exact A2
 ·show j0 _ _ _ _ _ _=_;rw[b9 (by omega),b9 (by omega)];exact h.a.k j o ho
 ·exact nd4.2 ⟨⟨n3,n2,by simp⟩,⟨n6,n5,by simp⟩,λy hy hy2=>n9 y hy2 hy,by simp,by simp⟩
end
theorem qiR.trans{q q1 q':RM}{R:Nat->Q4}{m d i:Nat}{Q:Q4}{k k1:QK}(hb:k1.b=k.b)(hf:frQ (·∈k.fp) q q1)(hn:∀ x∈k1.fp,x∈k.fp∨¬q.D x)(hp:k1.its.Perm k.its)(h:qiR q1 R m d Q i k1 q'):qiR q R m d Q i k q':=by
 obtain⟨k',t1,t2,t3,t4,t5,t6⟩:=h;refine⟨k',t1,t2.trans hb,t3,t4.trans (hp.cons i),λx hx=>?_,hf.trans t6 (λ_ _ h=>h) λx hx hw=>?_⟩
 ·rcases t5 x hx with h1|h1
  ·exact hn x h1
  ·exact .inr λh2=>h1 (hf x h2).1
 ·rcases hn x hw with h1|h1
  ·exact h1
  ·exact absurd hx h1
def qiP(q:RM)(g:Nat->Nat)(n b:Nat)(Q:Q4)(d i:Nat)(q':RM):Prop:=∀ k,qiA q g n b Q d k->qiR q (rcF g n) n d Q i k q'
def qiO(q:RM)(g:Nat->Nat)(n b:Nat)(Q r:Q4)(i d:Nat):Prop :=
 (d<=16/\QB d Q/\n<=1000000)/\r=rcF g n i/\a1j (rcF g n) n Q i/\∃ k,qiA q g n b Q d k/\k.its.length<1000
theorem qiA.uniq{q:RM}{g:Nat->Nat}{n b d:Nat}{Q:Q4}{k k':QK}(h:qiA q g n b Q d k)(h':qiA q g n b Q d k'):k'=k:=h'.t.uniq h.t (h'.b.trans h.b.symm)
theorem qiP.of{q q':RM}{g:Nat->Nat}{n b d i:Nat}{Q:Q4}{k:QK}(h:qiA q g n b Q d k)(hr:qiR q (rcF g n) n d Q i k q'):qiP q g n b Q d i q':=λk' h'=>by rw[h.uniq h'];exact hr
structure QI where
 j:Nat
 v:Value
 q:RM
structure qlA (q:RM) (g:Nat->Nat) (n b:Nat) (Q:Q4) (d:Nat) (k:QK) (v:Value) (E N:List Nat) (ks:List (Option QK)) (s:QI):Prop where
 hk:qiA q g n b Q (d+1) k
 hE:k.its=E/\E.length=32
 p:qpN s.q (rcF g n) n d Q b false v E ks (fpU s.v)
 w:isU s.q s.v N
 hN:∀ x∈N,a1j (rcF g n) n Q x
 pm:(N++ks.flatMap Q1).Perm (E.take s.j)
 j:s.j<=32
 fr:frQ (·∈k.fp) q s.q
 nw:(∀ y∈ks.flatMap kfp,y∈k.fp∨¬q.D y)/\∀ y∈fpU s.v,y∈k.fp∨¬q.D y
def qlI(q:RM)(g:Nat->Nat)(n b:Nat)(Q:Q4)(d:Nat)(s:QI):Prop:=∃ k v E N ks,qlA q g n b Q d k v E N ks s/\kne ks
def qlX(q:RM)(g:Nat->Nat)(n b:Nat)(Q:Q4)(d:Nat)(s:QI)(x:Nat):Prop:=∃ k v E N ks,qlA q g n b Q d k v E N ks s/\E[s.j]? = some x/\kne ks
def qlY(q:RM)(g:Nat->Nat)(n b:Nat)(Q:Q4)(d:Nat)(s:QI)(x:Nat)(q':RM):Prop :=
 ∃ k v E N ks y,qlA q g n b Q d k v E N ks ⟨s.j,s.v,q'⟩/\E[s.j]? = some x/\(0<=cqV Q (rcF g n x)/\cqV Q (rcF g n x)<4/\inQ (qbV Q (cqV Q (rcF g n x))) (rcF g n x))/\ks[(cqV Q (rcF g n x)).toNat]? = some (some y)/\b1O (cqV Q (rcF g n x)).toNat ks
structure qcA (q:RM) (g:Nat->Nat) (n b:Nat) (Q:Q4) (d c:Nat) (q':RM) (k:QK) (v:Value) (E:List Nat) (ks:List (Option QK)) (y:QK):Prop where
 hk:qiA q g n b Q (d+1) k
 p:qpN q' (rcF g n) n d Q b true v E ks []
 pm:(E++ks.flatMap Q1).Perm k.its
 nw:(∀ y∈ks.flatMap kfp,y∈k.fp∨¬q.D y)/\∀ y∈fpU v,y∈k.fp∨¬q.D y
 fr:frQ (·∈k.fp) q q'
 hy:ks[c]? = some (some y)
 ne:b1O c ks
def qcP(q:RM)(g:Nat->Nat)(n b:Nat)(Q:Q4)(d c:Nat)(q':RM):Prop:=∃ k v E ks y,qcA q g n b Q d c q' k v E ks y
section
variable {q:RM} {g:Nat->Nat} {n b d:Nat} {Q:Q4} {k:QK}
theorem qiA.own0(h:qiA q g n b Q 0 k)(e:Nat):∃ v E,qpN q (rcF g n) n e Q b false v E nok []/\k.fp=b :: fpU v/\k.its=E:=by
 obtain⟨v,E,h1,h2,h3⟩:=c3e e h.t h.nd;rw[h.b]at h1 h2;exact⟨v,E,h1,h2,h3⟩
theorem qiA.own1(h:qiA q g n b Q (d+1) k):∃ sp v E ks,qpN q (rcF g n) n d Q b sp v E ks []/\(sp=false->ks=nok/\E.length<=32)/\k.fp=b :: (fpU v++ks.flatMap kfp)/\k.its=E++ks.flatMap Q1/\kne ks:=by
 obtain⟨sp,v,E,ks,h1,h0,h2,h3,h4⟩:=b9T h.t h.nd;rw[h.b]at h1 h2;exact⟨sp,v,E,ks,h1,h0,h2,h3,h4⟩
theorem qiA.node(h:qiA q g n b Q d k):∃ sp v E ks,qnA q b sp v E ks/\E.length<=k.its.length:=by
 cases d with
 | zero =>
  obtain⟨v,E,h1,h2,h3⟩:=h.own0 0;exact⟨_,_,_,_,h1.a,by rw[h3];exact Nat.le_refl _⟩
 | succ d =>
  obtain⟨sp,v,E,ks,h1,h0,h2,h3,_⟩:=h.own1;exact⟨_,_,_,_,h1.a,by rw[h3];simp⟩
theorem qiA.cells(h:qiA q g n b Q d k):q.D b/\q.S b=6/\b1c (q.F b 0)/\isSlN (q.F b 1)/\Go.Sx.appO q.D q.S 1 4 (slB (q.F b 1)) (slC (q.F b 1)) (slL (q.F b 1)) (slK (q.F b 1)) 1:=by
 obtain⟨sp,v,E,ks,h1,h2⟩:=h.node;have h3:=h.le;rw[h1.s1,h1.s0];exact⟨h1.D,h1.S,rfl,h1.u.appO (by omega)⟩
theorem qiA.bfp(h:qiA q g n b Q d k):b∈k.fp:=by rw[<-h.b];exact h.t.fp0
theorem c3v(h:qiA q g n b Q 0 k){x:Nat}(hx:a1j (rcF g n) n Q x){i:ApI}(hp:P1 q.D q.S q.F 1 (slB (q.F b 1)) (slC (q.F b 1)) (slL (q.F b 1)) (slK (q.F b 1)) 1 [.int .u32 (x:Nat)] i) :
  (i.D b/\2<=i.S b)/\qiP q g n b Q 0 x ⟨i.D,i.S,j0 i.F b 1 (.slice (some ⟨i.b,i.c,none⟩) (slL (q.F b 1)+1) i.k)⟩:=by
 obtain⟨v,E,h1,h2,h3⟩:=h.own0 0;rw[h1.a.s1]at hp ⊢;obtain⟨r1,r2,r3⟩:=h1.own hx hp;refine⟨⟨r1.a.D,by have:i.S b=6:=r1.a.S;omega⟩,qiP.of h ?_⟩;obtain⟨r4,r5⟩:=r1.qt0;refine⟨_,r4,h.b.symm,r5,?_,λy hy=>?_,r3.mono λy _ hw=>?_⟩
 ·rw[h3];exact List.perm_append_singleton x E
 ·rcases List.mem_cons.1 hy with rfl|hy
  ·exact .inl h.bfp
  ·rcases r2 y hy with h4|h4
   ·exact .inl (by rw[h2];exact List.mem_cons_of_mem _ h4)
   ·exact .inr h4
 ·rw[h2];rcases hw with rfl|hw
  ·simp
  ·exact List.mem_cons_of_mem _ hw
theorem b6P(h:qiA q g n b Q (d+1) k)(hs:Z8 (q.F b 0)=true∨slL (q.F b 1)≠32){x:Nat}(hx:a1j (rcF g n) n Q x){i:ApI}(hp:P1 q.D q.S q.F 1 (slB (q.F b 1)) (slC (q.F b 1)) (slL (q.F b 1)) (slK (q.F b 1)) 1 [.int .u32 (x:Nat)] i) :
  (i.D b/\2<=i.S b)/\qiP q g n b Q (d+1) x ⟨i.D,i.S,j0 i.F b 1 (.slice (some ⟨i.b,i.c,none⟩) (slL (q.F b 1)+1) i.k)⟩:=by
 obtain⟨sp,v,E,ks,h1,h0,h2,h3,hne⟩:=h.own1;rw[h1.a.s0,h1.a.s1]at hs;rw[h1.a.s1]at hp ⊢;obtain⟨r1,r2,r3⟩:=h1.own hx hp;refine⟨⟨r1.a.D,by have:i.S b=6:=r1.a.S;omega⟩,qiP.of h ?_⟩
 obtain⟨r4,r5⟩:=r1.qt (λe=>by
  obtain⟨e1,e2⟩:=h0 e;refine⟨e1,?_⟩;have e3:=h1.a.u.n;rcases hs with hs|hs
  ·rw[e]at hs;exact absurd hs (by decide)
  ·simp;omega) hne
 refine⟨_,r4,h.b.symm,r5,?_,λy hy=>?_,r3.mono λy _ hw=>?_⟩
 ·rw[h3,List.append_assoc];exact List.perm_middle
 ·rcases List.mem_cons.1 hy with rfl|hy
  ·exact .inl h.bfp
  ·rcases List.mem_append.1 hy with hy|hy
   ·rcases r2 y hy with h4|h4
    ·exact .inl (by rw[h2];exact List.mem_cons_of_mem _ (List.mem_append_left _ h4))
    ·exact .inr h4
   ·exact .inl (by rw[h2];exact List.mem_cons_of_mem _ (List.mem_append_right _ hy))
 ·rw[h2];rcases hw with rfl|hw
  ·simp
  ·exact List.mem_cons_of_mem _ (List.mem_append_left _ hw)
theorem a4k(o:Option QK):a3l (a7q o):=by
 cases o with
 | none=>exact .inl rfl
 | some x=>exact .inr ⟨_,rfl⟩
theorem a1Q(o:Option QK):R0 (a7q o)=o.isNone:=by cases o <;> rfl
theorem qnA.kid{sp:Bool}{v:Value}{E:List Nat}{ks:List (Option QK)}(h:qnA q b sp v E ks){c:Nat}(hc:c<4):∃ o,ks[c]? = some o/\q.F b (2+c)=a7q o:=by
 have:=List.getElem?_eq_getElem (by rw[h.kl];exact hc:c<ks.length);exact⟨_,this,h.k _ _ this⟩
theorem qiA.kidc(h:qiA q g n b Q (d+1) k){c:Nat}(hc:c<4):a3l (q.F b (2+c)):=by
 obtain⟨sp,v,E,ks,h1,_⟩:=h.own1;obtain⟨o,_,h5⟩:=h1.a.kid hc;rw[h5];exact a4k o
theorem a9g(q:RM)(b:Nat):a1x q b<=1:=by unfold a1x;split <;> omega
theorem c2U(h:qiA q g n b Q (d+1) k)(hs:Z8 (q.F b 0)=true){c x:Nat}(hc:c<4)(hn:R0 (q.F b (2+c))=true)(hx:¬q.D x) :
  qcP q g n b Q d c ⟨K5 q.D x,D8 q.S x 6,j0 (C8 q.F x (rz tys 191)) b (2+c) (.pointer (some ⟨x,0,none⟩))⟩:=by
 obtain⟨sp,v,E,ks,h1,h0,h2,h3,hne⟩:=h.own1;obtain⟨o,h4,h5⟩:=h1.a.kid hc;rw[h5,a1Q]at hn;obtain rfl:o=none:=by simpa using hn
 obtain rfl:sp=true:=by rw[h1.a.s0]at hs;exact hs
 obtain⟨r1,r2⟩:=h1.new h4 hx;have hl:c<ks.length:=by rw[h1.a.kl];exact hc
 refine⟨k,v,E,_,⟨x,[x],[]⟩,h,r1,?_,⟨λy hy=>?_,λy hy=>.inl (by rw[h2];exact List.mem_cons_of_mem _ (List.mem_append_left _ hy))⟩,r2.mono λy _ hw=>by rw[hw];exact h.bfp,by simp[hl],hne.setX⟩
 ·rw[h3];obtain⟨A,B,rfl,_,h6⟩:=Y6 h4;rw[h6];simp[Q1]
 ·rcases a3h h4 y hy with h6|h6
  ·simp[kfp]at h6;subst h6;exact .inr hx
  ·exact .inl (by rw[h2];exact List.mem_cons_of_mem _ (List.mem_append_right _ h6))
theorem c2b(h:qiA q g n b Q (d+1) k)(hs:Z8 (q.F b 0)=true){c:Nat}(hc:c<4)(hn:R0 (q.F b (2+c))=false):qcP q g n b Q d c q:=by
 obtain⟨sp,v,E,ks,h1,h0,h2,h3,hne⟩:=h.own1;obtain⟨o,h4,h5⟩:=h1.a.kid hc;rw[h5,a1Q]at hn
 obtain⟨y,rfl⟩:∃ y,o=some y:=by cases o with
  | none=>simp at hn
  | some y=>exact⟨y,rfl⟩
 obtain rfl:sp=true:=by rw[h1.a.s0]at hs;exact hs
 exact⟨k,v,E,ks,y,h,h1,by rw[h3],⟨λy hy=>.inl (by rw[h2];exact List.mem_cons_of_mem _ (List.mem_append_right _ hy)),λy hy=>.inl (by rw[h2];exact List.mem_cons_of_mem _ (List.mem_append_left _ hy))⟩,frQ.refl _ _,h4,hne.x c⟩
theorem a9T{ks:List (Option QK)}{c:Nat}{y:QK}(h:ks[c]? = some (some y)):y.its.length<=(ks.flatMap Q1).length:=by
 obtain⟨A,B,rfl,_,_⟩:=Y6 h;simp only[List.flatMap_append,List.flatMap_cons,List.length_append,Q1];omega
theorem c1o{ks:List (Option QK)}{c:Nat}{y:QK}(h:ks[c]? = some (some y))(hn:(ks.flatMap kfp).Nodup):y.fp.Nodup:=by
 obtain⟨A,B,rfl,_,_⟩:=Y6 h;simp only[List.flatMap_append,List.flatMap_cons,List.nodup_append,kfp]at hn;exact hn.2.1.1
theorem qpN.sub{sp:Bool}{v:Value}{E xs:List Nat}{ks:List (Option QK)}(h:qpN q (rcF g n) n d Q b sp v E ks xs){c:Nat}{y:QK}(hy:ks[c]? = some (some y))(hl:(ks.flatMap Q1).length<=1000) :
  q.F b (2+c)=.pointer (some ⟨y.b,0,none⟩)/\qiA q g n y.b (qbV Q (c:Int)) d y:=by
 refine⟨h.a.k _ _ hy,h.kid _ _ hy,rfl,c1o hy (nd4.1 h.nd).2.1.2.1,?_⟩;have:=a9T hy;omega
theorem b6x{c:Nat}{q':RM}{v:Value}{E:List Nat}{ks:List (Option QK)}{y:QK}(h:qcA q g n b Q d c q' k v E ks y)(hl:k.its.length<1000) :
  (q'.D b/\q'.S b=6)/\q'.F b (2+c)=.pointer (some ⟨y.b,0,none⟩)/\qiA q' g n y.b (qbV Q (c:Int)) d y/\y.its.length<1000:=by
 have h1:=h.pm.length_eq;rw[List.length_append]at h1;have h2:=a9T h.hy;obtain⟨h3,h4⟩:=h.p.sub h.hy (by omega);exact⟨⟨h.p.a.D,h.p.a.S⟩,h3,h4,by omega⟩
theorem c2p{c x:Nat}{q' q'':RM}{v:Value}{E:List Nat}{ks:List (Option QK)}{y:QK}(h:qcA q g n b Q d c q' k v E ks y)(hl:k.its.length<1000)(hP:qiP q' g n y.b (qbV Q (c:Int)) d x q''):qiP q g n b Q (d+1) x q'':=by
 obtain⟨_,_,h3,_⟩:=b6x h hl;obtain⟨x',r1,r2,r3,r4,r5⟩:=h.p.child h.hy (hP y h3);obtain⟨s1,s2⟩:=r1.qt (by simp) (h.ne.set r5);refine qiP.of h.hk ⟨_,s1,h.hk.b.symm,s2,?_,λz hz=>?_,h.fr.trans r4 (λ_ _ hw=>hw) λz hz hw=>?_⟩
 ·show (E++_).Perm _;refine(List.Perm.append_left E r2).trans (List.perm_middle.trans ?_);exact h.pm.cons x
 ·rcases List.mem_cons.1 hz with rfl|hz
  ·exact .inl h.hk.bfp
  ·rcases List.mem_append.1 hz with hz|hz
   ·exact h.nw.2 z hz
   ·rcases r3 z hz with h5|h5
    ·exact h.nw.1 z h5
    ·exact .inr λh6=>h5 (h.fr z h6).1
 ·rcases h.nw.1 z (I6 h.hy hw)with h5|h5
  ·exact h5
  ·exact absurd hz h5
theorem b9s(h:qiA q g n b Q (d+1) k)(hs:Z8 (q.F b 0)=false)(hl:slL (q.F b 1)=32):qlI q g n b Q d ⟨0, .slice none 0 0,q⟩:=by
 obtain⟨sp,v,E,ks,h1,h0,h2,h3,hne⟩:=h.own1;obtain rfl:sp=false:=by rw[h1.a.s0]at hs;exact hs
 obtain⟨rfl,_⟩:=h0 rfl;rw[h1.a.s1]at hl;exact⟨k,v,E,[],nok,⟨h,⟨by rw[h3,a6n];simp,by rw[<-h1.a.u.n];exact hl⟩,h1,isU.nil q,by simp,by rw[a6n];simp,by simp,frQ.refl _ _,by rw[a9b];simp,by simp[fpU,slK]⟩,kne.nok⟩
variable {v:Value} {E N:List Nat} {ks:List (Option QK)} {s:QI}
theorem b1l(h:qlA q g n b Q d k v E N ks s):(s.q.D b/\s.q.S b=6)/\s.q.F b 1=v/\isSlN v/\slL v=32:=by
 refine⟨⟨h.p.a.D,h.p.a.S⟩,h.p.a.s1,h.p.a.u.sl,?_⟩;rw[h.p.a.u.n];exact h.hE.2
theorem b9q(h:qlA q g n b Q d k v E N ks s)(hj:s.j<32):∃ x,E[s.j]? = some x/\a5G v/\(s.q.D (slB v)/\slC v+s.j<s.q.S (slB v))/\s.q.F (slB v) (slC v+s.j)=.int .u32 (x:Nat):=by
 have h1:=List.getElem?_eq_getElem (by rw[h.hE.2];exact hj:s.j<E.length);have h2:=h.p.a.u.pos h1;obtain⟨h3,h4⟩:=h.p.a.u.D h2;have h5:=h.p.a.u.le;have h6:=(b1l h).2.2.2;refine⟨_,h1,?_,⟨h3,by omega⟩,h.p.a.u.c _ _ h1⟩;rcases h.p.a.u.sl with e|e
 ·rw[e]at h2;exact absurd h2 (by decide)
 ·exact e
theorem b3e{E L:List Nat}{j x:Nat}(h:L.Perm (E.take j))(hj:E[j]? = some x):(x :: L).Perm (E.take (j+1)):=by
 rw[List.take_add_one,hj];exact(h.cons x).trans (List.perm_append_singleton x _).symm
theorem b3P(h:qlA q g n b Q d k v E N ks s){x:Nat}(hx:E[s.j]? = some x):a1j (rcF g n) n Q x/\s.j<32:=by
 refine⟨h.p.ok x (List.mem_of_getElem? hx),?_⟩;have:=(List.getElem?_eq_some_iff.1 hx).1;rw[h.hE.2]at this;exact this
theorem a9h(h:qlA q g n b Q d k v E N ks s):N.length+(ks.flatMap Q1).length<=32:=by
 have h1:=h.pm.length_eq;rw[List.length_append,List.length_take]at h1;have:=h.j;omega
theorem b9d(h:qlA q g n b Q d k v E N ks s)(hne:kne ks){x:Nat}(hx:E[s.j]? = some x){i:ApI}(hp:P1 s.q.D s.q.S s.q.F 1 (slB s.v) (slC s.v) (slL s.v) (slK s.v) 1 [.int .u32 (x:Nat)] i) :
  qlI q g n b Q d ⟨s.j+1, .slice (some ⟨i.b,i.c,none⟩) (slL s.v+1) i.k,⟨i.D,i.S,i.F⟩⟩:=by
 obtain⟨r1,r2,r3,r4⟩:=h.p.aside h.w hp;obtain⟨h1,h2⟩:=b3P h hx;refine⟨k,v,E,N++[x],ks,⟨h.hk,h.hE,r1,r2,λy hy=>?_,?_,h2,h.fr.trans r4 (λ_ _ hw=>hw) λy hy hw=>?_,h.nw.1,λy hy=>?_⟩,hne⟩
 ·rcases List.mem_append.1 hy with hy|hy
  ·exact h.hN y hy
  ·simp at hy;subst hy;exact h1
 ·refine(List.Perm.append_right _ (List.perm_append_singleton x N)).trans ?_;exact b3e h.pm hx
 ·rcases h.nw.2 y hw with h3|h3
  ·exact h3
  ·exact absurd hy h3
 ·rcases r3 y hy with h3|h3
  ·exact h.nw.2 y h3
  ·exact .inr λh4=>h3 (h.fr y h4).1
theorem c3p(h:qlA q g n b Q d k v E N ks s)(hne:kne ks){x:Nat}(hx:E[s.j]? = some x)(hq:0<=cqV Q (rcF g n x)/\cqV Q (rcF g n x)<4/\inQ (qbV Q (cqV Q (rcF g n x))) (rcF g n x)){z:Nat}(hn:R0 (s.q.F b (2+(cqV Q (rcF g n x)).toNat))=true)(hz:¬s.q.D z) :
  qlY q g n b Q d s x ⟨K5 s.q.D z,D8 s.q.S z 6,j0 (C8 s.q.F z (rz tys 191)) b (2+(cqV Q (rcF g n x)).toNat) (.pointer (some ⟨z,0,none⟩))⟩:=by
 have hc:(cqV Q (rcF g n x)).toNat<4:=by omega
 generalize hC:(cqV Q (rcF g n x)).toNat=c at *;obtain⟨o,h4,h5⟩:=h.p.a.kid hc;rw[h5,a1Q]at hn;obtain rfl:o=none:=by simpa using hn
 obtain⟨r1,r2⟩:=h.p.new h4 hz;have hl:c<ks.length:=by rw[h.p.a.kl];exact hc
 have hbw:b∉fpU s.v:=(nd4.1 h.p.nd).1.2.2;refine⟨k,v,E,N,ks.set c (some ⟨z,[z],[]⟩),⟨z,[z],[]⟩,⟨h.hk,h.hE,r1,h.w.same λy hy=>?_,h.hN,?_,h.j,h.fr.trans r2 (λ_ _ hw=>hw) λy hy hw=>by rw[hw];exact h.hk.bfp,λy hy=>?_,h.nw.2⟩,hx,hq,by rw[hC];simp[hl],by rw[hC];exact hne.setX⟩
 ·have h6:=r2 y (h.w.D' y hy);exact⟨h6.1,h6.2 λe=>hbw (e▸hy)⟩
 ·obtain⟨A,B,rfl,_,h6⟩:=Y6 h4;rw[h6];have:=h.pm;simpa [Q1]using this
 ·rcases a3h h4 y hy with h6|h6
  ·simp[kfp]at h6;subst h6;exact .inr λh7=>hz (h.fr _ h7).1
  ·exact h.nw.1 y h6
theorem c2v(h:qlA q g n b Q d k v E N ks s)(hne:kne ks){x:Nat}(hx:E[s.j]? = some x)(hq:0<=cqV Q (rcF g n x)/\cqV Q (rcF g n x)<4/\inQ (qbV Q (cqV Q (rcF g n x))) (rcF g n x))(hn:R0 (s.q.F b (2+(cqV Q (rcF g n x)).toNat))=false) :
  qlY q g n b Q d s x s.q:=by
 obtain⟨o,h4,h5⟩:=h.p.a.kid (c:=(cqV Q (rcF g n x)).toNat) (by omega);rw[h5,a1Q]at hn
 obtain⟨y,rfl⟩:∃ y,o=some y:=by cases o with
  | none=>simp at hn
  | some y=>exact⟨y,rfl⟩
 exact⟨k,v,E,N,ks,y,h,hx,hq,h4,hne.x _⟩
theorem b7D{q' q'':RM}{x c:Nat}{y:QK}(h:qlA q g n b Q d k v E N ks ⟨s.j,s.v,q'⟩)(hx:E[s.j]? = some x)(hy:ks[c]? = some (some y))(hne:b1O c ks)(hP:qiP q' g n y.b (qbV Q (c:Int)) d x q''):qlI q g n b Q d ⟨s.j+1,s.v,q''⟩:=by
 have h0:=a9h h;obtain⟨_,h3⟩:=h.p.sub hy (by omega);obtain⟨x',r1,r2,r3,r4,r5⟩:=h.p.child hy (hP y h3);obtain⟨h1,h2⟩:=b3P h hx;have hd:∀ z∈fpU s.v,z∉y.fp:=λz hz hz2=>(nd4.1 h.p.nd).2.2.2.2 z (I6 hy hz2) hz
 refine⟨k,v,E,N,_,⟨h.hk,h.hE,r1,h.w.same λz hz=>?_,h.hN,?_,h2,h.fr.trans r4 (λ_ _ hw=>hw) λz hz hw=>?_,λz hz=>?_,h.nw.2⟩,hne.set r5⟩
 ·have h6:=r4 z (h.w.D' z hz);exact⟨h6.1,h6.2 (hd z hz)⟩
 ·refine(List.Perm.append_left N r2).trans (List.perm_middle.trans ?_);exact b3e h.pm hx
 ·rcases h.nw.1 z (I6 hy hw)with h5|h5
  ·exact h5
  ·exact absurd hz h5
 ·rcases r3 z hz with h5|h5
  ·exact h.nw.1 z h5
  ·exact .inr λh6=>h5 (h.fr z h6).1
theorem c3y(h:qlA q g n b Q d k v E N ks s)(hne:kne ks)(hj:¬s.j<32):∃ k1,qiA ⟨s.q.D,s.q.S,j0 (j0 s.q.F b 1 s.v) b 0 (.bool true)⟩ g n b Q (d+1) k1/\k1.its.length<1000/\
  ∀ x q',qiP ⟨s.q.D,s.q.S,j0 (j0 s.q.F b 1 s.v) b 0 (.bool true)⟩ g n b Q (d+1) x q'->qiP q g n b Q (d+1) x q':=by
 obtain⟨r1,r2⟩:=h.p.done h.w h.hN;obtain⟨s1,s2⟩:=r1.qt (by simp) hne;have hlen:=a9h h;have hE:E.take s.j=E:=List.take_of_length_le (by rw[h.hE.2];omega);have hpm:=h.pm;rw[hE]at hpm;have ha:qiA ⟨s.q.D,s.q.S,j0 (j0 s.q.F b 1 s.v) b 0 (.bool true)⟩ g n b Q (d+1) ⟨b,b :: (fpU s.v++ks.flatMap kfp),N++ks.flatMap Q1⟩:=⟨s1,rfl,s2,by simp only[List.length_append];omega⟩;refine⟨_,ha,by simp only[List.length_append];omega,λx q' hP=>qiP.of h.hk ?_⟩
 refine qiR.trans (k1:=⟨b,b :: (fpU s.v++ks.flatMap kfp),N++ks.flatMap Q1⟩) h.hk.b.symm (h.fr.trans r2 (λ_ _ hw=>hw) λy hy hw=>by rw[hw];exact h.hk.bfp) (λy hy=>?_) (by rw[h.hE.1];exact hpm) (hP _ ha);rcases List.mem_cons.1 hy with rfl|hy
 ·exact .inl h.hk.bfp
 ·rcases List.mem_append.1 hy with hy|hy
  ·exact h.nw.2 y hy
  ·exact h.nw.1 y hy
end
end Go.Proofs.Tryz.Sx
