/- Parts of a proof, in order: what each says stands at its head. No conditions. -/
import Derived.Test.YtfhkmkhcofodmaaGreatM7
import Derived.Test.YtfhkmkhcofodmaaGreatM3
import Derived.Test.YtfhkmkhcofodmaaGreatM6
import Derived.Test.YtfhkmkhcofodmaaGreatM4
namespace Go.Proofs.Tryz.Sx
open Go Go.Sx Go.Proofs Go.Fl Go.Geo
set_option maxRecDepth 100000
structure MQ (qa qb qc qd:Nat):Prop where
 mono:∀ A B:Q4,finQ A->finQ B->inQ A B->qmt B qa qb qc qd=true->qmt A qa qb qc qd=true
 a:∀ x,Fl.Fin x->fGt .f64 qa x=fLt .f64 x qa
 b:∀ x,Fl.Fin x->fGt .f64 qb x=fLt .f64 x qb
 c:∀ x,Fl.Fin x->fLt .f64 qc x=fGt .f64 x qc
 d:∀ x,Fl.Fin x->fLt .f64 qd x=fGt .f64 x qd
theorem a5r{x y:Nat}(hx:Fl.Fin x)(hy:Fl.Fin y):fGt .f64 x y=fLt .f64 y x:=by rw[b0q hx hy,a4P hy hx]
theorem MQ.fin{qa qb qc qd:Nat}(ha:Fl.Fin qa)(hb:Fl.Fin qb)(hc:Fl.Fin qc)(hd:Fl.Fin qd):MQ qa qb qc qd :=
 ⟨λ_ _ hA hB hi hm=>b7g hA hB hi ha hb hc hd hm,λ_ hx=>a5r ha hx,λ_ hx=>a5r hb hx,λ_ hx=>(a5r hx hc).symm,λ_ hx=>(a5r hx hd).symm⟩
theorem b3F{g:Nat->Int}{a:Nat}{B:Bx}(h:a1U g a B){qa qb qc qd:Nat}(hM:MQ qa qb qc qd):rbx g a qa qb qc qd=qmt ⟨f8 g a,f8 g (a+8),f8 g (a+8+8),f8 g (a+8+8+8)⟩ qa qb qc qd:=by
 obtain⟨h0,h1,h2,h3⟩:=a4h h;unfold rbx qmt;dsimp only;rw[hM.b _ h3.1,hM.d _ h1.1,hM.a _ h2.1,hM.c _ h0.1];generalize fLt .f64 (f8 g (a+8+8+8)) qb=u;generalize fGt .f64 (f8 g (a+8)) qd=v;generalize fLt .f64 (f8 g (a+8+8)) qa=w;generalize fGt .f64 (f8 g a) qc=z;cases u <;> cases v <;> cases w <;> cases z <;> rfl
def FI4(r:Q4)(B:Bx):Prop:=FI r.x0 B.x0/\FI r.y0 B.y0/\FI r.x1 B.x1/\FI r.y1 B.y1
theorem FI4.fin{r:Q4}{B:Bx}(h:FI4 r B):finQ r:=⟨h.1.1,h.2.1.1,h.2.2.1.1,h.2.2.2.1⟩
theorem FI4.inQ{r s:Q4}{A B:Bx}(h:FI4 r A)(k:FI4 s B)(hi:D6 A B):Go.Proofs.Tryz.Sx.inQ r s:=by
 obtain⟨i0,i1,i2,i3⟩:=hi;exact⟨FI.V_le h.1 k.1 (by omega),FI.V_le h.2.1 k.2.1 (by omega),FI.V_le k.2.2.1 h.2.2.1 (by omega),FI.V_le k.2.2.2 h.2.2.2 (by omega)⟩
section
variable {σ:Type} {g:Nat->Int} {qa qb qc qd:Nat} (hM:MQ qa qb qc qd) {f:Nat->σ->σ×Bool}
include hM
theorem b3V:∀ {h a e:Nat} {its:List (Int×Bx)} {B:Bx},Z1 g h a e its B->(∀ it∈its,∃ r,FI4 r it.2/\(qmt r qa qb qc qd=false->∀ s,f it.1.toNat s=(s,true)))->∀ s,rS g qa qb qc qd f h a s=flS (λ(it:Int×Bx) s=>f it.1.toNat s) its s
 | 0,a,e,its,B,⟨h1,h2,h3,w,h4,h5,h6,h7⟩,hp,s=>by
  unfold rS;have hb:FI4 ⟨f8 g a,f8 g (a+8),f8 g (a+8+8),f8 g (a+8+8+8)⟩ B:=a4h h1;rw[b3F h1 hM];cases hm:qmt ⟨f8 g a,f8 g (a+8),f8 g (a+8+8),f8 g (a+8+8+8)⟩ qa qb qc qd
  ·refine(a3D λit hit s=>?_).symm;obtain⟨r,hr,hs⟩:=hp it hit;refine hs ?_ s;cases hi:qmt r qa qb qc qd
   ·rfl
   ·rw[hM.mono _ r hb.fin hr.fin (hb.inQ hr (h3 it hit)) hi]at hm;cases hm
  ·have hw:(rBw g a).toNat=w:=by unfold rBw;rw[h5,tN9]
   refine a3C (show its.length=G3 g a by unfold G3;rw[h2,tN9]) (λj it hj s=>?_) s;unfold rIt;rw[hw,h7 j it hj]
 | h+1,a,e,its,B,⟨h1,h2,ks,h3,h4,h5,h6⟩,hp,s=>by
  unfold rS;have hb:FI4 ⟨f8 g a,f8 g (a+8),f8 g (a+8+8),f8 g (a+8+8+8)⟩ B:=a4h h1;rw[b3F h1 hM];cases hm:qmt ⟨f8 g a,f8 g (a+8),f8 g (a+8+8),f8 g (a+8+8+8)⟩ qa qb qc qd
  ·refine(a3D λit hit s=>?_).symm;obtain⟨r,hr,hs⟩:=hp it hit;refine hs ?_ s;cases hi:qmt r qa qb qc qd
   ·rfl
   ·rw[hM.mono _ r hb.fin hr.fin (hb.inQ hr (h2 it hit)) hi]at hm;cases hm
  ·rw[h3,a1I];refine a3C (show ks.length=G3 g a by unfold G3;rw[h4,tN9]) (λj k hj s=>?_) s;obtain⟨k1,k2,k3,k4⟩:=h6 j k hj;have hkd:rKd g a j=k.a:=by unfold rKd;rw[k1,tN9]
   rw[hkd];exact b3V k4 (λit hit=>hp it (by rw[h3];exact List.mem_flatMap.2 ⟨k,List.mem_of_getElem? hj,hit⟩)) s
end
section
variable {σ:Type} {g:Nat->Int} {R:Nat->Q4} {n qa qb qc qd:Nat} (hM:MQ qa qb qc qd) {f:Nat->σ->σ×Bool} (hp:∀ x,x<n->finQ (R x)->qmt (R x) qa qb qc qd=false->∀ s,f x s=(s,true))
include hM hp
theorem b3Y:∀ {d a e:Nat} {Q:Q4} {its:List Nat},a4U g R n d a e Q its->d<=16->QB d Q->a1f Q->∀ s,qS g qa qb qc qd f d a Q s=flS f its s
 | 0,a,e,Q,its,⟨w,h1,h2,h3,h4⟩,_,hQ,_,s=>by
  have:=hp;have:=hM;obtain⟨e1,e2,e3,e4,e5⟩:=h1.facts;show qSt g qa qb qc qd f _ a Q s=_;unfold qSt;rw[if_neg (by rw[e4,h3];rintro⟨_,h⟩;exact absurd h (by decide))];exact a3C e3.symm (λj x hj s=>by rw[e5 j x hj]) s
 | d+1,a,e,Q,its,⟨w,E,ks,h1,h2,h3,h4⟩,hd16,hQ,ho,s=>by
  obtain⟨e1,e2,e3,e4,e5⟩:=h1.facts;have hit:∀ s,N9 g f a s=flS f E s:=a3C e3.symm (λj x hj s=>by rw[e5 j x hj]);show qSt g qa qb qc qd f (qS g qa qb qc qd f d) a Q s=_;unfold qSt;rw[hit,h2,a0B];rcases h4 with⟨k1,_,k3⟩|⟨k1,k2,k3,k4,k5⟩
  ·rw[if_neg (by rw[e4,k3];rintro⟨_,h⟩;exact absurd h (by decide)),k1];split
   ·rename_i h;show flS f E s=((flS f E s).1,true);exact Prod.ext rfl h
   ·rfl
  ·by_cases hs:(flS f E s).2=true
   ·rw[if_pos ⟨hs,by rw[e4];exact k2⟩,if_pos hs,a1I];have ep:qSp g a+1=a+2+w+w*E.length:=by rw[e4];omega
    have hpo:=a9M (g:=g) (a:=a) k1 (λt ht=>by rw[ep];exact k4 t ht) (λt k ht=>by rw[ep];exact(k5 t k ht).1);refine a3C k1 (λt o hg s=>?_) _;have ht:=(List.getElem?_eq_some_iff.1 hg).1;unfold qRo;rw[hpo t (by omega),ep]
    cases o with
    | none =>
     rw[k4 t hg,if_neg (by rintro⟨h,_⟩;exact absurd h (by decide))];rfl
    | some k =>
     obtain⟨l1,l2,l3,l4,l5⟩:=k5 t k hg
     have hkd:qKd g a t=k.a:=by
      unfold qKd;rw[hpo t (by omega),ep,l2,tN9]
     obtain⟨s1,s2,s3,s4,s5⟩:=ho.sub (by omega) hQ (t:Int);have hQ':=hQ.sub (by omega) (t:Int);rw[hkd,l1];cases hm:qmt (qbV Q (t:Int)) qa qb qc qd
     ·rw[if_neg (by rintro⟨_,h⟩;exact absurd h (by decide))];refine(a3D λx hx s=>?_).symm;obtain⟨i1,i2,i3⟩:=a8n l5 (by omega) hQ' s1 x hx;refine hp x i1 i2 ?_ s;cases hr:qmt (R x) qa qb qc qd
      ·rfl
      ·rw[hM.mono _ _ hQ'.finQ i2 i3 hr]at hm;cases hm
     ·rw[if_pos ⟨rfl,rfl⟩];exact b3Y l5 (by omega) hQ' s1 s
   ·rw[if_neg λh=>hs h.1,if_neg hs]
end
def sgF{σ:Type}(F:Nat->Nat->Nat->Nat->Nat->σ->σ×Bool)(g:Nat->Nat)(n i:Nat)(s:σ):σ×Bool:=F (g (2*i)) (g (2*i+1)) (g (2*nx n i)) (g (2*nx n i+1)) i s
def stG{σ:Type}(F:Nat->Nat->Nat->Nat->Nat->σ->σ×Bool)(g:Nat->Nat)(n qa qb qc qd:Nat):Nat->σ->σ×Bool:=sS (mtF g n qa qb qc qd) (sgF F g n)
theorem W6{σ:Type}{F:Nat->Nat->Nat->Nat->Nat->σ->σ×Bool}{g:Nat->Nat}{n qa qb qc qd i:Nat}(h:mtF g n qa qb qc qd i=false)(s:σ):stG F g n qa qb qc qd i s=(s,true):=by
 unfold stG sS;rw[h]
theorem a0C{σ:Type}{F:Nat->Nat->Nat->Nat->Nat->σ->σ×Bool}{g:Nat->Nat}{n qa qb qc qd i:Nat}(h:mtF g n qa qb qc qd i=true)(s:σ):stG F g n qa qb qc qd i s=sgF F g n i s:=by
 unfold stG sS;rw[h]
def srG{σ:Type}(ib:Bool)(k:Int)(im:Nat)(gB:Nat->Int)(Q:Q4)(m:Nat)(F:Nat->Nat->Nat->Nat->Nat->σ->σ×Bool)(g:Nat->Nat)(n qa qb qc qd:Nat)(s:σ):σ×Bool :=
 if ib=true then(if k=1 then(if im=5 then(s,true)else rS gB qa qb qc qd (stG F g n qa qb qc qd) (gB 5).toNat 6 s)else qS gB qa qb qc qd (stG F g n qa qb qc qd) 16 5 Q s)else flN (stG F g n qa qb qc qd) m s
section
variable {m n im:Nat} {k:Int} {ib:Bool} {g:Nat->Nat} {gB:Nat->Int} {Q:Q4} (hg:FL2 g (2*n)) (hm:m<=n) (hix:ixP ib m k n g Q (im,gB)) (hk:ib=true->(k=1∨k=2)/\(k=2->QB 16 Q/\a1f Q))
include hg hm hix hk
theorem c1Z:(ib=true->k=1->(m=0->im=5)/\(m≠0->6<=im/\(0<=gB 5/\gB 5<=100)/\rOk gB im n (gB 5).toNat 6))/\(ib=true->k=2->qOk gB im n 16 5 Q):=by
 have _:=hg;refine⟨λhi h1=>?_,λhi h2=>?_⟩
 ·subst h1;obtain⟨_,_,_,h1,_⟩:=hix.1 hi;obtain⟨h2,h3⟩:=h1 rfl;refine⟨h2,λh0=>?_⟩;obtain⟨t,its,B,c1,c2,c3,c4,c5⟩:=h3 h0;have c3:gB 5=((t:Nat):Int):=c3;rw[c3,tN9];refine⟨c4,by omega,b4h c5 (Nat.le_refl _) λit hit=>?_⟩;obtain⟨i,hi,rfl⟩:=List.mem_map.1 (c1.mem_iff.1 hit);have:=List.mem_range.1 hi;dsimp only;omega
 ·subst h2;obtain⟨_,_,_,_,h2⟩:=hix.1 hi;obtain⟨its,c1,c2⟩:=h2 rfl;exact b4d c2 (Nat.le_refl _) (Nat.le_refl _) ((hk hi).2 rfl).1
theorem b6K{qa qb qc qd:Nat}(hM:MQ qa qb qc qd):∃ L:List Nat,L.Perm (List.range m)/\(ib=false->L=List.range m)/\
  ∀ {σ:Type} (F:Nat->Nat->Nat->Nat->Nat->σ->σ×Bool) (s:σ),srG ib k im gB Q m F g n qa qb qc qd s=flS (stG F g n qa qb qc qd) L s:=by
 cases hi:ib
 ·exact⟨List.range m, .refl _,λ_=>rfl,λF s=>rfl⟩
 ·obtain⟨hk1,hk2⟩:=hk hi;have hb:=hix.1 hi;by_cases h1:k=1
  ·subst h1;obtain⟨_,_,_,h1,_⟩:=hb;obtain⟨h2,h3⟩:=h1 rfl;by_cases h0:m=0
   ·have h5:im=5:=h2 h0;refine⟨[],by rw[h0];exact .refl _,λh=>absurd h (by decide),λF s=>?_⟩;unfold srG;rw[if_pos rfl,if_pos rfl,if_pos h5];rfl
   ·obtain⟨t,its,B,c1,c2,c3,c4,c5⟩:=h3 h0;have c3:gB 5=((t:Nat):Int):=c3;have c4:6<=im:=c4;refine⟨its.map λit=>it.1.toNat,?_,λh=>absurd h (by decide),λF s=>?_⟩
    ·have:=c1.map λit:Int×Bx=>it.1.toNat
     refine this.trans (List.Perm.of_eq ?_);unfold a4X;rw[List.map_map]
     have:((λit:Int×Bx=>it.1.toNat) ∘ λi:Nat=>(((i:Nat):Int),c2s g n i))=id:=by
      funext i
      simp
     rw[this,List.map_id]
    ·unfold srG;rw[if_pos rfl,if_pos rfl,if_neg (by omega),c3,tN9,a5u (stG F g n qa qb qc qd)];refine b3V hM c5 (λit hit=>?_) s;obtain⟨i,hi,rfl⟩:=List.mem_map.1 (c1.mem_iff.1 hit);have hi:=List.mem_range.1 hi;obtain⟨w1,w2,w3,w4⟩:=b5I hg (show i<n by omega);refine⟨rcF g n i,⟨w1.1,w2.1,w3.1,w4.1⟩,λhq s=>?_⟩;dsimp only;rw[tN9];exact W6 (by rw[b2Z];exact hq) s
  ·have h2:k=2:=by rcases hk1 with e|e;exact absurd e h1;exact e
   subst h2;obtain⟨hQ,ho⟩:=hk2 rfl;obtain⟨_,_,_,_,h2⟩:=hb;obtain⟨its,c1,c2⟩:=h2 rfl;refine⟨its,c1,λh=>absurd h (by decide),λF s=>?_⟩;unfold srG;rw[if_pos rfl,if_neg h1];exact b3Y (R:=rcF g n) hM (λx _ _ hx s=>W6 (by rw[b2Z];exact hx) s) c2 (Nat.le_refl _) hQ ho s
end
end Go.Proofs.Tryz.Sx

namespace Go.Sx
open Go.RowKit
theorem b4M {P:Program} {G:Ctx} (hG:B7 P G) {f:Nat} {fn:Func} (hf:P.funcs[f]? = some fn) (hb:fn.body.isNone=false) (hnm:(fn.name == "runtime.NumGoroutine")=false) {C:List SV->RdM}
  (h:∀ args,(C args).All (λacc hc=>okP hc.obl->c0X fn args acc hc/\
   Wp P acc.length (p9 fn) (A6 fn.ntmps hc.args hc.heap acc.length) (A8 G.E.T fn.results.toList λS v=>D5 acc.length hc S v)) []):C4 P f (B3 C) :=
 a5S hG hf (O5 hb) hnm λargs=>(h args).imp λacc hc hk ho=>by
  obtain⟨h1,h2⟩:=hk ho;obtain⟨h3,h4,h5⟩:=F8 h1;simp only[bA9]at h3;exact⟨h4,h3.1,h3.2.1,V4 h5,h3.2.2.1,h3.2.2.2.1,h3.2.2.2.2,Wp.mono h2 λe S' hk'=>V3 (λ_ _=>a0A) hk'⟩
theorem Wp.pre{P:Program}{N0:Nat}{c:Code}{S:St}{K:Xt->St->Prop}
  (h:∀ W0 Fr ρ a w,Sat W0 Fr S ρ a w->∃ S',Sat W0 Fr S' ρ a w/\S'.N=S.N/\Wp P N0 c S' K):Wp P N0 c S K:=by
 intro W0 Fr ρ0 ρ a w Q hS hN hρ hK;obtain⟨S',h1,h2,h3⟩:=h W0 Fr ρ a w hS;exact h3 W0 Fr ρ0 ρ a w Q h1 (by rw[h2];exact hN) hρ hK
theorem HSat.first{W0:World}{Fr:Nat->Prop}{U:Nm->Prop}{ρ:Rho}{w:World}{rw:Bool}{el es:Nat}{c c':a9}{r:A1}(hH:HSat W0 Fr U ((0,⟨rw,el,c,es⟩) :: r) ρ w)
  (hs:c'.size=c.size) (hd:∀ i,i<c.size->(c'.at i).den ρ=(c.at i).den ρ) (hb:c'.bd U) (hr:c'.isRaw=false):HSat W0 Fr U ((0,⟨rw,el,c',es⟩) :: r) ρ w:=by
 have key:∀ n o',look ((0,⟨rw,el,c',es⟩) :: r) n=some o'->∃ o,look ((0,⟨rw,el,c,es⟩) :: r) n=some o/\o'.rw=o.rw/\o'.elem=o.elem/\o'.es=o.es/\o'.c.size=o.c.size/\(∀ i,i<o.c.size->(o'.c.at i).den ρ=(o.c.at i).den ρ)/\o'.c.bd U/\(o'.c.isRaw=false∨o'=o):=by
  intro n o' h;by_cases e:n=0
  ·subst e
   have:o'=⟨rw,el,c',es⟩:=by
    have h':some (⟨rw,el,c',es⟩:Ob)=some o':=h;injection h' with h'
    exact h'.symm
   subst this;exact⟨⟨rw,el,c,es⟩,rfl,rfl,rfl,rfl,hs,hd,hb, .inl hr⟩
  ·have hn:∀ o:Ob,look ((0,o) :: r) n=look r n:=λo=>by
    show (match Nat.beq 0 n with|true=>some o|false=>look r n)=_;cases hq:Nat.beq 0 n
    ·rfl
    ·exact absurd (eB9 hq).symm e
   rw[hn]at h;have h2:look ((0,⟨rw,el,c,es⟩) :: r) n=some o':=by rw[hn];exact h
   exact⟨o',h2,rfl,rfl,rfl,rfl,λ_ _=>rfl,hH.bd n o' h2, .inr rfl⟩
 exact {hH with
  used:=λn o h=>let ⟨_,h1,_⟩:=key n o h;hH.used n _ h1
  bd:=λn o h=>let ⟨_,_,_,_,_,_,_,h7,_⟩:=key n o h;h7
  obj:=λn o h=>by
   obtain⟨o1,h1,h2,h3,h4,h5,h6,_,_⟩:=key n o h;have hk:=hH.obj n o1 h1
   cases hp:ρ n with
   | none =>
    rw[hp]at hk;show o.c.size=0;rw[h5];exact hk
   | some p =>
    obtain⟨b,off,cp⟩:=p;rw[hp]at hk;obtain⟨k1,k2,k3⟩:=hk;refine⟨λi hi=>?_,λhrw=>?_,λh0=>k3 (by rw[<-h5];exact h0)⟩
    ·rw[h6 i (by rw[<-h5];exact hi)];exact k1 i (by rw[<-h5];exact hi)
    ·rw[h2]at hrw;obtain⟨l1,arr,l2,l3,l4,l5⟩:=k2 hrw;exact⟨l1,arr,by rw[h3];exact l2,by rw[h5];exact l3,λh0=>by rw[h4]at h0 ⊢;exact l4 h0,l5⟩
  inj:=λn m o o' p q h1 h2 hne hrw hor hp hq=>by
   obtain⟨a,a1,a2,_⟩:=key n o h1;obtain⟨b,b1,b2,_,_,b5,_⟩:=key m o' h2;exact hH.inj n m a b p q a1 b1 hne (by rw[<-a2];exact hrw) (by rw[<-b2,<-b5];exact hor) hp hq
  free:=λn o p h hrw hp=>by
   obtain⟨a,a1,a2,_⟩:=key n o h;exact hH.free n a p a1 (by rw[<-a2];exact hrw) hp
  rawd:=λn o ts D sz F h hrw hc=>by
   obtain⟨a,a1,a2,_,_,_,_,_,a8⟩:=key n o h;rcases a8 with h8|h8
   ·rw[hc]at h8;cases h8
   ·subst h8;have k:=hH.rawd n o ts D sz F a1 hrw hc;refine⟨k.sat,k.free,λm o' q hm hne hor hq=>?_,λm o' ts' D' sz' F' hm hne hrw' hc'=>?_⟩
    ·obtain⟨b,b1,b2,_,_,b5,_⟩:=key m o' hm;exact k.sep m b q b1 hne (by rw[<-b2,<-b5];exact hor) hq
    ·obtain⟨b,b1,b2,_,_,_,_,_,b8⟩:=key m o' hm;rcases b8 with h8|h8
     ·rw[hc']at h8;cases h8
     ·subst h8
      exact k.sepr m o' ts' D' sz' F' b1 hne hrw' hc'}
end Go.Sx

namespace Go.Proofs.Tryz.Sx
open Go Go.Sx Go.Proofs Go.Fl Go.Geo
set_option maxRecDepth 100000
def slU:a9->Option (Nm×Nat)
 | .cells [.slcc r l]=>some (r,l)
 | _=>none
theorem a1k{σ:Sig}{c:a9}{r q:Nm}{l:Nat}(h:slU c=some (r,l))(hs:L1 (σ q) r):L6 σ c (.cells [.slcc q l]):=by
 unfold slU at h;split at h
 ·simp only[oI9,pI9]at h;obtain⟨rfl,rfl⟩:=h;show q9 σ _ _;simp[q9,z5,hs]
 ·cases h
abbrev LsT:=Nat×(Nat->Int)
def fSR(lim:Int)(_ _ _ _ i:Nat)(s:LsT):LsT×Bool:=((s.1+1,z7 s.1 s.2 [(i:Int)] 0),decide ((s.1:Int)+1<lim))
noncomputable def b5P:List SV->RdM
 | [.agg [.flt .f64 ax, .flt .f64 ay, .flt .f64 bx, .flt .f64 by'], .int .i64 i, .ptr p 0, .ptr a 0]=>.read p λo0=>(match a2t o0 50 0 with
  | true=>(match slU o0.c with
  | some (r,m)=>.read a λo1=>(match bxI o1.c with
  | some lim=>.read r λo2=>(match a2t o2 2 1 with
  | true=>(match y7 .i64 o2.c with
  | some (m2,u)=>.ret ⟨[.agg [.flt .f64 ax, .flt .f64 ay, .flt .f64 bx, .flt .f64 by'], .int .i64 i, .ptr 0 0, .ptr 1 0],[(0,⟨true,50, .cells [.slcc 2 m],0⟩),(1,⟨false,2,a1c lim,0⟩),(2,⟨true,2, .ints .i64 m2 u,1⟩)], .bool (fSR lim ax ay bx by' i.toNat (m,u)).2,[(0,⟨true,50, .cells [.slcc 3 (fSR lim ax ay bx by' i.toNat (m,u)).1.1],0⟩),(2,⟨false,0, .cells [],0⟩)],[(3,⟨true,2, .ints .i64 (fSR lim ax ay bx by' i.toNat (m,u)).1.1 (fSR lim ax ay bx by' i.toNat (m,u)).1.2,1⟩)],some (m2=1*m/\0<=i/\(fSR lim ax ay bx by' i.toNat (m,u)).1.1<=1000000)⟩
  | none=>.fail)
  | false=>.fail)
  | none=>.fail)
  | none=>.fail)
  | false=>.fail)
 | _=>.fail
theorem c3g(ax ay bx by':Nat)(i:Int)(_:Nm)(m:Nat)(lim:Int)(u:Nat->Int){w9:HC}(e9:w9=⟨[.agg [.flt .f64 ax, .flt .f64 ay, .flt .f64 bx, .flt .f64 by'], .int .i64 i, .ptr 0 0, .ptr 1 0],[(0,⟨true,50, .cells [.slcc 2 m],0⟩),(1,⟨false,2,a1c lim,0⟩),(2,⟨true,2, .ints .i64 (1*m) u,1⟩)], .bool (fSR lim ax ay bx
 by' i.toNat (m,u)).2,[(0,⟨true,50, .cells [.slcc 3 (fSR lim ax ay bx by' i.toNat (m,u)).1.1],0⟩),(2,⟨false,0, .cells [],0⟩)],[(3,⟨true,2, .ints .i64 (fSR lim ax ay bx by' i.toNat (m,u)).1.1 (fSR lim ax ay bx by' i.toNat (m,u)).1.2,
 1⟩)],some (1*m=1*m/\0<=i/\(fSR lim ax ay bx by' i.toNat (m,u)).1.1<=1000000)⟩):J3 G0 3 [] [] (p9 f69) (A6 f69.ntmps w9.args w9.heap 3) (A8 G0.E.T f69.results.toList λS v=>D5 3 w9 S v)=(
 (1*m=m*1/\(m+1)*8<=140737488355328/\m+1<=9223372036854775807)/\decide ((↑(m+1):Int)<lim)=decide ((↑m:Int)+1<lim)/\True/\(50=50/\0=0/\(True/\m+1=m+1)/\True)/\True/\True/\True/\(2=2/\1=1/\m+1<=
 1*m+1/\∀(i_1:Nat),i_1<m+1->z7 (1*m) u [i] (0:Int) i_1=z7 m u [(↑(Int.toNat i):Int)] (0:Int) i_1)/\True):=by subst e9;kernel_rfl
theorem apZ:C4 prog 69 (B3 b5P):=by
 refine A5 g0 func69 rfl (by kernel_rfl) λargs=>?_
 unfold b5P;split;rotate_left;trivial;rename_i ax ay bx by' i p a;intro o0;try dsimp only
 split;rotate_left;trivial;rename_i hrw0;try dsimp only
 split;rotate_left;trivial;rename_i r m hm0;intro o1;try dsimp only
 split;rotate_left;trivial;rename_i lim hm1;intro o2;try dsimp only
 split;rotate_left;trivial;rename_i hrw2;try dsimp only
 split;rotate_left;trivial;rename_i m2 u hm2;intro(ho:m2=1*m/\0<=i/\(fSR lim ax ay bx by' i.toNat (m,u)).1.1<=1000000);obtain⟨hsz2,ho⟩:=ho;subst hsz2;refine⟨?_,_,_,(c3g ax ay bx by' i r m lim u rfl).mpr ?_⟩
 ·refine j8 rfl ⟨?_,⟨trivial,Q6 hrw0 (a1k hm0 g9),⟨trivial,a1i hm1,⟨trivial,Q6 hrw2 ((y6 hm2).1),trivial⟩⟩⟩⟩;simp[q9,z5,A0,C0,z8,z3,nth,g9]
 ·obtain⟨h0,hm⟩:=ho;have hm:m+1<=1000000:=hm;have e:((i.toNat:Nat):Int)=i:=by omega
  simp only[true_and,and_true,eq_self,Nat.le_refl,Nat.one_mul];rw[e];exact⟨⟨(Nat.mul_one m).symm,by omega,by omega⟩,by rw[Int.natCast_add];rfl,λ_ _=>rfl⟩
def b0U(f:Nat->LsT->LsT×Bool):Prop:=∀ j s,s.1<=(f j s).1.1
theorem b7y{f:Nat->LsT->LsT×Bool}(hf:b0U f)(a:Nat)(s:LsT):(flN f a s).1.1<=(flN f (a+1) s).1.1:=by
 rw[a5P];split
 ·exact hf _ _
 ·exact Nat.le_refl _
theorem a0h{f:Nat->LsT->LsT×Bool}(hf:b0U f){a b:Nat}(s:LsT)(h:a<=b):(flN f a s).1.1<=(flN f b s).1.1:=by
 induction b with
 | zero=>rw[show a=0 by omega];exact Nat.le_refl _
 | succ b ih =>
  by_cases e:a=b+1
  ·rw[e];exact Nat.le_refl _
  ·exact Nat.le_trans (ih (by omega)) (b7y hf b s)
theorem a9k{f:Nat->LsT->LsT×Bool}(hf:b0U f)(a:Nat)(s:LsT):s.1<=(flN f a s).1.1:=a0h hf s (Nat.zero_le a)
theorem a1P(lim:Int)(g:Nat->Nat)(n qa qb qc qd:Nat):b0U (stG (fSR lim) g n qa qb qc qd):=λj s=>by
 cases h:mtF g n qa qb qc qd j
 ·rw[W6 h];exact Nat.le_refl _
 ·rw[a0C h];exact Nat.le_succ _
theorem b4f{gB:Nat->Int}{qa qb qc qd:Nat}{f:Nat->LsT->LsT×Bool}(hf:b0U f):∀(h a:Nat)(s:LsT),s.1<=(rS gB qa qb qc qd f h a s).1.1
 | 0,a,s=>by
  unfold rS;split
  ·exact a9k (λj s=>hf _ s) _ s
  ·exact Nat.le_refl _
 | h+1,a,s=>by
  unfold rS;split
  ·exact a9k (λj s=>b4f hf h _ s) _ s
  ·exact Nat.le_refl _
theorem a8s{gB:Nat->Int}{f:Nat->LsT->LsT×Bool}(hf:b0U f)(a:Nat)(s:LsT):s.1<=(N9 gB f a s).1.1:=a9k (λ_ s=>hf _ s) _ s
theorem b1v{gB:Nat->Int}{qa qb qc qd:Nat}{sub:Nat->Q4->LsT->LsT×Bool}(hs:∀ a Q s,s.1<=(sub a Q s).1.1)(a:Nat)(Q:Q4):b0U (qRo gB qa qb qc qd sub a Q):=λt s=>by
 unfold qRo;split
 ·exact hs _ _ _
 ·exact Nat.le_refl _
theorem a9i{gB:Nat->Int}{qa qb qc qd:Nat}{f:Nat->LsT->LsT×Bool}{sub:Nat->Q4->LsT->LsT×Bool}(hs:∀ a Q s,s.1<=(sub a Q s).1.1)(a:Nat)(Q:Q4)(s:LsT):(N9 gB f a s).1.1<=(qSt gB qa qb qc qd f sub a Q s).1.1:=by
 unfold qSt;split
 ·exact a9k (b1v hs a Q) _ _
 ·exact Nat.le_refl _
theorem b3N{gB:Nat->Int}{qa qb qc qd:Nat}{f:Nat->LsT->LsT×Bool}(hf:b0U f):∀(d a:Nat)(Q:Q4)(s:LsT),s.1<=(qS gB qa qb qc qd f d a Q s).1.1
 | 0,a,Q,s=>Nat.le_trans (a8s hf a s) (a9i (λ_ _ _=>Nat.le_refl _) a Q s)
 | d+1,a,Q,s=>Nat.le_trans (a8s hf a s) (a9i (b3N hf d) a Q s)
theorem a5Y{lim:Int}{g:Nat->Nat}{n qa qb qc qd i x B:Nat}{s:LsT}{f0:Nat->LsT->LsT×Bool}(hm:mtF g n qa qb qc qd x=true)(es:flN f0 (i+1) s=f0 i (flN f0 i s).1)(hf:∀ s,f0 i s=stG (fSR lim) g n qa qb qc qd x s)(hb:(flN f0 (i+1) s).1.1<=B):(flN f0 i s).1.1+1<=B:=by
 rw[es,hf,a0C hm]at hb;exact hb
open Int (toNat)
open Go.IntKind (wrap)
noncomputable section
def hpZ(S:a9)(n im:Nat)(g:Nat->Nat)(gB:Nat->Int)(lim:Int)(s:LsT):A1:=[(0,⟨false,150,S,0⟩),(1,⟨false,100, .flts .f64 (2*n) g,0⟩),(2,⟨false,5, .ints .u8 (1*im) gB,0⟩),(3,⟨true,50, .cells [.slcc 6 (s).1],0⟩),(4,⟨false,2,a1c lim,0⟩),(5,⟨false,0, .cells [],0⟩),(6,⟨true,2, .ints .i64 (s).1 (s).2,1⟩)]
def c8v(S:a9)(n im l c:Nat)(g:Nat->Nat)(gB:Nat->Int)(lim:Int)(ml:Nat)(uu:Nat->Int)(qa qb qc qd ad:Nat)(hh:Int):Fam:=⟨Nat,λj =>
 ⟨131,[(0, .slc 2 0 l c),(1, .int .i64 ((ad+34+(rBw gB ad).toNat*j:Nat):Int)),(2, .ptr 0 0),(5, .fn (.func 69) [] [.ptr 3 0, .ptr 4 0]),(9, .ptr 7 0),(14, .int .i64 (G3 gB ad:Nat)),(15, .int .u8 (rBw gB ad)),(16, .int .i64 j)],hpZ S n im g gB lim ((flN (λj s=>stG (fSR lim) g n qa qb qc qd (rIt gB ad j) s) j (ml,uu)).1)++[(7,⟨true,102, .cells (qC qa qb qc qd),0⟩)],8⟩,λj=>j<=G3 gB ad/\(rbx gB ad qa qb qc qd=true/\hh=0)/\(flN (λj s=>stG (fSR lim) g n qa qb qc qd (rIt gB ad j) s) j (ml,uu)).2=true,λj=>G3 gB ad-j⟩
def c6T(S:a9)(n im l c:Nat)(g:Nat->Nat)(gB:Nat->Int)(lim:Int)(ml:Nat)(uu:Nat->Int)(qa qb qc qd ad:Nat)(hh:Int):Fam:=⟨Nat,λj =>
 ⟨131,[(0, .slc 2 0 l c),(1, .int .i64 ((ad+33+4*j:Nat):Int)),(2, .ptr 0 0),(4, .int .i64 hh),(5, .fn (.func 69) [] [.ptr 3 0, .ptr 4 0]),(9, .ptr 7 0),(14, .int .i64 (G3 gB ad:Nat)),(20, .int .i64 j)],hpZ S n im g gB lim ((flN (λj s=>rS gB qa qb qc qd (stG (fSR lim) g n qa qb qc qd) (hh.toNat-1) (rKd gB ad j) s) j (ml,uu)).1)++[(7,⟨true,102, .cells (qC qa qb qc qd),0⟩)],8⟩,λj=>j<=G3 gB ad/\(rbx gB ad qa qb qc qd=true/\0<hh)/\(flN (λj s=>rS gB qa qb qc qd (stG (fSR lim) g n qa qb qc qd) (hh.toNat-1) (rKd gB ad j) s) j (ml,uu)).2=true,λj=>G3 gB ad-j⟩
def c7d(S:a9)(n im l c:Nat)(g:Nat->Nat)(gB:Nat->Int)(lim:Int)(ml:Nat)(uu:Nat->Int)(qa qb qc qd ad:Nat)(hh:Int):Fam:=⟨Nat,λ_ =>
 ⟨131,[(0, .slc 2 0 l c),(1, .int .i64 ((ad+32:Nat):Int)),(2, .ptr 0 0),(4, .int .i64 hh),(5, .fn (.func 69) [] [.ptr 3 0, .ptr 4 0]),(9, .ptr 7 0),(13, .ptr 8 0)],hpZ S n im g gB lim ((ml,uu))++[(7,⟨true,102, .cells (qC qa qb qc qd),0⟩)]++[(8,⟨true,102, .cells (qC (f8 gB ad) (f8 gB (ad+8)) (f8 gB (ad+8+8)) (f8 gB (ad+8+8+8))),0⟩)],9⟩,λ_=>True,λ_=>0⟩
def b0f(K:Nat):List SV->RdM
 | [.slc d 0 l c, .int .i64 ad, .ptr s 0, .agg [.flt .f64 qa, .flt .f64 qb, .flt .f64 qc, .flt .f64 qd], .int .i64 hh, .fn (.func 69) [] [.ptr p1 0, .ptr a1 0]]=>.read s λo0=>(match a7L o0.c with
  | some (cl,cw,cv,k,dd,im,cp,x,y,z,w,p,n)=>.read p λo1=>(match A9 .f64 o1.c with
  | some (m1,g)=>.read dd λo2=>(match y7 .u8 o2.c with
  | some (m2,gB)=>.read p1 λo3=>(match a2t o3 50 0 with
  | true=>(match slU o3.c with
  | some (r1,ml)=>.read a1 λo4=>(match bxI o4.c with
  | some lim=>.read r1 λo5=>(match a2t o5 2 1 with
  | true=>(match y7 .i64 o5.c with
  | some (m5,uu)=>.ret ⟨[.slc 2 0 l c, .int .i64 ad, .ptr 0 0, .agg [.flt .f64 qa, .flt .f64 qb, .flt .f64 qc, .flt .f64 qd], .int .i64 hh, .fn (.func 69) [] [.ptr 3 0, .ptr 4 0]],[(0,⟨false,150,U4 cl cw cv k 2 im cp x y z w 1 n,0⟩),(1,⟨false,100, .flts .f64 m1 g,0⟩),(2,⟨false,5, .ints .u8 m2 gB,0⟩),(3,⟨true,50, .cells [.slcc 5 ml],0⟩),(4,⟨false,2,a1c lim,0⟩),(5,⟨true,2, .ints .i64 m5 uu,1⟩)], .bool (rS gB qa qb qc qd (stG (fSR lim) g n qa qb qc qd) hh.toNat ad.toNat (ml,uu)).2,[(3,⟨true,50, .cells [.slcc 6 ((rS gB qa qb qc qd (stG (fSR lim) g n qa qb qc qd) hh.toNat ad.toNat (ml,uu)).1).1],0⟩),(5,⟨false,0, .cells [],0⟩)],[(6,⟨true,2, .ints .i64 ((rS gB qa qb qc qd (stG (fSR lim) g n qa qb qc qd) hh.toNat ad.toNat (ml,uu)).1).1 ((rS gB qa qb qc qd (stG (fSR lim) g n qa qb qc qd) hh.toNat ad.toNat (ml,uu)).1).2,1⟩)],some (dd=d/\m1=2*n/\m2=1*im/\m5=1*ml/\(0<=hh/\hh<(K:Int)/\hh<1000)/\(0<=ad/\l=im/\l<=c)/\a2K gB im/\rOk gB im n hh.toNat ad.toNat/\n<=1000000/\SmF g (2*n)/\((rS gB qa qb qc qd (stG (fSR lim) g n qa qb qc qd) hh.toNat ad.toNat (ml,uu)).1.1<=1000000))⟩
  | none=>.fail)
  | false=>.fail)
  | none=>.fail)
  | none=>.fail)
  | false=>.fail)
  | none=>.fail)
  | none=>.fail)
  | none=>.fail)
 | _=>.fail
def c3r(H:Nat):Ctx:=⟨⟨tys,[]⟩,[(186,B3 b7I),(109,z4 a0f),(175,z4 a6X),(182,B3 b9l),(112,B3 a9z),(113,z4 a2P),(69,B3 b5P),(176,B3 a7V),(181,B3 (b0f H))]⟩
theorem c7h(H:Nat)(ih:C4 prog 181 (B3 (b0f H))):B7 prog (c3r H):=⟨⟨E1,FlatsOk.nil⟩,j9.cons c8n (j9.cons (.pure a5E) (j9.cons (.pure b6V) (j9.cons rdN (j9.cons c1d (j9.cons (.pure b0h) (j9.cons apZ (j9.cons b8F (j9.cons ih j9.nil)))))))),by kernel_rfl⟩
theorem c1U(H:Nat)(cl cw cv:Bool)(k:Int)(dd:Nm)(im cp:Nat)(x y z w:Nat)(_:Nm)(n:Nat)(l c:Nat)(ad hh:Int)(qa qb qc qd:Nat)(_:Nm)(ml:Nat)(lim:Int)(g:Nat->Nat)(gB:Nat->Int)(uu:Nat->Int){w9:HC}(e9:w9=⟨[.slc 2 0 l c, .int .i64 ad, .ptr 0 0, .agg [.flt .f64 qa, .flt .f64 qb, .flt .f64 qc, .flt .f64 qd], .int .i64 hh, .fn (.func 69) [] [.ptr 3 0, .ptr 4 0]],[(0,⟨false,150,U4 cl cw cv k 2 im cp x y z w 1 n,0⟩),(1,⟨false,100,
 .flts .f64 (2*n) g,0⟩),(2,⟨false,5, .ints .u8 (1*im) gB,0⟩),(3,⟨true,50, .cells [.slcc 5 ml],0⟩),(4,⟨false,2,a1c lim,0⟩),(5,⟨true,2, .ints .i64 (1*ml) uu,1⟩)], .bool (rS gB qa qb qc qd (stG (fSR lim) g n qa qb qc qd)
 hh.toNat ad.toNat (ml,uu)).2,[(3,⟨true,50, .cells [.slcc 6 ((rS gB qa qb qc qd (stG (fSR lim) g n qa qb qc qd) hh.toNat ad.toNat (ml,uu)).1).1],0⟩),(5,⟨false,0, .cells [],0⟩)],[(6,⟨true,2, .ints .i64 ((rS gB qa qb qc qd (stG (fSR lim) g
 n qa qb qc qd) hh.toNat ad.toNat (ml,uu)).1).1 ((rS gB qa qb qc qd (stG (fSR lim) g n qa qb qc qd) hh.toNat ad.toNat (ml,uu)).1).2,1⟩)],some (dd=dd/\2*n=2*n/\1*im=1*im/\1*ml=1*ml/\(0<=hh/\hh<((H+1):Int)/\hh <
 1000)/\(0<=ad/\l=im/\l<=c)/\a2K gB im/\rOk gB im n hh.toNat ad.toNat/\n<=1000000/\SmF g (2*n)/\((rS gB qa qb qc qd (stG (fSR lim) g n qa qb qc qd) hh.toNat ad.toNat (ml,uu)).1.1<=1000000))⟩){T1}(t1:T1=λ(i:Nat)=>(leN gB (if c =
 toNat (↑(toNat ad+34+toNat (rBw gB (toNat ad))*i):Int)then 0 else 0+toNat (↑(toNat ad+34+toNat (rBw gB (toNat ad))*i):Int)*1) (toNat (rBw gB (toNat ad))))){T2}(t2:T2=(λ(j:Nat) (s :
 LsT)=>rS gB qa qb qc qd (stG (fSR lim) g n qa qb qc qd) (toNat hh-1) (rKd gB (toNat ad) j) s)){T3}(t3:T3=(λ(j:Nat) (s:LsT)=>stG (fSR lim) g n qa qb qc qd (rIt gB (toNat ad) j) s)){T4}(t4:T4=(rS gB qa qb qc qd (stG (fSR
 lim) g n qa qb qc qd) (toNat hh) (toNat ad) (ml,uu))){T5}(t5:T5=λ(i:Nat)=>(rS gB qa qb qc qd (stG (fSR lim) g n qa qb qc qd) (toNat (wrap .i64 (hh-(1:Int)))) (toNat (wrap .i64 (leN gB (if c=toNat
 (↑(toNat ad+33+4*i):Int)then 0 else 0+toNat (↑(toNat ad+33+4*i):Int)*1) 4))) (((flN T2 i (ml,uu)).1).1,((flN T2 i (ml,uu)).1).2))){T6}(t6:T6=(wrap .i64 (ad+(8:Int))+(8:Int))){T7}(t7:T7=fun
 (i:Nat)=>(if c=toNat (↑(toNat ad+33+4*i):Int)then 0 else 0+toNat (↑(toNat ad+33+4*i):Int)*1)){T8}(t8:T8=(cl=cl/\cw=cw/\cv=cv/\k=k/\(True/\0=0/\im=im/\cp=cp)/\x=x/\y=y/\z=z/\w=w
 /\(True/\n=n)/\True)){T9}(t9:T9=(toNat ad)){T10}(t10:T10=λ(i:Nat)=>((flN T3 i (ml,uu)).1)){T11}(t11:T11=λ(i:Nat)=>(!fGt .f64 (I2 (g (2*toNat (wrap .i64 (T1 i))+1)) (g (2*nx n (toNat (wrap .i64 (T1
 i)))+1))) qd && !fLt .f64 (H8 (g (2*toNat (wrap .i64 (T1 i))+1)) (g (2*nx n (toNat (wrap .i64 (T1 i)))+1))) qb && !fGt .f64 (I2 (g (2*toNat (wrap .i64 (T1 i)))) (g (2*nx n (toNat
 (wrap .i64 (T1 i)))))) qc && !fLt .f64 (H8 (g (2*toNat (wrap .i64 (T1 i)))) (g (2*nx n (toNat (wrap .i64 (T1 i)))))) qa)){T12}(t12:T12=λ(i:Nat) (i':Nat)=>((True/\0=0/\l=l/\c=c)/\wrap .i64
 ((↑(toNat ad+34+toNat (rBw gB T9)*i):Int)+wrap .i64 (rBw gB T9))=(↑(toNat ad+34+toNat (rBw gB T9)*i'):Int)/\(True/\0=0)/\(Go.Fn.func 69=Go.Fn.func 69/\True/\(True/\0=0)/\(True/\0=0)/\True)
 /\(True/\0=0)/\(↑(G3 gB T9):Int)=(↑(G3 gB T9):Int)/\rBw gB T9=rBw gB T9/\wrap .i64 ((↑i:Int)+1)=(↑i':Int)/\True)){T13}(t13:T13=(if c=toNat (wrap .i64 (wrap .i64 T6+(8:Int)))then 0 else 0
 + toNat (wrap .i64 (wrap .i64 T6+(8:Int)))*1)){T14}(t14:T14=(102=102/\0=0/\qa=qa/\qb=qb/\qc=qc/\qd=qd/\True)){T15}(t15:T15=(if c=toNat (wrap .i64 (ad+(8:Int)))then 0 else 0+toNat
 (wrap .i64 (ad+(8:Int)))*1)){T16}(t16:T16=λ(i:Nat)=>(↑(toNat ad+34+toNat (rBw gB T9)*i):Int)){T17}(t17:T17=(↑(toNat ad+32):Int)){T18}(t18:T18=(if c=toNat (wrap .i64 T6)then 0 else 0 +
 toNat (wrap .i64 T6)*1)){T19}(t19:T19=(Go.Fn.func 69=Go.Fn.func 69/\True/\(True/\0=0)/\(True/\0=0)/\True)){T20}(t20:T20=λ(i:Nat)=>(1*im<=1*im/\∀ (i:Nat),i<1*im->gB i=gB i)){T21}(t21:T21=λ(i:Nat)=>(2
 * n<=2*n/\∀ (i:Nat),i<2*n->g i=g i)){T22}(t22:T22=λ(i:Nat)=>(flN T2 i (ml,uu))){T23}(t23:T23=(!(!fGt .f64 qb (f8 gB (toNat ad+8+8+8)) && !fLt .f64 qd (f8 gB (toNat ad+8)) && !fGt .f64 qa (f8 gB (toNat ad+8 +
 8)) && !fLt .f64 qc (f8 gB T9)))){T24}(t24:T24=(if c=toNat ad then 0 else 0+toNat ad*1)){T25}(t25:T25=(↑(G3 gB T9):Int)){T26}(t26:T26=(rbx gB T9 qa qb qc qd=true/\hh=(0:Int))){T27}(t27:T27=(toNat (wrap .i64
 (hh-(1:Int))))){T28}(t28:T28=λ(i:Nat)=>(toNat (wrap .i64 (leN gB (T7 i) 4)))){T29}(t29:T29=λ(i:Nat)=>(↑(toNat ad+33+4*i):Int)){T30}(t30:T30=λ(i:Nat)=>((T10 i).1,(T10 i).2)){T31}(t31:T31=(True/\0=0))
 {T32}(t32:T32=(True/\0=0/\l=l/\c=c)) {T33}(t33:T33=λ(i':Nat)=>(flN T3 i' (ml,uu))) {T34}(t34:T34=(wrap .i64 T6+(8:Int))) {T35}(t35:T35=(rbx gB T9 qa qb qc qd=true/\(0:Int)<hh)) {T36}(t36:T36=(lim=lim/\True))
 {T37}(t37:T37=(True/\c<=c)) {T38}(t38:T38=(True/\l<=l)) {T39}(t39:T39=(stG (fSR lim) g n qa qb qc qd)) {T40}(t40:T40=λ(i:Nat)=>(if c=toNat (T16 i)then 0 else 0+toNat (T16 i)*1)):J3 (c3r H) 6 [(18,c8v (U4 cl cw cv k 2 im cp x y z w 1 n) n im l c g gB lim ml uu qa qb qc qd ad.toNat hh),(29,c6T (U4 cl cw cv k 2 im cp x y z w 1 n) n im l c g gB lim ml uu qa qb qc qd ad.toNat hh)] [(10,c7d (U4 cl cw cv k 2 im cp x y z w 1 n) n im l c g gB lim ml uu qa qb qc qd ad.toNat hh)] (p9 f181) (A6 f181.ntmps w9.args w9.heap 6) (A8 ((c3r H)).E.T f181.results.toList λS v=>D5 6 w9 S v)=(
 (T37/\T38/\(0:Int)<=ad/\toNat ad<=l)/\(8<=l-toNat ad/\T24+8<=1*im/\∀(j:Nat),j<8->(0:Int)<=gB (T24+j)/\gB (T24+j)<(256:Int))/\true=true/\(T37/\T38/\(0:Int)<=wrap .i64 (ad+(8:Int))/\
 toNat (wrap .i64 (ad+(8:Int)))<=l)/\(8<=l-toNat (wrap .i64 (ad+(8:Int)))/\T15+8<=1*im/\∀(j:Nat),j<8->(0:Int)<=gB (T15+j)/\gB (T15+j)<(256:Int))/\true=true/\(T37/\T38/\(0:Int)<=
 wrap .i64 T6/\toNat (wrap .i64 T6)<=l)/\(8<=l-toNat (wrap .i64 T6)/\T18+8<=1*im/\∀(j:Nat),j<8->(0:Int)<=gB (T18+j)/\gB (T18+j)<(256:Int))/\true=true/\(T37/\T38/\(0:Int)<=
 wrap .i64 T34/\toNat (wrap .i64 T34)<=l)/\(8<=l-toNat (wrap .i64 T34)/\T13+8<=1*im/\∀(j:Nat),j<8->(0:Int)<=gB (T13+j)/\gB (T13+j)<(256:Int))/\true=true/\(∃(_:Nat),True/\(T32/\
 wrap .i64 (wrap .i64 T34+(8:Int))=T17/\T31/\hh=hh/\T19/\T31/\T31/\True)/\True/\T8/\True/\(2*n<=2*n/\∀(i:Nat),i<2*n->g i=g i)/\True/\(1*im<=1*im/\∀(i:Nat),i<1*im->gB i=gB i)/\True
 /\(50=50/\0=0/\(True/\ml=ml)/\True)/\True/\T36/\True/\(0<=1*ml/\∀(i:Nat),i<0->False)/\True/\(2=2/\1=1/\ml<=1*ml/\∀(i:Nat),i<ml->uu i=uu i)/\True/\T14/\True/\(102=102/\0=0/\toNat (leN gB T24
 8)=f8 gB T9/\toNat (leN gB T15 8)=f8 gB (toNat ad+8)/\toNat (leN gB T18 8)=f8 gB (toNat ad+8+8)/\toNat (leN gB T13 8)=f8 gB (toNat ad+8+8+8)/\True)/\True)/\∀(_:Nat),True->(T23=true->Prod.snd
 T4=true/\True/\(50=50/\0=0/\(True/\ml=(Prod.fst T4).1)/\True)/\True/\True/\True/\(2=2/\1=1/\(Prod.fst T4).1<=ml/\∀(i:Nat),i<(T4.1).1->uu i=(T4.1).2 i)/\True)/\(T23=false->((0<=T17/\T17<(↑l:Int))/\1<=1 *
 im)/\0+toNat T17*1+1<=1*im/\((hh==(0:Int))=true->(((0:Int)<=wrap .i64 (T17+1)/\wrap .i64 (T17+1)<(↑l:Int))/\1<=1*im)/\0+toNat (wrap .i64 (T17+1))*1+1<=1*im/\(∃(i:Nat),
 (i<=G3 gB T9/\T26/\(flN T3 i (ml,uu)).2=true)/\(T32/\wrap .i64 (wrap .i64 (T17+1)+(1:Int))=(T16 i)/\T31/\T19/\T31/\wrap .i64 (gB (0+toNat T17*1))=T25/\gB (0+toNat (wrap .i64 (T17
 + 1))*1)=rBw gB T9/\0=(↑i:Int)/\True)/\True/\T8/\True/\(T21 i)/\True/\(T20 i)/\True/\(50=50/\0=0/\(True/\ml=(T10 i).1)/\True)/\True/\T36/\True/\True/\True/\(2=2/\1=1/\(T10 i).1<=ml/\∀(i_1:Nat),i_1<(T10
 i).1->uu i_1=(T10 i).2 i_1)/\True/\T14/\True)/\∀(i:Nat),i<=G3 gB T9/\T26/\(flN T3 i (ml,uu)).2=true->(decide ((↑i:Int)<T25)=true->(T37/\T38/\0<=(T16 i)/\toNat (T16 i)<=l)/\(b4H gB (T40 i) (rBw gB T9)/\toNat
 (rBw gB T9)<=l-toNat (T16 i)/\(T40 i)+toNat (rBw gB T9)<=1*im)/\(2*n=2*n/\1*im=1*im/\(0:Int)<=wrap .i64 (T1 i)/\wrap .i64 (T1 i)<(↑n:Int)/\n<=1000000)/\((T11 i)=true->((T10 i).1=1*(T10
 i).1/\(0:Int)<=wrap .i64 (T1 i)/\(T30 i).1+1<=1000000)/\((!decide ((↑((T30 i).1):Int)+1<lim))=true->T4.2=false/\True/\(50=50/\0=0/\(True/\Prod.fst ((T10 i).1,(Prod.fst (flN T3 i (ml,uu))).2)+1=(T4.1).1)/\
 True)/\True/\True/\True/\(2=2/\1=1/\(T4.1).1<=(T30 i).1+1/\∀(i_1:Nat),i_1<(T4.1).1->z7 ((T30 i).1) ((Prod.fst (T10 i),(T10 i).2).2) [(↑(toNat (wrap .i64 (T1 i))):Int)] (0:Int) i_1=(T4.1).2 i_1)/\True)/\
 ((!decide ((↑((T30 i).1):Int)+1<lim))=false->∃(i':Nat),(i'<=G3 gB T9/\T26/\(T33 i').2=true)/\G3 gB T9-i'<G3 gB T9-i/\(T12 i i')/\True/\T8/\True/\(T21 i)/\True/\(T20 i)/\True/\(50=50/\0=0/\(True/\(T30
 i).1+1=((T33 i').1).1)/\True)/\True/\T36/\True/\True/\True/\(2=2/\1=1/\(Prod.fst (T33 i')).1<=(T30 i).1+1/\∀(i_1:Nat),i_1<((T33 i').1).1->z7 ((T30 i).1) ((T30 i).2) [(↑(toNat (wrap .i64 (T1 i))):Int)] (0 :
 Int) i_1=(Prod.fst (T33 i')).2 i_1)/\True/\T14/\True))/\((T11 i)=false->∃(i':Nat),(i'<=G3 gB T9/\T26/\(T33 i').2=true)/\G3 gB T9-i'<G3 gB T9-i/\(T12 i i')/\True/\T8/\True/\(T21 i)/\True/\(T20 i)/\True/\(50=50
 /\0=0/\(True/\(T10 i).1=((T33 i').1).1)/\True)/\True/\T36/\True/\True/\True/\(2=2/\1=1/\((T33 i').1).1<=(T10 i).1/\∀(i_1:Nat),i_1<((T33 i').1).1->(T10 i).2 i_1=(Prod.fst (T33 i')).2 i_1)/\True/\T14/\True))/\(decide
 ((↑i:Int)<T25)=false->T4.2=true/\True/\(50=50/\0=0/\(True/\(T10 i).1=(T4.1).1)/\True)/\True/\True/\True/\(2=2/\1=1/\(T4.1).1<=(T10 i).1/\∀(i_1:Nat),i_1<(T4.1).1->(T10 i).2 i_1=(T4.1).2 i_1)/\True))/\((hh ==
 (0:Int))=false->(∃(i:Nat),(i<=G3 gB T9/\T35/\(T22 i).2=true)/\(T32/\wrap .i64 (T17+1)=(T29 i)/\T31/\hh=hh/\T19/\T31/\wrap .i64 (gB (0+toNat T17*1))=T25/\0=(↑i:Int)/\True)/\True/\T8/\True
 /\(T21 i)/\True/\(T20 i)/\True/\(50=50/\0=0/\(True/\ml=((T22 i).1).1)/\True)/\True/\T36/\True/\True/\True/\(2=2/\1=1/\((T22 i).1).1<=ml/\∀(i_1:Nat),i_1<((T22 i).1).1->uu i_1=((T22 i).1).2 i_1)/\True/\T14/\True)
 /\∀(i:Nat),i<=G3 gB T9/\T35/\(T22 i).2=true->(decide ((↑i:Int)<T25)=true->(T37/\T38/\(0:Int)<=(T29 i)/\toNat (T29 i)<=l)/\(4<=l-toNat (T29 i)/\(T7 i)+4<=1*im/\∀(j:Nat),j<4->(0:Int)<=gB ((T7 i) +
 j)/\gB ((T7 i)+j)<(256:Int))/\true=true/\(2=2/\2*n=2*n/\1*im=1*im/\(Prod.fst (T22 i)).1=1*((T22 i).1).1/\((0:Int)<=wrap .i64 (hh-(1:Int))/\wrap .i64 (hh-(1:Int))<(↑H:Int)/\wrap
 .i64 (hh-(1:Int))<(1000:Int))/\((0:Int)<=wrap .i64 (leN gB (T7 i) 4)/\l=im/\l<=c)/\a2K gB im/\rOk gB im n T27 (T28 i)/\n<=1000000/\SmF g (2*n)/\((T5 i).1).1<=1000000)/\((!(T5 i).2)=true->Prod.snd T4=false/\
 True/\(50=50/\0=0/\(True/\(Prod.fst (T5 i)).1=(Prod.fst T4).1)/\True)/\True/\True/\True/\(2=2/\1=1/\(Prod.fst T4).1<=((T5 i).1).1/\∀(i_1:Nat),i_1<(T4.1).1->((T5 i).1).2 i_1=(T4.1).2 i_1)/\True)/\((!(rS gB qa qb qc qd
 T39 T27 (T28 i) ((Prod.fst (T22 i)).1,((T22 i).1).2)).2)=false->∃(i':Nat),(i'<=G3 gB T9/\T35/\(flN T2 i' (ml,uu)).2=true)/\G3 gB T9-i'<G3 gB T9-i/\(T32/\wrap .i64 ((T29 i)+4)=(↑(toNat ad+33+4*i') :
 Int)/\T31/\hh=hh/\T19/\T31/\T25=T25/\wrap .i64 ((↑i:Int)+1)=(↑i':Int)/\True)/\True/\T8/\True/\(T21 i)/\True/\(T20 i)/\True/\(50=50/\0=0/\(True/\((T5 i).1).1=((flN T2 i' (ml,uu)).1).1)/\True)/\True/\T36
 /\True/\True/\True/\(2=2/\1=1/\(Prod.fst (flN T2 i' (ml,uu))).1<=((rS gB qa qb qc qd T39 T27 (T28 i) (((T22 i).1).1,(Prod.fst (T22 i)).2)).1).1/\∀(i_1:Nat),i_1<((flN T2 i' (ml,uu)).1).1->((rS gB qa qb qc qd T39 T27 (T28 i)
 (Prod.fst ((T22 i).1),((T22 i).1).2)).1).2 i_1=((flN T2 i' (ml,uu)).1).2 i_1)/\True/\T14/\True))/\(decide ((↑i:Int)<T25)=false->T4.2=true/\True/\(50=50/\0=0/\(True/\((T22 i).1).1=(T4.1).1)/\True)/\True/\True/\True/\(2
 = 2/\1=1/\(T4.1).1<=Prod.fst ((T22 i).1)/\∀(i_1:Nat),i_1<(T4.1).1->((T22 i).1).2 i_1=(Prod.fst T4).2 i_1)/\True)))):=by subst e9 t1 t2 t3 t4 t5 t6 t7 t8 t9 t10 t11 t12 t13 t14 t15 t16 t17 t18 t19 t20 t21 t22 t23 t24 t25 t26 t27 t28 t29 t30 t31 t32 t33 t34 t35 t36 t37 t38 t39 t40;kernel_rfl
theorem rnZ(H:Nat)(ih:C4 prog 181 (B3 (b0f H))):C4 prog 181 (B3 (b0f (H+1))):=by
 refine A5 ((c7h H ih)) func181 rfl (by kernel_rfl) λargs=>?_
 unfold b0f;split;rotate_left;trivial;rename_i d l c ad s qa qb qc qd hh p1 a1;intro o0;try dsimp only
 split;rotate_left;trivial;rename_i cl cw cv k dd im cp x y z w p n hm0;intro o1;try dsimp only
 split;rotate_left;trivial;rename_i m1 g hm1;intro o2;try dsimp only
 split;rotate_left;trivial;rename_i m2 gB hm2;intro o3;try dsimp only
 split;rotate_left;trivial;rename_i hrw3;try dsimp only
 split;rotate_left;trivial;rename_i r1 ml hm3;intro o4;try dsimp only
 split;rotate_left;trivial;rename_i lim hm4;intro o5;try dsimp only
 split;rotate_left;trivial;rename_i hrw5;try dsimp only
 split;rotate_left;trivial;rename_i m5 uu hm5;intro(ho:dd=d/\m1=2*n/\m2=1*im/\m5=1*ml/\(0<=hh/\hh<((H+1):Int)/\hh<1000)/\(0<=ad/\l=im/\l<=c)/\a2K gB im/\rOk gB im n hh.toNat ad.toNat/\n<=1000000/\SmF g (2*n)/\((rS gB qa qb qc qd (stG (fSR lim) g n qa qb qc qd) hh.toNat ad.toNat (ml,uu)).1.1<=1000000));obtain⟨heq0,hsz1,hsz2,hsz5,ho⟩:=ho;subst heq0 hsz1;subst hsz2 hsz5
 refine⟨?_,_,_,(c1U H cl cw cv k dd im cp x y z w p n l c ad hh qa qb qc qd r1 ml lim g gB uu rfl rfl rfl rfl rfl rfl rfl rfl rfl rfl rfl rfl rfl rfl rfl rfl rfl rfl rfl rfl rfl rfl rfl rfl rfl rfl rfl rfl rfl rfl rfl rfl rfl rfl rfl rfl rfl rfl rfl rfl rfl).mpr ?_⟩
 ·refine j8 rfl ⟨?_,⟨trivial,a0x hm0 g9 g9,⟨trivial,(C6 hm1).1,⟨trivial,(y6 hm2).1,⟨trivial,Q6 hrw3 (a1k hm3 g9),⟨trivial,a1i hm4,⟨trivial,Q6 hrw5 ((y6 hm5).1),trivial⟩⟩⟩⟩⟩⟩⟩;simp[q9,z5,A0,C0,z8,z3,nth,g9]
 ·obtain⟨⟨hh0,hhK,hh9⟩,⟨ha0,hlm,hlc⟩,⟨hm2,hby⟩,hok,hn,hg,hob⟩:=ho;obtain⟨A,rfl⟩:∃ A:Nat,ad=A:=⟨ad.toNat,by omega⟩;obtain⟨t,rfl⟩:∃ t:Nat,hh=t:=⟨hh.toNat,by omega⟩;subst hlm;simp only[tN9]at hok hob
  have hA:A+33<=l:=by
   cases t with
   | zero=>have:=hok.2.1;omega
   | succ t=>have:=hok.1;omega
  have hc:∀ z:Nat,z<l->¬c=z:=λz hz e=>by omega
  have w8:∀ z:Nat,z<=2000100->IntKind.i64.wrap ((z:Int)+8)=((z+8:Nat):Int):=λz hz=>by rw[j5 (by omega) (by omega)];rfl
  have w1:∀ z:Nat,z<=2000100->IntKind.i64.wrap ((z:Int)+1)=((z+1:Nat):Int):=λz hz=>by rw[j5 (by omega) (by omega)];rfl
  rw[w8 A (by omega),w8 (A+8) (by omega),w8 (A+8+8) (by omega),w8 (A+8+8+8) (by omega)];simp only[true_and,and_true,eq_self,tN9,Nat.mul_one,decide_eq_true_eq,decide_eq_false_iff_not,true_implies,implies_true];rw[if_neg (hc A (by omega)),if_neg (hc (A+8) (by omega)),if_neg (hc (A+8+8) (by omega)),if_neg (hc (A+8+8+8) (by omega))];simp only[Nat.zero_add];have hb8:∀ z:Nat,z+8<=l->∀ j,j<8->0<=gB (z+j)/\gB (z+j)<256:=λz hz j hj=>hby _ (by omega)
  refine⟨⟨by omega,by omega⟩,⟨by omega,by omega,hb8 _ (by omega)⟩,⟨by omega,by omega⟩,⟨by omega,by omega,hb8 _ (by omega)⟩,⟨by omega,by omega⟩,⟨by omega,by omega,hb8 _ (by omega)⟩,⟨by omega,by omega⟩,⟨by omega,by omega,hb8 _ (by omega)⟩,?_,?_⟩
  ·exact⟨0,by omega,by omega,(by and_intros <;> first|exact rfl|exact Nat.le_refl _|exact Nat.le_of_eq (Nat.one_mul _).symm|exact λ_ _=>rfl|exact Nat.zero_le _|exact λ_ h=>absurd h (Nat.not_lt_zero _))⟩
  intro _;have eb:(!fGt .f64 qb (f8 gB (A+8+8+8)) && !fLt .f64 qd (f8 gB (A+8)) && !fGt .f64 qa (f8 gB (A+8+8)) && !fLt .f64 qc (f8 gB A))=rbx gB A qa qb qc qd:=rfl;rw[eb];have hcnt:=hby (A+32) (by omega);have hcB:G3 gB A<=255:=by unfold G3;omega
  have ecnt:IntKind.i64.wrap (gB (A+32))=((G3 gB A:Nat):Int):=by
   rw[j5 (by omega) (by omega)];unfold G3;omega
  rw[w1 (A+32) (by omega),w1 (A+32+1) (by omega),ecnt];simp only[tN9];refine⟨λhr=>?_,λhr=>?_⟩
  ·have hr:rbx gB A qa qb qc qd=false:=by simpa using hr
   have e:rS gB qa qb qc qd (stG (fSR lim) g n qa qb qc qd) t A (ml,uu)=((ml,uu),true):=by
    cases t <;> (unfold rS;rw[hr])
   rw[e];exact⟨rfl,(by and_intros <;> first|exact rfl|exact Nat.le_refl _|exact Nat.le_of_eq (Nat.one_mul _).symm|exact λ_ _=>rfl|exact Nat.zero_le _|exact λ_ h=>absurd h (Nat.not_lt_zero _))⟩
  have hr:rbx gB A qa qb qc qd=true:=by simpa using hr
  refine⟨by omega,by omega,λh0=>?_,λh0=>?_⟩
  ·have ht:t=0:=by simpa using h0
   subst ht;obtain⟨hw,hA2,hit⟩:=hok
   let f0:Nat->LsT->LsT×Bool:=λj s=>stG (fSR lim) g n qa qb qc qd (rIt gB A j) s
   have eR:rS gB qa qb qc qd (stG (fSR lim) g n qa qb qc qd) 0 A (ml,uu)=flN f0 (G3 gB A) (ml,uu):=by
    unfold rS;rw[hr]
   rw[eR];rw[eR]at hob;refine⟨by omega,by omega,⟨0,⟨Nat.zero_le _,⟨hr,rfl⟩,rfl⟩,⟨by rw[Nat.mul_zero],trivial,rfl,rfl⟩,Nat.le_refl _,Nat.le_refl _,(by and_intros <;> first|exact rfl|exact Nat.le_refl _|exact Nat.le_of_eq (Nat.one_mul _).symm|exact λ_ _=>rfl|exact Nat.zero_le _|exact λ_ h=>absurd h (Nat.not_lt_zero _))⟩,λi hi=>?_⟩;obtain⟨i1,_,i3⟩:=hi;change (flN f0 i (ml,uu)).2=true at i3;refine⟨λhlt=>?_,λhge=>?_⟩
   ·have hlt:i<G3 gB A:=by omega
    have hmul:(rBw gB A).toNat*(i+1)<=(rBw gB A).toNat*G3 gB A:=Nat.mul_le_mul_left _ hlt;rw[Nat.mul_add,Nat.mul_one]at hmul;have hw4:(rBw gB A).toNat=1∨(rBw gB A).toNat=2∨(rBw gB A).toNat=4:=by omega
    have hbw:∀ j,j<(rBw gB A).toNat->0<=gB (A+34+(rBw gB A).toNat*i+j)/\gB (A+34+(rBw gB A).toNat*i+j)<256:=λj hj=>hby _ (by omega)
    have hle:=a2J hbw
    have hp:(256:Int) ^ (rBw gB A).toNat<=4294967296:=by
     rcases hw4 with e|e|e <;> rw[e] <;> decide
    have er:IntKind.i64.wrap (leN gB (A+34+(rBw gB A).toNat*i) (rBw gB A).toNat)=((rIt gB A i:Nat):Int):=by
     rw[j5 (by omega) (by omega)];unfold rIt;omega
    have hri:=hit i hlt;rw[if_neg (hc _ (by omega)),er];simp only[tN9];have em:(!fGt .f64 (I2 (g (2*rIt gB A i+1)) (g (2*nx n (rIt gB A i)+1))) qd && !fLt .f64 (H8 (g (2*rIt gB A i+1)) (g (2*nx n (rIt gB A i)+1))) qb && !fGt .f64 (I2 (g (2*rIt gB A i)) (g (2*nx n (rIt gB A i)))) qc && !fLt .f64 (H8 (g (2*rIt gB A i)) (g (2*nx n (rIt gB A i)))) qa)=mtF g n qa qb qc qd (rIt gB A i):=rfl;rw[em];have hnx:=a5W hri;have hw64:IntKind.i64.wrap (rBw gB A)=rBw gB A:=j5 (by omega) (by omega)
    have hwA:IntKind.i64.wrap (((A+34+(rBw gB A).toNat*i:Nat):Int)+IntKind.i64.wrap (rBw gB A))=((A+34+(rBw gB A).toNat*(i+1):Nat):Int):=by
     rw[hw64,j5 (by omega) (by omega),Nat.mul_add,Nat.mul_one];omega
    have es:flN f0 (i+1) (ml,uu)=f0 i (flN f0 i (ml,uu)).1:=a6r i3;refine⟨⟨Nat.le_refl _,Nat.le_refl _,by omega,by omega⟩,⟨⟨hw,hbw⟩,by omega,by omega⟩,⟨by omega,by omega,hn⟩,λhm=>⟨⟨by omega,by omega,a5Y hm es (λ_=>rfl) (Nat.le_trans (a0h (λ_ s=>a1P lim g n qa qb qc qd _ s) _ hlt) hob)⟩,λho=>?_,λho=>?_⟩,λhm=>?_⟩
    ·have E:sgF (fSR lim) g n (rIt gB A i) (flN f0 i (ml,uu)).1=flN f0 (i+1) (ml,uu):=(a0C hm _).symm.trans es.symm
     have ho:(sgF (fSR lim) g n (rIt gB A i) (flN f0 i (ml,uu)).1).2=false:=by
      rw[Bool.not_eq_true']at ho;exact ho
     have e3:flN f0 (G3 gB A) (ml,uu)=flN f0 (i+1) (ml,uu):=a0p (by rw[<-E];exact ho) (by omega);rw[e3,<-E];exact⟨ho,(by and_intros <;> first|exact rfl|exact Nat.le_refl _|exact Nat.le_of_eq (Nat.one_mul _).symm|exact λ_ _=>rfl|exact Nat.zero_le _|exact λ_ h=>absurd h (Nat.not_lt_zero _))⟩
    ·have E:sgF (fSR lim) g n (rIt gB A i) (flN f0 i (ml,uu)).1=flN f0 (i+1) (ml,uu):=(a0C hm _).symm.trans es.symm
     have ho:(sgF (fSR lim) g n (rIt gB A i) (flN f0 i (ml,uu)).1).2=true:=by
      rw[Bool.not_eq_false']at ho;exact ho
     refine⟨i+1,⟨hlt,⟨hr,rfl⟩,by show (flN f0 (i+1) (ml,uu)).2=true;rw[<-E];exact ho⟩,by omega,⟨hwA,by rw[j5 (by omega) (by omega)];rfl⟩,Nat.le_refl _,Nat.le_refl _,congrArg (λz=>z.1.1) E,Nat.le_of_eq (congrArg (λz=>z.1.1) E).symm,λj _=>congrFun (congrArg (λz=>z.1.2) E) j⟩
    ·have E:((flN f0 i (ml,uu)).1,true)=flN f0 (i+1) (ml,uu):=(W6 hm _).symm.trans es.symm;refine⟨i+1,⟨hlt,⟨hr,rfl⟩,by show (flN f0 (i+1) (ml,uu)).2=true;rw[<-E]⟩,by omega,⟨hwA,by rw[j5 (by omega) (by omega)];rfl⟩,Nat.le_refl _,Nat.le_refl _,congrArg (λz=>z.1.1) E,Nat.le_of_eq (congrArg (λz=>z.1.1) E).symm,λj _=>congrFun (congrArg (λz=>z.1.2) E) j⟩
   ·have e:i=G3 gB A:=by omega
    subst e;exact⟨i3,(by and_intros <;> first|exact rfl|exact Nat.le_refl _|exact Nat.le_of_eq (Nat.one_mul _).symm|exact λ_ _=>rfl|exact Nat.zero_le _|exact λ_ h=>absurd h (Nat.not_lt_zero _))⟩
  ·have ht:0<t:=by
    rcases Nat.eq_zero_or_pos t with e|e
    ·subst e;simp at h0
    ·exact e
   obtain⟨u,rfl⟩:∃ u,t=u+1:=⟨t-1,by omega⟩;obtain⟨hA2,hkd⟩:=hok
   let f0:Nat->LsT->LsT×Bool:=λj s=>rS gB qa qb qc qd (stG (fSR lim) g n qa qb qc qd) u (rKd gB A j) s
   have eR:rS gB qa qb qc qd (stG (fSR lim) g n qa qb qc qd) (u+1) A (ml,uu)=flN f0 (G3 gB A) (ml,uu):=by
    rw[rS,hr]
   rw[eR];rw[eR]at hob
   have hu:IntKind.i64.wrap (((u+1:Nat):Int)-1)=((u:Nat):Int):=by
    rw[j5 (by omega) (by omega)];omega
   rw[hu];refine⟨⟨0,⟨Nat.zero_le _,⟨hr,by omega⟩,rfl⟩,⟨by rw[Nat.mul_zero],trivial,rfl⟩,Nat.le_refl _,Nat.le_refl _,(by and_intros <;> first|exact rfl|exact Nat.le_refl _|exact Nat.le_of_eq (Nat.one_mul _).symm|exact λ_ _=>rfl|exact Nat.zero_le _|exact λ_ h=>absurd h (Nat.not_lt_zero _))⟩,λi hi=>?_⟩;obtain⟨i1,_,i3⟩:=hi;change (flN f0 i (ml,uu)).2=true at i3;refine⟨λhlt=>?_,λhge=>?_⟩
   ·have hlt:i<G3 gB A:=by omega
    have hbw:∀ j,j<4->0<=gB (A+33+4*i+j)/\gB (A+33+4*i+j)<256:=λj hj=>hby _ (by omega)
    have hle:=a2J hbw;have hp:(256:Int) ^ 4=4294967296:=by decide
    have er:IntKind.i64.wrap (leN gB (A+33+4*i) 4)=((rKd gB A i:Nat):Int):=by
     rw[j5 (by omega) (by omega)];unfold rKd;omega
    rw[if_neg (hc _ (by omega)),er];simp only[tN9];have E:f0 i (flN f0 i (ml,uu)).1=flN f0 (i+1) (ml,uu):=(a6r i3).symm
    have hwA:IntKind.i64.wrap (((A+33+4*i:Nat):Int)+4)=((A+33+4*(i+1):Nat):Int):=by
     rw[j5 (by omega) (by omega)];omega
    refine⟨⟨Nat.le_refl _,Nat.le_refl _,by omega,by omega⟩,⟨by omega,by omega,hbw⟩,⟨by omega,⟨by omega,by omega,by omega⟩,⟨by omega,hlc⟩,⟨hm2,hby⟩,hkd i hlt,hn,hg,(show (f0 i (flN f0 i (ml,uu)).1).1.1<=1000000 from E▸Nat.le_trans (a0h (λ_ s=>b4f (a1P lim g n qa qb qc qd) _ _ s) _ hlt) hob)⟩,λho=>?_,λho=>?_⟩
    ·have ho:(f0 i (flN f0 i (ml,uu)).1).2=false:=by
      rw[Bool.not_eq_true']at ho;exact ho
     have e3:flN f0 (G3 gB A) (ml,uu)=flN f0 (i+1) (ml,uu):=a0p (by rw[<-E];exact ho) (by omega);rw[e3,<-E];exact⟨ho,(by and_intros <;> first|exact rfl|exact Nat.le_refl _|exact Nat.le_of_eq (Nat.one_mul _).symm|exact λ_ _=>rfl|exact Nat.zero_le _|exact λ_ h=>absurd h (Nat.not_lt_zero _))⟩
    ·have ho:(f0 i (flN f0 i (ml,uu)).1).2=true:=by
      rw[Bool.not_eq_false']at ho;exact ho
     refine⟨i+1,⟨hlt,⟨hr,by omega⟩,by show (flN f0 (i+1) (ml,uu)).2=true;rw[<-E];exact ho⟩,by omega,⟨hwA,by rw[j5 (by omega) (by omega)];rfl⟩,Nat.le_refl _,Nat.le_refl _,congrArg (λz=>z.1.1) E,Nat.le_of_eq (congrArg (λz=>z.1.1) E).symm,λj _=>congrFun (congrArg (λz=>z.1.2) E) j⟩
   ·have e:i=G3 gB A:=by omega
    subst e;exact⟨i3,(by and_intros <;> first|exact rfl|exact Nat.le_refl _|exact Nat.le_of_eq (Nat.one_mul _).symm|exact λ_ _=>rfl|exact Nat.zero_le _|exact λ_ h=>absurd h (Nat.not_lt_zero _))⟩
theorem b7K:∀ H,C4 prog 181 (B3 (b0f H))
 | 0=>by
  refine A5 g0 func181 rfl (by kernel_rfl) λargs=>?_
  unfold b0f;split;rotate_left;trivial;intro o0;try dsimp only
  split;rotate_left;trivial;intro o1;try dsimp only
  split;rotate_left;trivial;intro o2;try dsimp only
  split;rotate_left;trivial;intro o3;try dsimp only
  split;rotate_left;trivial;try dsimp only
  split;rotate_left;trivial;intro o4;try dsimp only
  split;rotate_left;trivial;intro o5;try dsimp only
  split;rotate_left;trivial;try dsimp only
  split;rotate_left;trivial;intro ho;exfalso;have h:=ho.2.2.2.2.1;omega
 | H+1=>rnZ H (b7K H)
def sbZ(gB:Nat->Int)(g:Nat->Nat)(n qa qb qc qd:Nat)(lim:Int):Nat->Nat->Q4->LsT->(LsT)×Bool
 | 0=>λ_ _ s=>(s,true)
 | d+1=>qS gB qa qb qc qd (stG (fSR lim) g n qa qb qc qd) d
def c7G(S:a9)(n im l c:Nat)(g:Nat->Nat)(gB:Nat->Int)(lim:Int)(ml:Nat)(uu:Nat->Int)(q0 q1 q2 q3 qa qb qc qd ad:Nat):Fam:=⟨Nat,λj =>
 ⟨111,[(0, .slc 2 0 l c),(1, .int .i64 ((ad+1+(qW gB ad).toNat+(qW gB ad).toNat*j:Nat):Int)),(2, .ptr 0 0),(5, .fn (.func 69) [] [.ptr 3 0, .ptr 4 0]),(9, .ptr 7 0),(10, .ptr 8 0),(13, .int .u8 (qW gB ad)),(14, .int .i64 (qCn gB ad:Nat)),(15, .int .i64 j)],hpZ S n im g gB lim ((flN (λj s=>stG (fSR lim) g n qa qb qc qd (qIt gB ad j) s) j (ml,uu)).1)++[(7,⟨true,102, .cells (qC q0 q1 q2 q3),0⟩),(8,⟨true,102, .cells (qC qa qb qc qd),0⟩)],9⟩,λj=>j<=qCn gB ad/\(flN (λj s=>stG (fSR lim) g n qa qb qc qd (qIt gB ad j) s) j (ml,uu)).2=true,λj=>qCn gB ad-j⟩
def c7Q(S:a9)(n im l c:Nat)(g:Nat->Nat)(gB:Nat->Int)(lim:Int)(ml:Nat)(uu:Nat->Int)(q0 q1 q2 q3 qa qb qc qd ad d:Nat):Fam:=⟨Nat,λj =>
 ⟨111,[(0, .slc 2 0 l c),(1, .int .i64 ((qPo gB ad j:Nat):Int)),(2, .ptr 0 0),(5, .fn (.func 69) [] [.ptr 3 0, .ptr 4 0]),(9, .ptr 7 0),(10, .ptr 8 0),(20, .int .i64 j)],hpZ S n im g gB lim ((flN (qRo gB qa qb qc qd (sbZ gB g n qa qb qc qd lim d) ad ⟨q0,q1,q2,q3⟩) j (N9 gB (stG (fSR lim) g n qa qb qc qd) ad (ml,uu)).1).1)++[(7,⟨true,102, .cells (qC q0 q1 q2 q3),0⟩),(8,⟨true,102, .cells (qC qa qb qc qd),0⟩)],9⟩,λj=>j<=4/\((N9 gB (stG (fSR lim) g n qa qb qc qd) ad (ml,uu)).2=true/\gB (qSp gB ad)=1)/\(flN (qRo gB qa qb qc qd (sbZ gB g n qa qb qc qd lim d) ad ⟨q0,q1,q2,q3⟩) j (N9 gB (stG (fSR lim) g n qa qb qc qd) ad (ml,uu)).1).2=true,λj=>4-j⟩
def b0r(K:Nat):List SV->RdM
 | [.slc d 0 l c, .int .i64 ad, .ptr s 0, .agg [.flt .f64 q0, .flt .f64 q1, .flt .f64 q2, .flt .f64 q3], .agg [.flt .f64 qa, .flt .f64 qb, .flt .f64 qc, .flt .f64 qd], .fn (.func 69) [] [.ptr p1 0, .ptr a1 0]]=>.read s λo0=>(match a7L o0.c with
  | some (cl,cw,cv,k,dd,im,cp,x,y,z,w,p,n)=>.read p λo1=>(match A9 .f64 o1.c with
  | some (m1,g)=>.read dd λo2=>(match y7 .u8 o2.c with
  | some (m2,gB)=>.read p1 λo3=>(match a2t o3 50 0 with
  | true=>(match slU o3.c with
  | some (r1,ml)=>.read a1 λo4=>(match bxI o4.c with
  | some lim=>.read r1 λo5=>(match a2t o5 2 1 with
  | true=>(match y7 .i64 o5.c with
  | some (m5,uu)=>.ret ⟨[.slc 2 0 l c, .int .i64 ad, .ptr 0 0, .agg [.flt .f64 q0, .flt .f64 q1, .flt .f64 q2, .flt .f64 q3], .agg [.flt .f64 qa, .flt .f64 qb, .flt .f64 qc, .flt .f64 qd], .fn (.func 69) [] [.ptr 3 0, .ptr 4 0]],[(0,⟨false,150,U4 cl cw cv k 2 im cp x y z w 1 n,0⟩),(1,⟨false,100, .flts .f64 m1 g,0⟩),(2,⟨false,5, .ints .u8 m2 gB,0⟩),(3,⟨true,50, .cells [.slcc 5 ml],0⟩),(4,⟨false,2,a1c lim,0⟩),(5,⟨true,2, .ints .i64 m5 uu,1⟩)], .bool (qS gB qa qb qc qd (stG (fSR lim) g n qa qb qc qd) (K-1) ad.toNat ⟨q0,q1,q2,q3⟩ (ml,uu)).2,[(3,⟨true,50, .cells [.slcc 6 ((qS gB qa qb qc qd (stG (fSR lim) g n qa qb qc qd) (K-1) ad.toNat ⟨q0,q1,q2,q3⟩ (ml,uu)).1).1],0⟩),(5,⟨false,0, .cells [],0⟩)],[(6,⟨true,2, .ints .i64 ((qS gB qa qb qc qd (stG (fSR lim) g n qa qb qc qd) (K-1) ad.toNat ⟨q0,q1,q2,q3⟩ (ml,uu)).1).1 ((qS gB qa qb qc qd (stG (fSR lim) g n qa qb qc qd) (K-1) ad.toNat ⟨q0,q1,q2,q3⟩ (ml,uu)).1).2,1⟩)],some (dd=d/\m1=2*n/\m2=1*im/\m5=1*ml/\0<K/\(0<=ad/\l=im/\l<=c)/\a2K gB im/\qOk gB im n (K-1) ad.toNat ⟨q0,q1,q2,q3⟩/\n<=1000000/\SmF g (2*n)/\((qS gB qa qb qc qd (stG (fSR lim) g n qa qb qc qd) (K-1) ad.toNat ⟨q0,q1,q2,q3⟩ (ml,uu)).1.1<=1000000))⟩
  | none=>.fail)
  | false=>.fail)
  | none=>.fail)
  | none=>.fail)
  | false=>.fail)
  | none=>.fail)
  | none=>.fail)
  | none=>.fail)
 | _=>.fail
def c3o(H:Nat):Ctx:=⟨⟨tys,[]⟩,[(182,B3 b9l),(112,B3 a9z),(113,z4 a2P),(175,z4 a6X),(69,B3 b5P),(176,B3 a7V),(124,z4 b0F),(178,B3 (b0r H))]⟩
theorem c8B(H:Nat)(ih:C4 prog 178 (B3 (b0r H))):B7 prog (c3o H):=⟨⟨E1,FlatsOk.nil⟩,j9.cons rdN (j9.cons c1d (j9.cons (.pure b0h) (j9.cons (.pure b6V) (j9.cons apZ (j9.cons b8F (j9.cons (.pure c2i) (j9.cons ih j9.nil))))))),by kernel_rfl⟩
theorem c3w(H:Nat)(cl cw cv:Bool)(k:Int)(dd:Nm)(im cp:Nat)(x y z w:Nat)(_:Nm)(n:Nat)(l c:Nat)(ad:Int)(q0 q1 q2 q3 qa qb qc qd:Nat)(_:Nm)(ml:Nat)(lim:Int)(g:Nat->Nat)(gB:Nat->Int)(uu:Nat->Int){w9:HC}(e9:w9=⟨[.slc 2 0 l c, .int .i64 ad, .ptr 0 0, .agg [.flt .f64 q0, .flt .f64 q1, .flt .f64 q2, .flt .f64 q3], .agg [.flt .f64 qa, .flt .f64 qb, .flt .f64 qc, .flt .f64 qd], .fn (.func 69) [] [.ptr 3 0, .ptr 4 0]],[(0,⟨false,150,U4 cl cw
 cv k 2 im cp x y z w 1 n,0⟩),(1,⟨false,100, .flts .f64 (2*n) g,0⟩),(2,⟨false,5, .ints .u8 (1*im) gB,0⟩),(3,⟨true,50, .cells [.slcc 5 ml],0⟩),(4,⟨false,2,a1c lim,0⟩),(5,⟨true,2, .ints .i64 (1*ml) uu,1⟩)], .bool (qS gB qa
 qb qc qd (stG (fSR lim) g n qa qb qc qd) ((H+1)-1) ad.toNat ⟨q0,q1,q2,q3⟩ (ml,uu)).2,[(3,⟨true,50, .cells [.slcc 6 ((qS gB qa qb qc qd (stG (fSR lim) g n qa qb qc qd) ((H+1)-1) ad.toNat ⟨q0,q1,q2,q3⟩ (ml,uu)).1).1],0⟩),(5,
 ⟨false,0, .cells [],0⟩)],[(6,⟨true,2, .ints .i64 ((qS gB qa qb qc qd (stG (fSR lim) g n qa qb qc qd) ((H+1)-1) ad.toNat ⟨q0,q1,q2,q3⟩ (ml,uu)).1).1 ((qS gB qa qb qc qd (stG (fSR lim) g n qa qb qc qd) ((H+1)-1) ad.toNat ⟨q0,q1,q2,
 q3⟩ (ml,uu)).1).2,1⟩)],some (dd=dd/\2*n=2*n/\1*im=1*im/\1*ml=1*ml/\0<(H+1)/\(0<=ad/\l=im/\l<=c)/\a2K gB im/\qOk gB im n ((H+1)-1) ad.toNat ⟨q0,q1,q2,q3⟩/\n<=1000000/\SmF g (2*n)/\((qS gB qa qb qc
 qd (stG (fSR lim) g n qa qb qc qd) ((H+1)-1) ad.toNat ⟨q0,q1,q2,q3⟩ (ml,uu)).1.1<=1000000))⟩){T1}(t1:T1=λ(i:Nat)=>(leN gB (if c=toNat (↑(toNat ad+1+toNat (qW gB (toNat ad))+toNat (qW gB (toNat ad))*i) :
 Int)then 0 else 0+toNat (↑(toNat ad+1+toNat (qW gB (toNat ad))+toNat (qW gB (toNat ad))*i):Int)*1) (toNat (qW gB (toNat ad))))){T2}(t2:T2=(qRo gB qa qb qc qd (sbZ gB g n qa qb qc qd lim H) (toNat
 ad) (Q4.mk q0 q1 q2 q3))){T3}(t3:T3=(λ(j:Nat) (s:LsT)=>stG (fSR lim) g n qa qb qc qd (qIt gB (toNat ad) j) s)){T4}(t4:T4=(N9 gB (stG (fSR lim) g n qa qb qc qd) (toNat ad) (ml,uu))){T5}(t5:T5=λ(i:Nat)=>(if c=toNat
 (wrap .i64 ((↑(qPo gB (toNat ad) i):Int)+1))then 0 else 0+toNat (wrap .i64 ((↑(qPo gB (toNat ad) i):Int)+1))*1)){T6}(t6:T6=(qS gB qa qb qc qd (stG (fSR lim) g n qa qb qc qd) (H+1-1) (toNat ad) (Q4.mk
 q0 q1 q2 q3) (ml,uu))){T7}(t7:T7=λ(i:Nat)=>(↑(toNat ad+1+toNat (qW gB (toNat ad))+toNat (qW gB (toNat ad))*i):Int)){T8}(t8:T8=λ(i:Nat)=>(Q4.mk (qb0 (Q4.mk q0 q1 q2 q3) (↑i:Int)) (qb1 (Q4.mk q0 q1 q2 q3) (↑i :
 Int)) (qb2 (Q4.mk q0 q1 q2 q3) (↑i:Int)) (qb3 (Q4.mk q0 q1 q2 q3) (↑i:Int)))){T9}(t9:T9=(cl=cl/\cw=cw/\cv=cv/\k=k/\(True/\0=0/\im=im/\cp=cp)/\x=x/\y=y/\z=z/\w=w/\(True/\n=n)/\True)){T10}(t10:T10=(toNat
 ad)){T11}(t11:T11=(Go.Fn.func 69=Go.Fn.func 69/\True/\(True/\0=0)/\(True/\0=0)/\True)){T12}(t12:T12=λ(i:Nat)=>((flN T3 i (ml,uu)).1)){T13}(t13:T13=λ(i:Nat)=>(!fGt .f64 (I2 (g (2*toNat (wrap .i64 (T1 i))+1)) (g
 (2*nx n (toNat (wrap .i64 (T1 i)))+1))) qd && !fLt .f64 (H8 (g (2*toNat (wrap .i64 (T1 i))+1)) (g (2*nx n (toNat (wrap .i64 (T1 i)))+1))) qb && !fGt .f64 (I2 (g (2*toNat (wrap .i64
 (T1 i)))) (g (2*nx n (toNat (wrap .i64 (T1 i)))))) qc && !fLt .f64 (H8 (g (2*toNat (wrap .i64 (T1 i)))) (g (2*nx n (toNat (wrap .i64 (T1 i)))))) qa)){T14}(t14:T14=(102=102/\0=0/\q0=q0/\q1=q1/\
 q2=q2/\q3=q3/\True)){T15}(t15:T15=(102=102/\0=0/\qa=qa/\qb=qb/\qc=qc/\qd=qd/\True)){T16}(t16:T16=λ(i:Nat)=>(toNat (wrap .i64 (leN gB (T5 i) 4)))){T17}(t17:T17=λ(i:Nat)=>(1*im<=1*im/\∀ (i:Nat),i <
 1*im->gB i=gB i)){T18}(t18:T18=λ(i:Nat)=>(2*n<=2*n/\∀ (i:Nat),i<2*n->g i=g i)){T19}(t19:T19=λ(i:Nat)=>((flN T2 i (T4.1)).1)){T20}(t20:T20=(True/\0=0)){T21}(t21:T21=(if c=toNat (wrap .i64 (ad+(1 :
 Int)))then 0 else 0+toNat (wrap .i64 (ad+(1:Int)))*1)){T22}(t22:T22=(stG (fSR lim) g n qa qb qc qd)){T23}(t23:T23=λ(i:Nat) (i':Nat)=>((True/\0=0/\l=l/\c=c)/\wrap .i64 (wrap .i64 ((↑(qPo gB T10 i) :
 Int)+1)+(4:Int))=(↑(qPo gB T10 i'):Int)/\T20/\T11/\T20/\T20/\wrap .i64 ((↑i:Int)+1)=(↑i':Int)/\True)){T24}(t24:T24=λ(i:Nat)=>(!fGt .f64 (qb1 (Q4.mk q0 q1 q2 q3) (↑i:Int)) qd && !fLt .f64 (qb3 (Q4.mk q0 q1 q2 q3)
 (↑i:Int)) qb && !fGt .f64 (qb0 (Q4.mk q0 q1 q2 q3) (↑i:Int)) qc && !fLt .f64 (qb2 (Q4.mk q0 q1 q2 q3) (↑i:Int)) qa)){T25}(t25:T25=(T4.2=true/\gB (qSp gB T10)=(1:Int))){T26}(t26:T26=λ(i':Nat)=>((flN T2 i' (T4.1)).1))
 {T27}(t27:T27=λ(i:Nat)=>(↑(qPo gB T10 i):Int)) {T28}(t28:T28=(True/\0=0/\l=l/\c=c)) {T29}(t29:T29=(↑(qCn gB T10):Int)) {T30}(t30:T30=λ(i:Nat)=>(qS gB qa qb qc qd T22 (H-1) (T16 i) (T8 i) ((T19 i).1,(T19 i).2)))
 {T31}(t31:T31=(lim=lim/\True)) {T32}(t32:T32=λ(i':Nat)=>((flN T3 i' (ml,uu)).1)) {T33}(t33:T33=(gB (0+toNat ad*1))) {T34}(t34:T34=λ(i:Nat)=>((T12 i).1,(T12 i).2)) {T35}(t35:T35=λ(i:Nat)(i':Nat)=>(2=2/\1=1/\(T26 i').1<=
 (T19 i).1/\∀(i_1:Nat),i_1<(T26 i').1->(T19 i).2 i_1=(T26 i').2 i_1)) {T36}(t36:T36=λ(i:Nat)=>(qS gB qa qb qc qd T22 (H-1) (T16 i) (T8 i) (((flN T2 i (Prod.fst T4)).1).1,(T19 i).2))) {T37}(t37:T37=(qW gB T10)) {T38}(t38:T38=fun
 (i:Nat)=>(qS gB qa qb qc qd T22 (H-1) (T16 i) (T8 i) ((T19 i).1,Prod.snd (T19 i)))) {T39}(t39:T39=λ(i:Nat)=>(Prod.fst (flN T2 i (T4.1)))):J3 (c3o H) 6 [(6,c7G (U4 cl cw cv k 2 im cp x y z w 1 n) n im l c g gB lim ml uu q0 q1 q2 q3 qa qb qc qd ad.toNat),(19,c7Q (U4 cl cw cv k 2 im cp x y z w 1 n) n im l c g gB lim ml uu q0 q1 q2 q3 qa qb qc qd ad.toNat H)] [] (p9 f178) (A6 f178.ntmps w9.args w9.heap 6) (A8 ((c3o H)).E.T f178.results.toList λS v=>D5 6 w9 S v)=(
 (((0:Int)<=ad/\ad<(↑l:Int))/\1<=1*im)/\0+toNat ad*1+1<=1*im/\((True/\c<=c)/\(True/\l<=l)/\(0:Int)<=wrap .i64 (ad+(1:Int))/\toNat (wrap .i64 (ad+(1:Int)))<=l)/\(b4H gB T21 T33/\
 toNat T33<=l-toNat (wrap .i64 (ad+(1:Int)))/\T21+toNat T33<=1*im)/\(∃(i:Nat),(i<=qCn gB T10/\(flN T3 i (ml,uu)).2=true)/\(T28/\wrap .i64 (wrap .i64 (ad+(1:Int))+wrap .i64 T33)
 = (T7 i)/\T20/\T11/\T20/\T20/\gB (0+toNat ad*1)=qW gB T10/\wrap .i64 (leN gB T21 (toNat T33))=T29/\0=(↑i:Int)/\True)/\True/\T9/\True/\(T18 i)/\True/\(T17 i)/\True/\(50=50/\0=0/\(True/\ml=(T12 i).1)
 /\True)/\True/\T31/\True/\(0<=1*ml/\∀(i:Nat),i<0->False)/\True/\(2=2/\1=1/\(T12 i).1<=1*ml/\∀(i_1:Nat),i_1<(T12 i).1->uu i_1=(T12 i).2 i_1)/\True/\T14/\True/\T15/\True)/\∀(i:Nat),i<=qCn gB T10/\(flN T3
 i (ml,uu)).2=true->(decide ((↑i:Int)<T29)=true->((True/\c<=c)/\(True/\l<=l)/\0<=(T7 i)/\toNat (T7 i)<=l)/\(b4H gB (if c=toNat (T7 i)then 0 else 0+toNat (T7 i)*1) T37/\toNat T37<=l-toNat (T7 i)/\
 (if c=toNat (T7 i)then 0 else 0+toNat (T7 i)*1)+toNat T37<=1*im)/\(2*n=2*n/\1*im=1*im/\(0:Int)<=wrap .i64 (T1 i)/\wrap .i64 (T1 i)<(↑n:Int)/\n<=1000000)/\((T13 i)=true->((T12 i).1 =
 1*(T12 i).1/\(0:Int)<=wrap .i64 (T1 i)/\(T34 i).1+1<=1000000)/\((!decide ((↑((T34 i).1):Int)+1<lim))=true->T6.2=false/\True/\(50=50/\0=0/\(True/\(T34 i).1+1=(T6.1).1)/\True)/\True/\True/\True/\(2=2/\
 1=1/\(T6.1).1<=(T34 i).1+1/\∀(i_1:Nat),i_1<(T6.1).1->z7 ((T34 i).1) (((T12 i).1,Prod.snd (T12 i)).2) [(↑(toNat (wrap .i64 (T1 i))):Int)] (0:Int) i_1=(Prod.fst T6).2 i_1)/\True)/\((!decide ((↑((Prod.fst (T12 i),
 (T12 i).2).1):Int)+1<lim))=false->∃(i':Nat),(i'<=qCn gB T10/\(flN T3 i' (ml,uu)).2=true)/\qCn gB T10-i'<qCn gB T10-i/\(T28/\wrap .i64 ((T7 i)+wrap .i64 T37)=(↑(toNat ad+1+toNat T37 +
 toNat T37*i'):Int)/\T20/\T11/\T20/\T20/\qW gB T10=qW gB T10/\T29=T29/\wrap .i64 ((↑i:Int)+(1:Int))=(↑i':Int)/\True)/\True/\T9/\True/\(T18 i)/\True/\(T17 i)/\True/\(50=50/\0=0/\(True/\(T34 i).1+1
 = (T32 i').1)/\True)/\True/\T31/\True/\True/\True/\(2=2/\1=1/\Prod.fst (T32 i')<=((Prod.fst (flN T3 i (ml,uu))).1,(T12 i).2).1+1/\∀(i_1:Nat),i_1<(T32 i').1->z7 ((T34 i).1) ((T34 i).2) [(↑(toNat (wrap .i64 (T1
 i))):Int)] (0:Int) i_1=(T32 i').2 i_1)/\True/\T14/\True/\T15/\True))/\((T13 i)=false->∃(i':Nat),(i'<=qCn gB T10/\Prod.snd (flN T3 i' (ml,uu))=true)/\qCn gB T10-i'<qCn gB T10-i/\(T28/\wrap .i64 ((T7 i) +
 wrap .i64 T37)=(↑(toNat ad+1+toNat T37+toNat T37*i'):Int)/\T20/\T11/\T20/\T20/\qW gB T10=qW gB T10/\T29=T29/\wrap .i64 ((↑i:Int)+1)=(↑i':Int)/\True)/\True/\T9/\True/\(T18 i)/\True/\
 (T17 i)/\True/\(50=50/\0=0/\(True/\(T12 i).1=(T32 i').1)/\True)/\True/\T31/\True/\True/\True/\(2=2/\1=1/\(T32 i').1<=(T12 i).1/\∀(i_1:Nat),i_1<(T32 i').1->(T12 i).2 i_1=(T32 i').2 i_1)/\True/\T14/\True/\T15/\
 True))/\(decide ((↑i:Int)<T29)=false->((0<=(T7 i)/\(T7 i)<(↑l:Int))/\1<=1*im)/\0+toNat (T7 i)*1+1<=1*im/\((gB (0+toNat (T7 i)*1)==(1:Int))=true->(∃(i_1:Nat),(i_1<=4/\T25/\(flN T2 i_1 (T4.1)).2 =
 true)/\(T28/\wrap .i64 ((T7 i)+1)=(↑(qPo gB T10 i_1):Int)/\T20/\T11/\T20/\T20/\0=(↑i_1:Int)/\True)/\True/\T9/\True/\(T18 i)/\True/\(T17 i)/\True/\(50=50/\0=0/\(True/\(Prod.fst (flN T3 i (ml,uu))).1=((flN T2
 i_1 (T4.1)).1).1)/\True)/\True/\T31/\True/\True/\True/\(2=2/\1=1/\((flN T2 i_1 (T4.1)).1).1<=(T12 i).1/\∀(i_2:Nat),i_2<((flN T2 i_1 (T4.1)).1).1->(T12 i).2 i_2=((flN T2 i_1 (T4.1)).1).2 i_2)/\True/\T14/\True/\T15/\True)/\
 ∀(i:Nat),i<=4/\T25/\(flN T2 i (T4.1)).2=true->(decide ((↑i:Int)<4)=true->((0<=(T27 i)/\(T27 i)<(↑l:Int))/\1<=1*im)/\0+toNat (T27 i)*1+1<=1*im/\((!gB (0+toNat (T27 i)*1)==(1:Int))=true->∃(i' :
 Nat),(i'<=4/\T25/\(flN T2 i' (Prod.fst T4)).2=true)/\4-i'<4-i/\(T28/\wrap .i64 ((T27 i)+1)=(↑(qPo gB T10 i'):Int)/\T20/\T11/\T20/\T20/\wrap .i64 ((↑i:Int)+1)=(↑i':Int)/\True)/\True/\T9/\True/\
 (T18 i)/\True/\(T17 i)/\True/\(50=50/\0=0/\(True/\(T19 i).1=(T26 i').1)/\True)/\True/\T31/\True/\True/\True/\(T35 i i')/\True/\T14/\True/\T15/\True)/\((!gB (0+toNat (T27 i)*1)==(1:Int))=false->((True/\c<=c)
 /\(True/\l<=l)/\(0:Int)<=wrap .i64 ((T27 i)+1)/\toNat (wrap .i64 ((T27 i)+1))<=l)/\(4<=l-toNat (wrap .i64 ((T27 i)+1))/\(T5 i)+4<=1*im/\∀(j:Nat),j<4->(0:Int)<=gB ((T5 i)+j)/\gB
 ((T5 i)+j)<(256:Int))/\true=true/\((midOk q0 q2/\midOk q1 q3)/\0<=(↑i:Int)/\(↑i:Int)<4)/\((T24 i)=true->(2=2/\2*n=2*n/\1*im=1*im/\(T39 i).1=1*(T19 i).1/\0<H/\((0:Int)<=wrap .i64 (leN gB (T5
 i) 4)/\l=im/\l<=c)/\a2K gB im/\qOk gB im n (H-1) (T16 i) (T8 i)/\n<=1000000/\SmF g (2*n)/\((T30 i).1).1<=1000000)/\((!(T36 i).2)=true->T6.2=false/\True/\(50=50/\0=0/\(True/\Prod.fst ((T36 i).1)=(T6.1).1)/\True)/\
 True/\True/\True/\(2=2/\1=1/\(T6.1).1<=(Prod.fst (T30 i)).1/\∀(i_1:Nat),i_1<(T6.1).1->((qS gB qa qb qc qd T22 (H-1) (T16 i) (T8 i) ((T39 i).1,((flN T2 i (Prod.fst T4)).1).2)).1).2 i_1=(T6.1).2 i_1)/\True)/\((!(T38 i).2) =
 false->∃(i':Nat),(i'<=4/\T25/\(flN T2 i' (T4.1)).2=true)/\4-i'<4-i/\(T23 i i')/\True/\T9/\True/\(T18 i)/\True/\(T17 i)/\True/\(50=50/\0=0/\(True/\((T38 i).1).1=(T26 i').1)/\True)/\True/\T31/\True/\True/\True/\
 (2=2/\1=1/\(T26 i').1<=((qS gB qa qb qc qd T22 (H-1) (T16 i) (T8 i) ((T19 i).1,(T39 i).2)).1).1/\∀(i_1:Nat),i_1<(T26 i').1->((T30 i).1).2 i_1=(T26 i').2 i_1)/\True/\T14/\True/\T15/\True))/\((T24 i)=false->∃(i':Nat),
 (i'<=4/\T25/\(flN T2 i' (Prod.fst T4)).2=true)/\4-i'<4-i/\(T23 i i')/\True/\T9/\True/\(T18 i)/\True/\(T17 i)/\True/\(50=50/\0=0/\(True/\(T19 i).1=(T26 i').1)/\True)/\True/\T31/\True/\True/\True/\(T35 i i')/\True
 /\T14/\True/\T15/\True)))/\(decide ((↑i:Int)<(4:Int))=false->T6.2=true/\True/\(50=50/\0=0/\(True/\((flN T2 i (Prod.fst T4)).1).1=(T6.1).1)/\True)/\True/\True/\True/\(2=2/\1=1/\(T6.1).1<=(T19 i).1/\∀(i_1:Nat),
 i_1<(T6.1).1->(T39 i).2 i_1=(T6.1).2 i_1)/\True))/\((gB (0+toNat (T7 i)*1)==(1:Int))=false->T6.2=true/\True/\(50=50/\0=0/\(True/\(T12 i).1=(T6.1).1)/\True)/\True/\True/\True/\(2=2/\1=1/\(T6.1).1<=(T12
 i).1/\∀(i_1:Nat),i_1<(T6.1).1->(Prod.fst (flN T3 i (ml,uu))).2 i_1=(T6.1).2 i_1)/\True))):=by subst e9 t1 t2 t3 t4 t5 t6 t7 t8 t9 t10 t11 t12 t13 t14 t15 t16 t17 t18 t19 t20 t21 t22 t23 t24 t25 t26 t27 t28 t29 t30 t31 t32 t33 t34 t35 t36 t37 t38 t39;kernel_rfl
theorem qnZ(H:Nat)(ih:C4 prog 178 (B3 (b0r H))):C4 prog 178 (B3 (b0r (H+1))):=by
 refine A5 ((c8B H ih)) func178 rfl (by kernel_rfl) λargs=>?_
 unfold b0r;split;rotate_left;trivial;rename_i d l c ad s q0 q1 q2 q3 qa qb qc qd p1 a1;intro o0;try dsimp only
 split;rotate_left;trivial;rename_i cl cw cv k dd im cp x y z w p n hm0;intro o1;try dsimp only
 split;rotate_left;trivial;rename_i m1 g hm1;intro o2;try dsimp only
 split;rotate_left;trivial;rename_i m2 gB hm2;intro o3;try dsimp only
 split;rotate_left;trivial;rename_i hrw3;try dsimp only
 split;rotate_left;trivial;rename_i r1 ml hm3;intro o4;try dsimp only
 split;rotate_left;trivial;rename_i lim hm4;intro o5;try dsimp only
 split;rotate_left;trivial;rename_i hrw5;try dsimp only
 split;rotate_left;trivial;rename_i m5 uu hm5;intro(ho:dd=d/\m1=2*n/\m2=1*im/\m5=1*ml/\0<(H+1)/\(0<=ad/\l=im/\l<=c)/\a2K gB im/\qOk gB im n ((H+1)-1) ad.toNat ⟨q0,q1,q2,q3⟩/\n<=1000000/\SmF g (2*n)/\((qS gB qa qb qc qd (stG (fSR lim) g n qa qb qc qd) ((H+1)-1) ad.toNat ⟨q0,q1,q2,q3⟩ (ml,uu)).1.1<=1000000));obtain⟨heq0,hsz1,hsz2,hsz5,ho⟩:=ho;subst heq0 hsz1;subst hsz2 hsz5
 refine⟨?_,_,_,(c3w H cl cw cv k dd im cp x y z w p n l c ad q0 q1 q2 q3 qa qb qc qd r1 ml lim g gB uu rfl rfl rfl rfl rfl rfl rfl rfl rfl rfl rfl rfl rfl rfl rfl rfl rfl rfl rfl rfl rfl rfl rfl rfl rfl rfl rfl rfl rfl rfl rfl rfl rfl rfl rfl rfl rfl rfl rfl rfl).mpr ?_⟩
 ·refine j8 rfl ⟨?_,⟨trivial,a0x hm0 g9 g9,⟨trivial,(C6 hm1).1,⟨trivial,(y6 hm2).1,⟨trivial,Q6 hrw3 (a1k hm3 g9),⟨trivial,a1i hm4,⟨trivial,Q6 hrw5 ((y6 hm5).1),trivial⟩⟩⟩⟩⟩⟩⟩;simp[q9,z5,A0,C0,z8,z3,nth,g9]
 ·obtain⟨_,⟨ha0,hlm,hlc⟩,⟨hm2,hby⟩,hok,hn,hg,hob⟩:=ho;obtain⟨A,rfl⟩:∃ A:Nat,ad=A:=⟨ad.toNat,by omega⟩;subst hlm;simp only[tN9,Nat.add_sub_cancel]at hok hob
  have hH:b9h gB l n A:=by
   cases H with
   | zero=>exact hok.1
   | succ u=>exact hok.1
  have hS2:gB (qSp gB A)=1->0<H/\(midOk q0 q2/\midOk q1 q3)/\qPo gB A 4<=l/\∀ t,t<4->gB (qPo gB A t)=1->qOk gB l n (H-1) (qKd gB A t) (qbV ⟨q0,q1,q2,q3⟩ (t:Int)):=λe=>by
   cases H with
   | zero=>exact absurd e hok.2
   | succ u=>exact⟨by omega,hok.2 e⟩
  clear hok
  have eS:qS gB qa qb qc qd (stG (fSR lim) g n qa qb qc qd) H A ⟨q0,q1,q2,q3⟩ (ml,uu)=qSt gB qa qb qc qd (stG (fSR lim) g n qa qb qc qd) (sbZ gB g n qa qb qc qd lim H) A ⟨q0,q1,q2,q3⟩ (ml,uu):=by
   cases H <;> rfl
  have eU:∀ a' Q' s',0<H->sbZ gB g n qa qb qc qd lim H a' Q' s'=qS gB qa qb qc qd (stG (fSR lim) g n qa qb qc qd) (H-1) a' Q' s':=λa' Q' s' h0=>by
   cases H with
   | zero=>omega
   | succ u=>rfl
  have hsm:∀ a' Q' (s':LsT),s'.1<=(sbZ gB g n qa qb qc qd lim H a' Q' s').1.1:=λa' Q' s'=>by
   cases H with
   | zero=>exact Nat.le_refl _
   | succ u=>exact b3N (a1P lim g n qa qb qc qd) u a' Q' s'
  rw[eS]at hob;have hqi:(N9 gB (stG (fSR lim) g n qa qb qc qd) A (ml,uu)).1.1<=1000000:=Nat.le_trans (a9i hsm A ⟨q0,q1,q2,q3⟩ (ml,uu)) hob;rw[<-eS]at hob;have hle0:=hH.le;have hw4:(qW gB A).toNat=1∨(qW gB A).toNat=2∨(qW gB A).toNat=4:=by have:=hH.w;omega
  have hspe:qSp gB A=A+1+(qW gB A).toNat+(qW gB A).toNat*qCn gB A:=rfl;have hc:∀ z:Nat,z<l->¬c=z:=λz hz e=>by omega
  have w1:∀ z:Nat,z<=2000100->IntKind.i64.wrap ((z:Int)+1)=((z+1:Nat):Int):=λz hz=>by rw[j5 (by omega) (by omega)];rfl
  have hw64:IntKind.i64.wrap (qW gB A)=qW gB A:=by have:=hH.w;exact j5 (by omega) (by omega)
  have hcB:qCn gB A<=2000000:=by
   have:qCn gB A<=(qW gB A).toNat*qCn gB A:=Nat.le_mul_of_pos_left _ (by omega);omega
  rw[w1 A (by omega)];simp only[true_and,and_true,eq_self,tN9,Nat.mul_one,decide_eq_true_eq,decide_eq_false_iff_not,implies_true];rw[if_neg (hc (A+1) (by omega))];simp only[Nat.zero_add,Nat.add_sub_cancel];have eW:gB A=qW gB A:=rfl;rw[eW,hw64];have hbw0:∀ j,j<(qW gB A).toNat->0<=gB (A+1+j)/\gB (A+1+j)<256:=λj hj=>hby _ (by omega)
  have hle1:=a2J hbw0
  have hp1:(256:Int) ^ (qW gB A).toNat<=4294967296:=by
   rcases hw4 with e|e|e <;> rw[e] <;> decide
  have er0:IntKind.i64.wrap (leN gB (A+1) (qW gB A).toNat)=((qCn gB A:Nat):Int):=by
   rw[j5 (by omega) (by omega)];unfold qCn;omega
  rw[er0]
  let f0:Nat->LsT->LsT×Bool:=λj s=>stG (fSR lim) g n qa qb qc qd (qIt gB A j) s
  have hwB:IntKind.i64.wrap (((A+1:Nat):Int)+qW gB A)=((A+1+(qW gB A).toNat+(qW gB A).toNat*0:Nat):Int):=by
   have:=hH.w;rw[j5 (by omega) (by omega)];omega
  refine⟨⟨⟨by omega,by omega⟩,by omega⟩,by omega,⟨Nat.le_refl _,Nat.le_refl _,by omega,by omega⟩,⟨⟨hH.w,hbw0⟩,by omega,by omega⟩,⟨0,⟨Nat.zero_le _,rfl⟩,⟨hwB,rfl,rfl,rfl⟩,Nat.le_refl _,Nat.le_refl _,(by and_intros <;> first|exact rfl|exact Nat.le_refl _|exact Nat.le_of_eq (Nat.one_mul _).symm|exact λ_ _=>rfl|exact Nat.zero_le _|exact λ_ h=>absurd h (Nat.not_lt_zero _))⟩,λi hi=>?_⟩;obtain⟨i1,i3⟩:=hi;change (flN f0 i (ml,uu)).2=true at i3;refine⟨λhlt=>?_,λhge=>?_⟩
  ·have hlt:i<qCn gB A:=by omega
   have hmul:(qW gB A).toNat*(i+1)<=(qW gB A).toNat*qCn gB A:=Nat.mul_le_mul_left _ hlt;rw[Nat.mul_add,Nat.mul_one]at hmul;have hw4:(qW gB A).toNat=1∨(qW gB A).toNat=2∨(qW gB A).toNat=4:=by omega
   have hbw:∀ j,j<(qW gB A).toNat->0<=gB (A+1+(qW gB A).toNat+(qW gB A).toNat*i+j)/\gB (A+1+(qW gB A).toNat+(qW gB A).toNat*i+j)<256:=λj hj=>hby _ (by omega)
   have hle:=a2J hbw
   have hp:(256:Int) ^ (qW gB A).toNat<=4294967296:=by
    rcases hw4 with e|e|e <;> rw[e] <;> decide
   have er:IntKind.i64.wrap (leN gB (A+1+(qW gB A).toNat+(qW gB A).toNat*i) (qW gB A).toNat)=((qIt gB A i:Nat):Int):=by
    rw[j5 (by omega) (by omega)];unfold qIt;omega
   have hri:=hH.it i hlt;rw[if_neg (hc _ (by omega)),er];simp only[tN9];have em:(!fGt .f64 (I2 (g (2*qIt gB A i+1)) (g (2*nx n (qIt gB A i)+1))) qd && !fLt .f64 (H8 (g (2*qIt gB A i+1)) (g (2*nx n (qIt gB A i)+1))) qb && !fGt .f64 (I2 (g (2*qIt gB A i)) (g (2*nx n (qIt gB A i)))) qc && !fLt .f64 (H8 (g (2*qIt gB A i)) (g (2*nx n (qIt gB A i)))) qa)=mtF g n qa qb qc qd (qIt gB A i):=rfl;rw[em];have hnx:=a5W hri
   have hwA:IntKind.i64.wrap (((A+1+(qW gB A).toNat+(qW gB A).toNat*i:Nat):Int)+qW gB A)=((A+1+(qW gB A).toNat+(qW gB A).toNat*(i+1):Nat):Int):=by
    rw[j5 (by omega) (by omega),Nat.mul_add,Nat.mul_one];omega
   have es:flN f0 (i+1) (ml,uu)=f0 i (flN f0 i (ml,uu)).1:=a6r i3;refine⟨⟨Nat.le_refl _,Nat.le_refl _,by omega,by omega⟩,⟨⟨hH.w,hbw⟩,by omega,by omega⟩,⟨by omega,by omega,hn⟩,λhm=>⟨⟨by omega,by omega,a5Y hm es (λ_=>rfl) (Nat.le_trans (a0h (λ_ s=>a1P lim g n qa qb qc qd _ s) _ hlt) hqi)⟩,λho=>?_,λho=>?_⟩,λhm=>?_⟩
   ·have E:sgF (fSR lim) g n (qIt gB A i) (flN f0 i (ml,uu)).1=flN f0 (i+1) (ml,uu):=(a0C hm _).symm.trans es.symm
    have ho:(sgF (fSR lim) g n (qIt gB A i) (flN f0 i (ml,uu)).1).2=false:=by
     rw[Bool.not_eq_true']at ho;exact ho
    have e3:flN f0 (qCn gB A) (ml,uu)=flN f0 (i+1) (ml,uu):=a0p (by rw[<-E];exact ho) (by omega);have e4:N9 gB (stG (fSR lim) g n qa qb qc qd) A (ml,uu)=sgF (fSR lim) g n (qIt gB A i) (flN f0 i (ml,uu)).1:=e3.trans E.symm
    have e5:qS gB qa qb qc qd (stG (fSR lim) g n qa qb qc qd) H A ⟨q0,q1,q2,q3⟩ (ml,uu)=sgF (fSR lim) g n (qIt gB A i) (flN f0 i (ml,uu)).1:=by
     rw[eS];unfold qSt;rw[e4,if_neg (by rw[ho];simp)]
    rw[e5];exact⟨ho,(by and_intros <;> first|exact rfl|exact Nat.le_refl _|exact Nat.le_of_eq (Nat.one_mul _).symm|exact λ_ _=>rfl|exact Nat.zero_le _|exact λ_ h=>absurd h (Nat.not_lt_zero _))⟩
   ·have E:sgF (fSR lim) g n (qIt gB A i) (flN f0 i (ml,uu)).1=flN f0 (i+1) (ml,uu):=(a0C hm _).symm.trans es.symm
    have ho:(sgF (fSR lim) g n (qIt gB A i) (flN f0 i (ml,uu)).1).2=true:=by
     rw[Bool.not_eq_false']at ho;exact ho
    refine⟨i+1,⟨hlt,by show (flN f0 (i+1) (ml,uu)).2=true;rw[<-E];exact ho⟩,by omega,⟨hwA,by rw[j5 (by omega) (by omega)];rfl⟩,Nat.le_refl _,Nat.le_refl _,congrArg (λz=>z.1.1) E,Nat.le_of_eq (congrArg (λz=>z.1.1) E).symm,λj _=>congrFun (congrArg (λz=>z.1.2) E) j⟩
   ·have E:((flN f0 i (ml,uu)).1,true)=flN f0 (i+1) (ml,uu):=(W6 hm _).symm.trans es.symm;refine⟨i+1,⟨hlt,by show (flN f0 (i+1) (ml,uu)).2=true;rw[<-E]⟩,by omega,⟨hwA,by rw[j5 (by omega) (by omega)];rfl⟩,Nat.le_refl _,Nat.le_refl _,congrArg (λz=>z.1.1) E,Nat.le_of_eq (congrArg (λz=>z.1.1) E).symm,λj _=>congrFun (congrArg (λz=>z.1.2) E) j⟩
  ·have e:i=qCn gB A:=by omega
   subst e;have e4:N9 gB (stG (fSR lim) g n qa qb qc qd) A (ml,uu)=flN f0 (qCn gB A) (ml,uu):=rfl;rw[<-hspe,<-e4];rw[<-e4]at i3;refine⟨⟨⟨by omega,by omega⟩,by omega⟩,by omega,λh1=>?_,λh1=>?_⟩
   ·have h1:gB (qSp gB A)=1:=by simpa using h1
    obtain⟨hH0,hm1,hP4,hkd⟩:=hS2 h1
    let f1:Nat->LsT->LsT×Bool:=qRo gB qa qb qc qd (sbZ gB g n qa qb qc qd lim H) A ⟨q0,q1,q2,q3⟩
    have e5:qS gB qa qb qc qd (stG (fSR lim) g n qa qb qc qd) H A ⟨q0,q1,q2,q3⟩ (ml,uu)=flN f1 4 (N9 gB (stG (fSR lim) g n qa qb qc qd) A (ml,uu)).1:=by
     rw[eS];unfold qSt;rw[if_pos ⟨i3,h1⟩]
    rw[e5]at hob;rw[e5,w1 (qSp gB A) (by omega)];refine⟨⟨0,⟨Nat.zero_le _,⟨i3,h1⟩,rfl⟩,⟨rfl,rfl⟩,Nat.le_refl _,Nat.le_refl _,(by and_intros <;> first|exact rfl|exact Nat.le_refl _|exact Nat.le_of_eq (Nat.one_mul _).symm|exact λ_ _=>rfl|exact Nat.zero_le _|exact λ_ h=>absurd h (Nat.not_lt_zero _))⟩,λi hi=>?_⟩;obtain⟨j1,_,j3⟩:=hi;change (flN f1 i (N9 gB (stG (fSR lim) g n qa qb qc qd) A (ml,uu)).1).2=true at j3;refine⟨λhlt=>?_,λhge=>?_⟩
    ·have hlt:i<4:=by omega
     have hP1:=b6F gB A (t:=i+1) (u:=4) (by omega);have hP2:qPo gB A (i+1)=qPo gB A i+(if gB (qPo gB A i)=1 then 5 else 1):=rfl;have es:flN f1 (i+1) (N9 gB (stG (fSR lim) g n qa qb qc qd) A (ml,uu)).1=f1 i (flN f1 i (N9 gB (stG (fSR lim) g n qa qb qc qd) A (ml,uu)).1).1:=a6r j3;have wi:IntKind.i64.wrap ((i:Int)+1)=((i+1:Nat):Int):=by rw[j5 (by omega) (by omega)];rfl
     have hPl:qPo gB A i<l:=by split at hP2 <;> omega
     rw[w1 (qPo gB A i) (by omega)];simp only[tN9];refine⟨⟨⟨by omega,by omega⟩,by omega⟩,by omega,λhu=>?_,λhu=>?_⟩
     ·have hu:¬gB (qPo gB A i)=1:=by simpa using hu
      rw[if_neg hu]at hP2
      have E:((flN f1 i (N9 gB (stG (fSR lim) g n qa qb qc qd) A (ml,uu)).1).1,true)=flN f1 (i+1) (N9 gB (stG (fSR lim) g n qa qb qc qd) A (ml,uu)).1:=by
       rw[es];show _=qRo gB qa qb qc qd _ A _ i _;unfold qRo;rw[if_neg λhh=>hu hh.1]
      refine⟨i+1,⟨hlt,⟨i3,h1⟩,by show (flN f1 (i+1) _).2=true;rw[<-E]⟩,by omega,⟨by rw[hP2],wi⟩,Nat.le_refl _,Nat.le_refl _,congrArg (λz=>z.1.1) E,Nat.le_of_eq (congrArg (λz=>z.1.1) E).symm,λj _=>congrFun (congrArg (λz=>z.1.2) E) j⟩
     ·have hu:gB (qPo gB A i)=1:=by simpa using hu
      rw[if_pos hu]at hP2;have hbw:∀ j,j<4->0<=gB (qPo gB A i+1+j)/\gB (qPo gB A i+1+j)<256:=λj hj=>hby _ (by omega)
      have hle:=a2J hbw;have hp:(256:Int) ^ 4=4294967296:=by decide
      have er:IntKind.i64.wrap (leN gB (qPo gB A i+1) 4)=((qKd gB A i:Nat):Int):=by
       rw[j5 (by omega) (by omega)];unfold qKd;omega
      have wA:IntKind.i64.wrap (((qPo gB A i+1:Nat):Int)+4)=((qPo gB A (i+1):Nat):Int):=by
       rw[j5 (by omega) (by omega),hP2];omega
      rw[if_neg (hc _ (by omega)),er,wA,wi];simp only[tN9];have eb:(!fGt .f64 (qb1 ⟨q0,q1,q2,q3⟩ i) qd && !fLt .f64 (qb3 ⟨q0,q1,q2,q3⟩ i) qb && !fGt .f64 (qb0 ⟨q0,q1,q2,q3⟩ i) qc && !fLt .f64 (qb2 ⟨q0,q1,q2,q3⟩ i) qa)=qmt (qbV ⟨q0,q1,q2,q3⟩ (i:Int)) qa qb qc qd:=rfl;have eq4:(⟨qb0 ⟨q0,q1,q2,q3⟩ i,qb1 ⟨q0,q1,q2,q3⟩ i,qb2 ⟨q0,q1,q2,q3⟩ i,qb3 ⟨q0,q1,q2,q3⟩ i⟩:Q4)=qbV ⟨q0,q1,q2,q3⟩ (i:Int):=rfl;rw[eb,eq4,<-eU _ _ _ hH0]
      refine⟨⟨Nat.le_refl _,Nat.le_refl _,by omega,by omega⟩,⟨by omega,by omega,hbw⟩,⟨hm1,by omega,by omega⟩,λhm=>⟨⟨by omega,hH0,⟨by omega,hlc⟩,⟨hm2,hby⟩,hkd i hlt hu,hn,hg,(show (sbZ gB g n qa qb qc qd lim H (qKd gB A i) (qbV ⟨q0,q1,q2,q3⟩ (i:Int)) (flN f1 i (N9 gB (stG (fSR lim) g n qa qb qc qd) A (ml,uu)).1).1).1.1<=1000000 from(by have e9:f1 i (flN f1 i (N9 gB (stG (fSR lim) g n qa qb qc qd) A (ml,uu)).1).1=sbZ gB g n qa qb qc qd lim H (qKd gB A i) (qbV ⟨q0,q1,q2,q3⟩ (i:Int)) (flN f1 i (N9 gB (stG (fSR lim) g n qa qb qc qd) A (ml,uu)).1).1:=(by show qRo gB qa qb qc qd _ A _ i _=_;unfold qRo;rw[if_pos ⟨hu,hm⟩]);rw[<-e9,<-es];exact Nat.le_trans (a0h (b1v hsm A ⟨q0,q1,q2,q3⟩) _ hlt) hob))⟩,?_⟩,λhm=>?_⟩
      ·have E:sbZ gB g n qa qb qc qd lim H (qKd gB A i) (qbV ⟨q0,q1,q2,q3⟩ (i:Int)) (flN f1 i (N9 gB (stG (fSR lim) g n qa qb qc qd) A (ml,uu)).1).1=flN f1 (i+1) (N9 gB (stG (fSR lim) g n qa qb qc qd) A (ml,uu)).1:=by
        rw[es];show _=qRo gB qa qb qc qd _ A _ i _;unfold qRo;rw[if_pos ⟨hu,hm⟩]
       refine⟨λho=>?_,λho=>?_⟩
       ·have ho:(sbZ gB g n qa qb qc qd lim H (qKd gB A i) (qbV ⟨q0,q1,q2,q3⟩ (i:Int)) (flN f1 i (N9 gB (stG (fSR lim) g n qa qb qc qd) A (ml,uu)).1).1).2=false:=by
         rw[Bool.not_eq_true']at ho;exact ho
        have e3:flN f1 4 (N9 gB (stG (fSR lim) g n qa qb qc qd) A (ml,uu)).1=flN f1 (i+1) (N9 gB (stG (fSR lim) g n qa qb qc qd) A (ml,uu)).1:=a0p (by rw[<-E];exact ho) (by omega);rw[e3,<-E];exact⟨ho,(by and_intros <;> first|exact rfl|exact Nat.le_refl _|exact Nat.le_of_eq (Nat.one_mul _).symm|exact λ_ _=>rfl|exact Nat.zero_le _|exact λ_ h=>absurd h (Nat.not_lt_zero _))⟩
       ·have ho:(sbZ gB g n qa qb qc qd lim H (qKd gB A i) (qbV ⟨q0,q1,q2,q3⟩ (i:Int)) (flN f1 i (N9 gB (stG (fSR lim) g n qa qb qc qd) A (ml,uu)).1).1).2=true:=by
         rw[Bool.not_eq_false']at ho;exact ho
        rw[E]at ho;exact⟨i+1,⟨hlt,⟨i3,h1⟩,ho⟩,by omega,⟨rfl,rfl⟩,Nat.le_refl _,Nat.le_refl _,congrArg (λz=>z.1.1) E,Nat.le_of_eq (congrArg (λz=>z.1.1) E).symm,λj _=>congrFun (congrArg (λz=>z.1.2) E) j⟩
      ·have E:((flN f1 i (N9 gB (stG (fSR lim) g n qa qb qc qd) A (ml,uu)).1).1,true)=flN f1 (i+1) (N9 gB (stG (fSR lim) g n qa qb qc qd) A (ml,uu)).1:=by
        rw[es];show _=qRo gB qa qb qc qd _ A _ i _;unfold qRo;rw[if_neg λhh=>by rw[hm]at hh;exact absurd hh.2 (by decide)]
       exact⟨i+1,⟨hlt,⟨i3,h1⟩,by show (flN f1 (i+1) _).2=true;rw[<-E]⟩,by omega,⟨rfl,rfl⟩,Nat.le_refl _,Nat.le_refl _,congrArg (λz=>z.1.1) E,Nat.le_of_eq (congrArg (λz=>z.1.1) E).symm,λj _=>congrFun (congrArg (λz=>z.1.2) E) j⟩
    ·have e:i=4:=by omega
     subst e;exact⟨j3,(by and_intros <;> first|exact rfl|exact Nat.le_refl _|exact Nat.le_of_eq (Nat.one_mul _).symm|exact λ_ _=>rfl|exact Nat.zero_le _|exact λ_ h=>absurd h (Nat.not_lt_zero _))⟩
   ·have h1:¬gB (qSp gB A)=1:=by simpa using h1
    have e5:qS gB qa qb qc qd (stG (fSR lim) g n qa qb qc qd) H A ⟨q0,q1,q2,q3⟩ (ml,uu)=N9 gB (stG (fSR lim) g n qa qb qc qd) A (ml,uu):=by
     rw[eS];unfold qSt;rw[if_neg λhh=>h1 hh.2]
    rw[e5];exact⟨i3,(by and_intros <;> first|exact rfl|exact Nat.le_refl _|exact Nat.le_of_eq (Nat.one_mul _).symm|exact λ_ _=>rfl|exact Nat.zero_le _|exact λ_ h=>absurd h (Nat.not_lt_zero _))⟩
theorem b5O:∀ H,C4 prog 178 (B3 (b0r H))
 | 0=>by
  refine A5 g0 func178 rfl (by kernel_rfl) λargs=>?_
  unfold b0r;split;rotate_left;trivial;intro o0;try dsimp only
  split;rotate_left;trivial;intro o1;try dsimp only
  split;rotate_left;trivial;intro o2;try dsimp only
  split;rotate_left;trivial;intro o3;try dsimp only
  split;rotate_left;trivial;try dsimp only
  split;rotate_left;trivial;intro o4;try dsimp only
  split;rotate_left;trivial;intro o5;try dsimp only
  split;rotate_left;trivial;try dsimp only
  split;rotate_left;trivial;intro ho;exfalso;have h:=ho.2.2.2.2.1;omega
 | H+1=>qnZ H (b5O H)
def c3q:Ctx:=⟨⟨tys,[]⟩,[(181,B3 (b0f 200))]⟩
theorem c7j:B7 prog c3q:=⟨⟨E1,FlatsOk.nil⟩,j9.cons (b7K 200) j9.nil,by kernel_rfl⟩
def c2o:List SV->RdM
 | [.slc d 0 l c, .int .i64 ad, .ptr s 0, .agg [.flt .f64 qa, .flt .f64 qb, .flt .f64 qc, .flt .f64 qd], .fn (.func 69) [] [.ptr p1 0, .ptr a1 0]]=>.read s λo0=>(match a7L o0.c with
  | some (cl,cw,cv,k,dd,im,cp,x,y,z,w,p,n)=>.read p λo1=>(match A9 .f64 o1.c with
  | some (m1,g)=>.read dd λo2=>(match y7 .u8 o2.c with
  | some (m2,gB)=>.read p1 λo3=>(match a2t o3 50 0 with
  | true=>(match slU o3.c with
  | some (r1,ml)=>.read a1 λo4=>(match bxI o4.c with
  | some lim=>.read r1 λo5=>(match a2t o5 2 1 with
  | true=>(match y7 .i64 o5.c with
  | some (m5,uu)=>.ret ⟨[.slc 2 0 l c, .int .i64 ad, .ptr 0 0, .agg [.flt .f64 qa, .flt .f64 qb, .flt .f64 qc, .flt .f64 qd], .fn (.func 69) [] [.ptr 3 0, .ptr 4 0]],[(0,⟨false,150,U4 cl cw cv k 2 im cp x y z w 1 n,0⟩),(1,⟨false,100, .flts .f64 m1 g,0⟩),(2,⟨false,5, .ints .u8 m2 gB,0⟩),(3,⟨true,50, .cells [.slcc 5 ml],0⟩),(4,⟨false,2,a1c lim,0⟩),(5,⟨true,2, .ints .i64 m5 uu,1⟩)], .bool (if im=5 then((ml,uu),true)else rS gB qa qb qc qd (stG (fSR lim) g n qa qb qc qd) (gB 5).toNat 6 (ml,uu)).2,[(3,⟨true,50, .cells [.slcc 6 ((if im=5 then((ml,uu),true)else rS gB qa qb qc qd (stG (fSR lim) g n qa qb qc qd) (gB 5).toNat 6 (ml,uu)).1).1],0⟩),(5,⟨false,0, .cells [],0⟩)],[(6,⟨true,2, .ints .i64 ((if im=5 then((ml,uu),true)else rS gB qa qb qc qd (stG (fSR lim) g n qa qb qc qd) (gB 5).toNat 6 (ml,uu)).1).1 ((if im=5 then((ml,uu),true)else rS gB qa qb qc qd (stG (fSR lim) g n qa qb qc qd) (gB 5).toNat 6 (ml,uu)).1).2,1⟩)],some (dd=d/\m1=2*n/\m2=1*im/\m5=1*ml/\ad=5/\(l=im/\l<=c)/\a2K gB im/\(im=5∨(6<=im/\(0<=gB 5/\gB 5<=100)/\rOk gB im n (gB 5).toNat 6))/\n<=1000000/\SmF g (2*n)/\(((if im=5 then((ml,uu),true)else rS gB qa qb qc qd (stG (fSR lim) g n qa qb qc qd) (gB 5).toNat 6 (ml,uu))).1.1<=1000000))⟩
  | none=>.fail)
  | false=>.fail)
  | none=>.fail)
  | none=>.fail)
  | false=>.fail)
  | none=>.fail)
  | none=>.fail)
  | none=>.fail)
 | _=>.fail
theorem c3j(cl cw cv:Bool)(k:Int)(dd:Nm)(im cp:Nat)(x y z w:Nat)(_:Nm)(n:Nat)(l c:Nat)(ad:Int)(qa qb qc qd:Nat)(_:Nm)(ml:Nat)(lim:Int)(g:Nat->Nat)(gB:Nat->Int)(uu:Nat->Int){w9:HC}(e9:w9=⟨[.slc 2 0 l c, .int .i64 ad, .ptr 0 0, .agg [.flt .f64 qa, .flt .f64 qb, .flt .f64 qc, .flt .f64 qd], .fn (.func 69) [] [.ptr 3 0, .ptr 4 0]],[(0,⟨false,150,U4 cl cw cv k 2 im cp x y z w 1 n,0⟩),(1,⟨false,100, .flts .f64 (2
 * n) g,0⟩),(2,⟨false,5, .ints .u8 (1*im) gB,0⟩),(3,⟨true,50, .cells [.slcc 5 ml],0⟩),(4,⟨false,2,a1c lim,0⟩),(5,⟨true,2, .ints .i64 (1*ml) uu,1⟩)], .bool (if im=5 then((ml,uu),true)else rS gB qa qb qc qd (stG (fSR lim) g
 n qa qb qc qd) (gB 5).toNat 6 (ml,uu)).2,[(3,⟨true,50, .cells [.slcc 6 ((if im=5 then((ml,uu),true)else rS gB qa qb qc qd (stG (fSR lim) g n qa qb qc qd) (gB 5).toNat 6 (ml,uu)).1).1],0⟩),(5,⟨false,0, .cells [],0⟩)],[(6,⟨true,2,
 .ints .i64 ((if im=5 then((ml,uu),true)else rS gB qa qb qc qd (stG (fSR lim) g n qa qb qc qd) (gB 5).toNat 6 (ml,uu)).1).1 ((if im=5 then((ml,uu),true)else rS gB qa qb qc qd (stG (fSR lim) g n qa qb qc qd) (gB 5).toNat 6 (ml,uu)).1).2,
 1⟩)],some (dd=dd/\2*n=2*n/\1*im=1*im/\1*ml=1*ml/\ad=5/\(l=im/\l<=c)/\a2K gB im/\(im=5∨(6<=im/\(0<=gB 5/\gB 5<=100)/\rOk gB im n (gB 5).toNat 6))/\n<=1000000/\SmF g (2*n)/\(((if im=5 then((ml,
 uu),true)else rS gB qa qb qc qd (stG (fSR lim) g n qa qb qc qd) (gB 5).toNat 6 (ml,uu))).1.1<=1000000))⟩){T1}(t1:T1=(if im=5 then((ml,uu),true)else rS gB qa qb qc qd (stG (fSR lim) g n qa qb qc qd) (toNat (gB 5)) 6 (ml,uu)))
 {T2}(t2:T2=(rS gB qa qb qc qd (stG (fSR lim) g n qa qb qc qd) (toNat (wrap .i64 (gB (0+toNat ad*1)))) (toNat (wrap .i64 (ad+(1:Int)))) (ml,uu))) {T3}(t3:T3=(gB (0+toNat ad*1))):J3 c3q 6 [] [] (p9 f177) (A6 f177.ntmps w9.args w9.heap 6) (A8 c3q.E.T f177.results.toList λS v=>D5 6 w9 S v)=(
 ((ad==(↑l:Int))=true->T1.2=true/\True/\(50=50/\0=0/\(True/\ml=(T1.1).1)/\True)/\True/\(0<=1*ml/\∀(i:Nat),i<0->False)/\True/\(2=2/\1=1/\(T1.1).1<=1*ml/\∀(i:Nat),i<(T1.1).1->uu i=(T1.1).2 i)/\
 True)/\((ad==(↑l:Int))=false->(((0:Int)<=ad/\ad<(↑l:Int))/\1<=1*im)/\0+toNat ad*1+1<=1*im/\(2=2/\2*n=2*n/\1*im=1*im/\1*ml=1*ml/\((0:Int)<=wrap .i64 T3/\wrap .i64 T3<(200
 : Int)/\wrap .i64 T3<(1000:Int))/\((0:Int)<=wrap .i64 (ad+(1:Int))/\l=im/\l<=c)/\a2K gB im/\rOk gB im n (toNat (wrap .i64 T3)) (toNat (wrap .i64 (ad+(1:Int))))/\n<=1000000/\SmF g (2
 * n)/\(T2.1).1<=1000000)/\T2.2=T1.2/\True/\(50=50/\0=0/\(True/\(T2.1).1=(T1.1).1)/\True)/\True/\True/\True/\(2=2/\1=1/\(T1.1).1<=(T2.1).1/\∀(i:Nat),i<(T1.1).1->(T2.1).2 i=(T1.1).2 i)/\True)):=by subst e9 t1 t2 t3;kernel_rfl
theorem rcZ:C4 prog 177 (B3 c2o):=by
 refine A5 c7j func177 rfl (by kernel_rfl) λargs=>?_
 unfold c2o;split;rotate_left;trivial;rename_i d l c ad s qa qb qc qd p1 a1;intro o0;try dsimp only
 split;rotate_left;trivial;rename_i cl cw cv k dd im cp x y z w p n hm0;intro o1;try dsimp only
 split;rotate_left;trivial;rename_i m1 g hm1;intro o2;try dsimp only
 split;rotate_left;trivial;rename_i m2 gB hm2;intro o3;try dsimp only
 split;rotate_left;trivial;rename_i hrw3;try dsimp only
 split;rotate_left;trivial;rename_i r1 ml hm3;intro o4;try dsimp only
 split;rotate_left;trivial;rename_i lim hm4;intro o5;try dsimp only
 split;rotate_left;trivial;rename_i hrw5;try dsimp only
 split;rotate_left;trivial;rename_i m5 uu hm5;intro(ho:dd=d/\m1=2*n/\m2=1*im/\m5=1*ml/\ad=5/\(l=im/\l<=c)/\a2K gB im/\(im=5∨(6<=im/\(0<=gB 5/\gB 5<=100)/\rOk gB im n (gB 5).toNat 6))/\n<=1000000/\SmF g (2*n)/\(((if im=5 then((ml,uu),true)else rS gB qa qb qc qd (stG (fSR lim) g n qa qb qc qd) (gB 5).toNat 6 (ml,uu))).1.1<=1000000));obtain⟨heq0,hsz1,hsz2,hsz5,ho⟩:=ho;subst heq0 hsz1;subst hsz2 hsz5;refine⟨?_,_,_,(c3j cl cw cv k dd im cp x y z w p n l c ad qa qb qc qd r1 ml lim g gB uu rfl rfl rfl rfl).mpr ?_⟩
 ·refine j8 rfl ⟨?_,⟨trivial,a0x hm0 g9 g9,⟨trivial,(C6 hm1).1,⟨trivial,(y6 hm2).1,⟨trivial,Q6 hrw3 (a1k hm3 g9),⟨trivial,a1i hm4,⟨trivial,Q6 hrw5 ((y6 hm5).1),trivial⟩⟩⟩⟩⟩⟩⟩;simp[q9,z5,A0,C0,z8,z3,nth,g9]
 ·obtain⟨had,⟨hlm,hlc⟩,hby,hcase,hn,hg,hob⟩:=ho;subst had hlm;simp only[true_and,and_true,eq_self,Nat.mul_one,Int.reduceLE];refine⟨λh=>?_,λh=>?_⟩
  ·have h:(5:Int)=l:=by simpa using h
   have e:l=5:=by omega
   rw[if_pos e];exact⟨rfl,(by and_intros <;> first|exact rfl|exact Nat.le_refl _|exact Nat.le_of_eq (Nat.one_mul _).symm|exact λ_ _=>rfl|exact Nat.zero_le _|exact λ_ h=>absurd h (Nat.not_lt_zero _))⟩
  ·have h:¬(5:Int)=l:=by simpa using h
   rcases hcase with h5|⟨h6,⟨h7,h7'⟩,h8⟩
   ·omega
   have e0:0+(5:Int).toNat*1=5:=by decide
   have e1:IntKind.i64.wrap ((5:Int)+1)=6:=by decide
   have e2:IntKind.i64.wrap (gB 5)=gB 5:=j5 (by omega) (by omega);have e3:(6:Int).toNat=6:=rfl;simp only[e1,e3,Nat.zero_add];rw[if_neg (by omega)];rw[if_neg (by omega)]at hob;have e5:toNat 5=5:=rfl;rw[e5,e2];exact⟨⟨by omega,by omega⟩,by omega,⟨⟨by omega,by omega,by omega⟩,⟨by omega,hlc⟩,hby,h8,hn,hg,hob⟩,rfl,(by and_intros <;> first|exact rfl|exact Nat.le_refl _|exact Nat.le_of_eq (Nat.one_mul _).symm|exact λ_ _=>rfl|exact Nat.zero_le _|exact λ_ h=>absurd h (Nat.not_lt_zero _))⟩
def c2F:Ctx:=⟨⟨tys,[]⟩,[(176,B3 a7V),(177,B3 c2o),(178,B3 (b0r 17))]⟩
theorem c5F:B7 prog c2F:=⟨⟨E1,FlatsOk.nil⟩,j9.cons b8F (j9.cons rcZ (j9.cons (b5O 17) j9.nil)),by kernel_rfl⟩
def c2a:Ctx:=⟨⟨tys,[]⟩,[(111,B3 b2o),(112,B3 b0Q),(113,z4 a2P),(175,z4 a6X),(69,B3 b5P)]⟩
theorem c7I:B7 prog c2a:=⟨⟨E1,FlatsOk.nil⟩,j9.cons c3H (j9.cons c2V (j9.cons (.pure b0h) (j9.cons (.pure b6V) (j9.cons apZ j9.nil)))),by kernel_rfl⟩
def hsZ(S:a9)(n im:Nat)(g:Nat->Nat)(gB:Nat->Int)(lim:Int)(s:LsT):A1:=[(0,⟨false,150,S,0⟩),(1,⟨false,100, .flts .f64 (2*n) g,0⟩),(2,⟨true,5, .ints .u8 (1*im) gB,1⟩),(3,⟨true,50, .cells [.slcc 6 (s).1],0⟩),(4,⟨false,2,a1c lim,0⟩),(5,⟨false,0, .cells [],0⟩),(6,⟨true,2, .ints .i64 (s).1 (s).2,1⟩)]
def c7m(cl cw cv:Bool)(k:Int)(x y z w n im:Nat)(g:Nat->Nat)(gB:Nat->Int)(lim:Int)(ml:Nat)(uu:Nat->Int)(qa qb qc qd:Nat):Fam:=⟨Nat,λj =>
 ⟨69,[(0, .ptr 0 0),(2, .fn (.func 69) [] [.ptr 3 0, .ptr 4 0]),(4, .ptr 7 0),(7, .int .i64 (nsg cl n (wz g):Nat)),(8, .int .i64 j)],hsZ (a0c cl cw cv k x y z w 1 n) n im g gB lim ((flN (stG (fSR lim) g n qa qb qc qd) j (ml,uu)).1)++[(7,⟨true,102, .cells (qC qa qb qc qd),0⟩)],8⟩,λj=>j<=nsg cl n (wz g)/\(flN (stG (fSR lim) g n qa qb qc qd) j (ml,uu)).2=true,λj=>nsg cl n (wz g)-j⟩
def c3k:List SV->RdM
 | [.ptr s 0, .agg [.flt .f64 qa, .flt .f64 qb, .flt .f64 qc, .flt .f64 qd], .fn (.func 69) [] [.ptr p1 0, .ptr a1 0]]=>.read s λo0=>(match b7A o0.c with
  | some (cl,cw,cv,k,ib,dd,im,x,y,z,w,p,n)=>.read p λo1=>(match A9 .f64 o1.c with
  | some (m1,g)=>.read dd λo2=>(match a2t o2 5 1 with
  | true=>(match y7 .u8 o2.c with
  | some (m2,gB)=>.read p1 λo3=>(match a2t o3 50 0 with
  | true=>(match slU o3.c with
  | some (r1,ml)=>.read a1 λo4=>(match bxI o4.c with
  | some lim=>.read r1 λo5=>(match a2t o5 2 1 with
  | true=>(match y7 .i64 o5.c with
  | some (m5,uu)=>.ret ⟨[.ptr 0 0, .agg [.flt .f64 qa, .flt .f64 qb, .flt .f64 qc, .flt .f64 qd], .fn (.func 69) [] [.ptr 3 0, .ptr 4 0]],[(0,⟨false,150,a8t cl cw cv k ib 2 im x y z w 1 n,0⟩),(1,⟨false,100, .flts .f64 m1 g,0⟩),(2,⟨true,5, .ints .u8 m2 gB,1⟩),(3,⟨true,50, .cells [.slcc 5 ml],0⟩),(4,⟨false,2,a1c lim,0⟩),(5,⟨true,2, .ints .i64 m5 uu,1⟩)], .tup [],[(2,⟨true,5, .ints .u8 (1*im) gB,1⟩),(3,⟨true,50, .cells [.slcc 6 ((srG ib k im gB ⟨x,y,z,w⟩ (nsg cl n (wz g)) (fSR lim) g n qa qb qc qd (ml,uu)).1).1],0⟩),(5,⟨false,0, .cells [],0⟩)],[(6,⟨true,2, .ints .i64 ((srG ib k im gB ⟨x,y,z,w⟩ (nsg cl n (wz g)) (fSR lim) g n qa qb qc qd (ml,uu)).1).1 ((srG ib k im gB ⟨x,y,z,w⟩ (nsg cl n (wz g)) (fSR lim) g n qa qb qc qd (ml,uu)).1).2,1⟩)],some (m1=2*n/\m2=1*im/\m5=1*ml/\n<=1000000/\SmF g (2*n)/\((srG ib k im gB ⟨x,y,z,w⟩ (nsg cl n (wz g)) (fSR lim) g n qa qb qc qd (ml,uu)).1.1<=1000000)/\ixP ib (nsg cl n (wz g)) k n g ⟨x,y,z,w⟩ (im,gB)/\(ib=true->(k=1∨k=2)/\(k=2->QB 16 ⟨x,y,z,w⟩/\a1f ⟨x,y,z,w⟩)))⟩
  | none=>.fail)
  | false=>.fail)
  | none=>.fail)
  | none=>.fail)
  | false=>.fail)
  | none=>.fail)
  | false=>.fail)
  | none=>.fail)
  | none=>.fail)
 | _=>.fail
theorem b8T(cl cw cv:Bool)(k:Int)(ib:Bool)(_:Nm)(im:Nat)(x y z w:Nat)(_:Nm)(n:Nat)(qa qb qc qd:Nat)(_:Nm)(ml:Nat)(lim:Int)(g:Nat->Nat)(gB:Nat->Int)(uu:Nat->Int)(cp:Nat){T1}(t1:T1=(srG ib k im gB (Q4.mk x y z w) (nsg cl n (wz g)) (fSR lim) g n qa qb qc qd (ml,uu))){T2}(t2:T2=((if im=5 then((ml,uu),true)else rS gB qa qb qc qd (stG (fSR lim) g n qa qb qc qd) (toNat (gB 5)) 6 (ml,uu)).1)){T3}(t3:T3=(if cp =
 1 then 0 else 1)){T4}(t4:T4=((qS gB qa qb qc qd (stG (fSR lim) g n qa qb qc qd) 16 5 (Q4.mk x y z w) (ml,uu)).1)){T5}(t5:T5=(5=5/\1=1/\1*im<=1*im/\∀ (i:Nat),i<1*im->gB i=gB i)){T6}(t6:T6=(leN gB T3 4)):J3 c2F 6 [] [] (p9 f172) (A6 f172.ntmps [.ptr 0 0, .agg [.flt .f64 qa, .flt .f64 qb, .flt .f64 qc, .flt .f64 qd], .fn (.func 69) [] [.ptr 3 0, .ptr 4 0]] ([(0,⟨false,150,U4 cl cw cv k 2 im cp x y z w 1 n,0⟩),(1,⟨false,100, .flts .f64 (2*n) g,0⟩),(2,⟨true,5, .ints .u8 (1*im) gB,1⟩),(3,⟨true,50, .cells [.slcc 5 ml],0⟩),(4,⟨false,2,a1c lim,0⟩),(5,⟨true,2, .ints .i64 (1*ml) uu,1⟩)]) 6) (A8 c2F.E.T f172.results.toList λS v=>D5 6 ⟨[.ptr 0 0, .agg [.flt .f64 qa, .flt .f64 qb, .flt .f64 qc, .flt .f64 qd], .fn (.func 69) [] [.ptr 3 0, .ptr 4 0]],[(0,⟨false,150,a8t cl cw cv k ib 2 im x y z w 1 n,0⟩),(1,⟨false,100, .flts .f64 (2*n) g,0⟩),(2,⟨true,5, .ints .u8 (1*im) gB,1⟩),(3,⟨true,50, .cells [.slcc 5 ml],0⟩),(4,⟨false,2,a1c lim,0⟩),(5,⟨true,2, .ints .i64 (1*ml) uu,1⟩)], .tup [],[(2,⟨true,5, .ints .u8 (1*im) gB,1⟩),(3,⟨true,50, .cells [.slcc 6 ((srG ib k im gB ⟨x,y,z,w⟩ (nsg cl n (wz g)) (fSR lim) g n qa qb qc qd (ml,uu)).1).1],0⟩),(5,⟨false,0, .cells [],0⟩)],[(6,⟨true,2, .ints .i64 ((srG ib k im gB ⟨x,y,z,w⟩ (nsg cl n (wz g)) (fSR lim) g n qa qb qc qd (ml,uu)).1).1 ((srG ib k im gB ⟨x,y,z,w⟩ (nsg cl n (wz g)) (fSR lim) g n qa qb qc qd (ml,uu)).1).2,1⟩)],some (2*n=2*n/\1*im=1*im/\1*ml=1*ml/\n<=1000000/\SmF g (2*n)/\((srG ib k im gB ⟨x,y,z,w⟩ (nsg cl n (wz g)) (fSR lim) g n qa qb qc qd (ml,uu)).1.1<=1000000)/\ixP ib (nsg cl n (wz g)) k n g ⟨x,y,z,w⟩ (im,gB)/\(ib=true->(k=1∨k=2)/\(k=2->QB 16 ⟨x,y,z,w⟩/\a1f ⟨x,y,z,w⟩)))⟩ S v)=(
 ((True/\cp<=cp)/\(True/\im<=im)/\(0:Int)<=1/\1<=im)/\(4<=im-1/\T3+4<=1*im/\∀(j:Nat),j<4->(0:Int)<=gB (T3+j)/\gB (T3+j)<(256:Int))/\true=true/\(((0:Int)<=leN gB T3 4/\toNat T6<=cp)/\((0:Int)<=
 leN gB T3 4/\toNat T6<=toNat T6)/\True/\0<=toNat T6)/\(((0:Int)<=0/\0<(↑(toNat T6-0):Int))/\1<=1*im)/\0+0+1<=1*im/\((gB (0+0)==(1:Int))=true->(2=2/\2*n=2*n/\1*im=1*im/\1*ml=1
 * ml/\(5:Int)=5/\(toNat T6-0=im/\toNat T6-0<=toNat T6-0)/\a2K gB im/\(im=5∨6<=im/\((0:Int)<=gB 5/\gB 5<=(100:Int))/\rOk gB im n (toNat (gB 5)) 6)/\n<=1000000/\SmF g (2*n)/\T2.1<=1000000)/\True
 /\True/\T5/\True/\(50=50/\0=0/\(True/\T2.1=(Prod.fst T1).1)/\True)/\True/\True/\True/\(2=2/\1=1/\(T1.1).1<=T2.1/\∀(i:Nat),i<(T1.1).1->T2.2 i=(T1.1).2 i)/\True)/\((gB (0+0)==(1:Int))=false->((gB (0+0) ==
 (2:Int))=true->(2=2/\2*n=2*n/\1*im=1*im/\1*ml=1*ml/\0<17/\((0:Int)<=5/\toNat T6-0=im/\toNat T6-0<=toNat T6-0)/\a2K gB im/\qOk gB im n 16 5 (Q4.mk x y z w)/\n<=1000000/\SmF g (2*n)/\
 T4.1<=1000000)/\true=true/\True/\True/\T5/\True/\(50=50/\0=0/\(True/\T4.1=(T1.1).1)/\True)/\True/\True/\True/\(2=2/\1=1/\(T1.1).1<=T4.1/\∀(i:Nat),i<Prod.fst (T1.1)->T4.2 i=(T1.1).2 i)/\True)/\((gB (0+0) ==
 (2:Int))=false->True/\True/\T5/\True/\(50=50/\0=0/\(True/\ml=(T1.1).1)/\True)/\True/\(0<=1*ml/\∀(i:Nat),i<0->False)/\True/\(2=2/\1=1/\(Prod.fst T1).1<=1*ml/\∀(i:Nat),i<(Prod.fst T1).1->uu i =
 (T1.1).2 i)/\True))):=by subst t1 t2 t3 t4 t5 t6;kernel_rfl
theorem b9B(cl cw cv:Bool)(k:Int)(ib:Bool)(_:Nm)(im:Nat)(x y z w:Nat)(_:Nm)(n:Nat)(qa qb qc qd:Nat)(_:Nm)(ml:Nat)(lim:Int)(g:Nat->Nat)(gB:Nat->Int)(uu:Nat->Int){T1}(t1:T1=λ(i:Nat)=>(flN (stG (fSR lim) g n qa qb qc qd) i (ml,uu))){T2}(t2:T2=((srG ib k im gB (Q4.mk x y z w) (nsg cl n (wz g)) (fSR lim) g n qa qb qc qd (ml,uu)).1)){T3}(t3:T3=λ(i:Nat)=>(!fGt .f64 (I2 (g (2*toNat (↑i:Int)+1))
 (g (2*nx n (toNat (↑i:Int))+1))) qd && !fLt .f64 (H8 (g (2*toNat (↑i:Int)+1)) (g (2*nx n (toNat (↑i:Int))+1))) qb && !fGt .f64 (I2 (g (2*toNat (↑i:Int))) (g (2*nx n (toNat (↑i:Int))))) qc && !fLt
 .f64 (H8 (g (2*toNat (↑i:Int))) (g (2*nx n (toNat (↑i:Int))))) qa)){T4}(t4:T4=λ(i':Nat)=>(flN (stG (fSR lim) g n qa qb qc qd) i' (ml,uu))){T5}(t5:T5=λ(i:Nat)=>(5=5/\1=1/\1*im<=1*im/\∀ (i:Nat),i<1*im->gB i
 = gB i)){T6}(t6:T6=(cl=cl/\cw=cw/\cv=cv/\k=k/\True/\x=x/\y=y/\z=z/\w=w/\(True/\n=n)/\True)){T7}(t7:T7=λ(i:Nat) (i':Nat)=>((True/\0=0)/\(Go.Fn.func 69=Go.Fn.func 69/\True/\(True/\0=0)/\(True/\0=0)/\
 True)/\(True/\0=0)/\(↑(nsg cl n (wz g)):Int)=(↑(nsg cl n (wz g)):Int)/\wrap .i64 ((↑i:Int)+1)=(↑i':Int)/\True)){T8}(t8:T8=λ(i:Nat)=>(((T1 i).1).1,((T1 i).1).2)){T9}(t9:T9=(102=102/\0=0/\qa=qa/\qb=qb/\qc =
 qc/\qd=qd/\True)){T10}(t10:T10=λ(i:Nat)=>(2*n<=2*n/\∀ (i:Nat),i<2*n->g i=g i)){T11}(t11:T11=(↑(nsg cl n (wz g)):Int)):J3 c2a 6 [(5,c7m cl cw cv k x y z w n im g gB lim ml uu qa qb qc qd)] [] (p9 f172) (A6 f172.ntmps [.ptr 0 0, .agg [.flt .f64 qa, .flt .f64 qb, .flt .f64 qc, .flt .f64 qd], .fn (.func 69) [] [.ptr 3 0, .ptr 4 0]] ([(0,⟨false,150,a0c cl cw cv k x y z w 1 n,0⟩),(1,⟨false,100, .flts .f64 (2*n) g,0⟩),(2,⟨true,5, .ints .u8 (1*im) gB,1⟩),(3,⟨true,50, .cells [.slcc 5 ml],0⟩),(4,⟨false,2,a1c lim,0⟩),(5,⟨true,2, .ints .i64 (1*ml) uu,1⟩)]) 6) (A8 c2a.E.T f172.results.toList λS v=>D5 6 ⟨[.ptr 0 0, .agg [.flt .f64 qa, .flt .f64 qb, .flt .f64 qc, .flt .f64 qd], .fn (.func 69) [] [.ptr 3 0, .ptr 4 0]],[(0,⟨false,150,a8t cl cw cv k ib 2 im x y z w 1 n,0⟩),(1,⟨false,100, .flts .f64 (2*n) g,0⟩),(2,⟨true,5, .ints .u8 (1*im) gB,1⟩),(3,⟨true,50, .cells [.slcc 5 ml],0⟩),(4,⟨false,2,a1c lim,0⟩),(5,⟨true,2, .ints .i64 (1*ml) uu,1⟩)], .tup [],[(2,⟨true,5, .ints .u8 (1*im) gB,1⟩),(3,⟨true,50, .cells [.slcc 6 ((srG ib k im gB ⟨x,y,z,w⟩ (nsg cl n (wz g)) (fSR lim) g n qa qb qc qd (ml,uu)).1).1],0⟩),(5,⟨false,0, .cells [],0⟩)],[(6,⟨true,2, .ints .i64 ((srG ib k im gB ⟨x,y,z,w⟩ (nsg cl n (wz g)) (fSR lim) g n qa qb qc qd (ml,uu)).1).1 ((srG ib k im gB ⟨x,y,z,w⟩ (nsg cl n (wz g)) (fSR lim) g n qa qb qc qd (ml,uu)).1).2,1⟩)],some (2*n=2*n/\1*im=1*im/\1*ml=1*ml/\n<=1000000/\SmF g (2*n)/\((srG ib k im gB ⟨x,y,z,w⟩ (nsg cl n (wz g)) (fSR lim) g n qa qb qc qd (ml,uu)).1.1<=1000000)/\ixP ib (nsg cl n (wz g)) k n g ⟨x,y,z,w⟩ (im,gB)/\(ib=true->(k=1∨k=2)/\(k=2->QB 16 ⟨x,y,z,w⟩/\a1f ⟨x,y,z,w⟩)))⟩ S v)=(
 (2*n=2*n/\n<=1000000/\SmF g (2*n))/\(∃(i:Nat),(i<=nsg cl n (wz g)/\(T1 i).2=true)/\((True/\0=0)/\(Go.Fn.func 69=Go.Fn.func 69/\True/\(True/\0=0)/\(True/\0=0)/\True)/\(True/\0=0)/\T11=T11/\0=(↑i:Int)/\
 True)/\True/\T6/\True/\(T10 i)/\True/\(T5 i)/\True/\(50=50/\0=0/\(True/\ml=((T1 i).1).1)/\True)/\True/\(lim=lim/\True)/\True/\(0<=1*ml/\∀(i:Nat),i<0->False)/\True/\(2=2/\1=1/\((T1 i).1).1<=1*ml/\∀ (i_1
 : Nat),i_1<((T1 i).1).1->uu i_1=((T1 i).1).2 i_1)/\True/\T9/\True)/\∀(i:Nat),i<=nsg cl n (wz g)/\(T1 i).2=true->(decide ((↑i:Int)<T11)=true->(2*n=2*n/\0<=(↑i:Int)/\(↑i:Int)<(↑n:Int)/\n<=1000000)/\true =
 true/\((T3 i)=true->((Prod.fst (T1 i)).1=1*((T1 i).1).1/\(0:Int)<=(↑i:Int)/\(T8 i).1+1<=1000000)/\((!decide ((↑((T8 i).1):Int)+1<lim))=true->True/\True/\(T5 i)/\True/\(50=50/\0=0/\(True/\(((T1 i).1).1,(Prod.fst
 (T1 i)).2).1+1=T2.1)/\True)/\True/\True/\True/\(2=2/\1=1/\T2.1<=(T8 i).1+1/\∀(i_1:Nat),i_1<T2.1->z7 ((T8 i).1) ((T8 i).2) [(↑(toNat (↑i:Int)):Int)] (0:Int) i_1=T2.2 i_1)/\True)/\((!decide ((↑((T8 i).1):Int)
 + 1<lim))=false->∃(i':Nat),(i'<=nsg cl n (wz g)/\(T4 i').2=true)/\nsg cl n (wz g)-i'<nsg cl n (wz g)-i/\(T7 i i')/\True/\T6/\True/\(T10 i)/\True/\(T5 i)/\True/\(50=50/\0=0/\(True/\(((T1 i).1).1,Prod.snd ((T1
 i).1)).1+1=((T4 i').1).1)/\True)/\True/\(lim=lim/\True)/\True/\True/\True/\(2=2/\1=1/\((T4 i').1).1<=Prod.fst (T8 i)+1/\∀(i_1:Nat),i_1<((T4 i').1).1->z7 ((T8 i).1) ((T8 i).2) [(↑(toNat (↑i:Int)):Int)] (0 :
 Int) i_1=((T4 i').1).2 i_1)/\True/\T9/\True))/\((T3 i)=false->∃(i':Nat),(i'<=nsg cl n (wz g)/\Prod.snd (T4 i')=true)/\nsg cl n (wz g)-i'<nsg cl n (wz g)-i/\(T7 i i')/\True/\T6/\True/\(T10 i)/\True/\(T5 i)/\True/\(50 =
 50/\0=0/\(True/\((T1 i).1).1=((T4 i').1).1)/\True)/\True/\(lim=lim/\True)/\True/\True/\True/\(2=2/\1=1/\((T4 i').1).1<=((T1 i).1).1/\∀(i_1:Nat),i_1<((T4 i').1).1->((T1 i).1).2 i_1=((T4 i').1).2 i_1)/\True/\T9/\
 True))/\(decide ((↑i:Int)<T11)=false->True/\True/\(T5 i)/\True/\(50=50/\0=0/\(True/\((T1 i).1).1=T2.1)/\True)/\True/\True/\True/\(2=2/\1=1/\T2.1<=((T1 i).1).1/\∀(i_1:Nat),i_1<T2.1->(Prod.fst (T1 i)).2 i_1 =
 T2.2 i_1)/\True)):=by subst t1 t2 t3 t4 t5 t6 t7 t8 t9 t10 t11;kernel_rfl
theorem srZ:C4 prog 172 (B3 c3k):=by
 refine b4M c5F func172 rfl (by kernel_rfl) λargs=>?_
 unfold c3k;split;rotate_left;trivial;rename_i s qa qb qc qd p1 a1;intro o0;try dsimp only
 split;rotate_left;trivial;rename_i cl cw cv k ib dd im x y z w p n hm0;intro o1;try dsimp only
 split;rotate_left;trivial;rename_i m1 g hm1;intro o2;try dsimp only
 split;rotate_left;trivial;rename_i hrw2;try dsimp only
 split;rotate_left;trivial;rename_i m2 gB hm2;intro o3;try dsimp only
 split;rotate_left;trivial;rename_i hrw3;try dsimp only
 split;rotate_left;trivial;rename_i r1 ml hm3;intro o4;try dsimp only
 split;rotate_left;trivial;rename_i lim hm4;intro o5;try dsimp only
 split;rotate_left;trivial;rename_i hrw5;try dsimp only
 split;rotate_left;trivial;rename_i m5 uu hm5;intro(ho:m1=2*n/\m2=1*im/\m5=1*ml/\n<=1000000/\SmF g (2*n)/\((srG ib k im gB ⟨x,y,z,w⟩ (nsg cl n (wz g)) (fSR lim) g n qa qb qc qd (ml,uu)).1.1<=1000000)/\ixP ib (nsg cl n (wz g)) k n g ⟨x,y,z,w⟩ (im,gB)/\(ib=true->(k=1∨k=2)/\(k=2->QB 16 ⟨x,y,z,w⟩/\a1f ⟨x,y,z,w⟩)));obtain⟨hsz1,hsz2,hsz5,ho⟩:=ho;subst hsz1 hsz2 hsz5;refine⟨?_,?_⟩
 ·refine j8 rfl ⟨?_,⟨trivial,b2P hm0 g9 g9,⟨trivial,(C6 hm1).1,⟨trivial,Q6 hrw2 ((y6 hm2).1),⟨trivial,Q6 hrw3 (a1k hm3 g9),⟨trivial,a1i hm4,⟨trivial,Q6 hrw5 ((y6 hm5).1),trivial⟩⟩⟩⟩⟩⟩⟩;simp[q9,z5,C0,z8,z3,nth,g9]
 ·obtain⟨hn,hg,hob,hix,hk⟩:=ho;have hnl:=b3r cl n (wz g);have hO:=c1Z hg.fl2 hnl hix hk
  cases ib with
  | true =>
   have hb5:=hix.1 rfl;obtain⟨⟨h5,h6⟩,hby⟩:=hb5.1;have hgk:=hb5.2.1;have hlen:=hb5.2.2.1;dsimp only at h5 h6 hby hgk hlen;refine Wp.pre λW0 Fr ρ a wd hS=>?_
   have ho2:W4 wd ρ ⟨true,5, .ints .u8 (1*im) gB,1⟩ (ρ 2):=hS.h.obj 2 _ rfl
   obtain⟨b2,o2,c2,hρ⟩:∃ b2 o2 c2,ρ 2=some (b2,o2,c2):=by
    cases hρ:ρ 2 with
    | none =>
     rw[hρ]at ho2;have:1*im=0:=ho2;omega
    | some p=>exact⟨p.1,p.2.1,p.2.2,rfl⟩
   rw[hρ]at ho2;obtain⟨_,k2,k3⟩:=ho2;have k3:c2<=maxLen:=k3 (by show 0<1*im;omega);obtain⟨_,arr,_,k4,k5,_⟩:=k2 rfl;have k4:1*im<=arr.size:=k4;have k5:arr.size=c2*1:=k5 (show 0<1 by decide)
   have hcap:ρ.cap 2=c2:=by
    unfold Rho.cap;rw[hρ];exact Rho.cp_le k3
   have hadr:ρ.addr 2 0=ρ.addrC 2:=by
    unfold Rho.addr Rho.addrC;rw[hρ];show some (⟨b2,o2+0,none⟩:Addr)=some ⟨b2,o2,Rho.sp c2⟩;rw[Rho.sp_le k3,Nat.add_zero]
   refine⟨A6 f172.ntmps [.ptr 0 0, .agg [.flt .f64 qa, .flt .f64 qb, .flt .f64 qc, .flt .f64 qd], .fn (.func 69) [] [.ptr 3 0, .ptr 4 0]] ([(0,⟨false,150,U4 cl cw cv k 2 im (ρ.cap 2) x y z w 1 n,0⟩),(1,⟨false,100, .flts .f64 (2*n) g,0⟩),(2,⟨true,5, .ints .u8 (1*im) gB,1⟩),(3,⟨true,50, .cells [.slcc 5 ml],0⟩),(4,⟨false,2,a1c lim,0⟩),(5,⟨true,2, .ints .i64 (1*ml) uu,1⟩)]) 6,⟨?_,hS.s⟩,rfl,a0E c5F _ ((b8T cl cw cv k true dd im x y z w p n qa qb qc qd r1 ml lim g gB uu (ρ.cap 2) rfl rfl rfl rfl rfl rfl).mpr ?_)⟩
   ·have hbd:=hS.h.bd 0 _ rfl;refine hS.h.first rfl (λi hi=>?_) (λi hi=>?_) rfl
    ·have hi:i<10:=hi
     match i,hi with
     | 0,_=>rfl
     | 1,_=>rfl
     | 2,_=>rfl
     | 3,_=>rfl
     | 4,_ =>
      show Value.iface 185 (.slice (ρ.addr 2 0) im (ρ.cap 2))=.iface 185 (.slice (ρ.addrC 2) im (ρ.cap 2));rw[hadr]
     | 5,_=>rfl
     | 6,_=>rfl
     | 7,_=>rfl
     | 8,_=>rfl
     | 9,_=>rfl
    ·have hi:i<10:=hi
     match i,hi with
     | 0,_=>exact hbd 0 hi
     | 1,_=>exact hbd 1 hi
     | 2,_=>exact hbd 2 hi
     | 3,_=>exact hbd 3 hi
     | 4,_=>exact hbd 4 hi
     | 5,_=>exact hbd 5 hi
     | 6,_=>exact hbd 6 hi
     | 7,_=>exact hbd 7 hi
     | 8,_=>exact hbd 8 hi
     | 9,_=>exact hbd 9 hi
   ·rw[hcap];have hne:¬c2=1:=by omega
    rw[if_neg hne,hlen];simp only[tN9,Nat.sub_zero,Nat.zero_add,Nat.one_mul];rw[hgk];simp only[true_and,and_true,implies_true,Int.reduceLE,Int.le_refl];have hbk:a2K gB im:=⟨h6,hby⟩;refine⟨⟨Nat.le_refl _,Nat.le_refl _,by omega⟩,⟨by omega,by omega,λj hj=>hby _ (by omega)⟩,⟨⟨by omega,by omega⟩,⟨by omega,Nat.le_refl _⟩,Nat.zero_le _⟩,⟨by omega,by omega⟩,by omega,λh1=>?_,λh1=>⟨λh2=>?_,λh2=>?_⟩⟩
    ·have h1:k=1:=by simpa using h1
     subst h1;obtain⟨c1,c3⟩:=hO.1 rfl rfl
     have hcs:im=5∨(6<=im/\(0<=gB 5/\gB 5<=100)/\rOk gB im n (gB 5).toNat 6):=by
      by_cases h0:nsg cl n (wz g)=0
      ·exact .inl (c1 h0)
      ·exact .inr (c3 h0)
     have ev:srG true 1 im gB ⟨x,y,z,w⟩ (nsg cl n (wz g)) (fSR lim) g n qa qb qc qd (ml,uu)=(if im=5 then((ml,uu),true)else rS gB qa qb qc qd (stG (fSR lim) g n qa qb qc qd) (gB 5).toNat 6 (ml,uu)):=by
      unfold srG;rw[if_pos rfl,if_pos rfl]
     rw[ev];rw[ev]at hob;exact⟨⟨Nat.le_refl _,hbk,hcs,hn,hg,hob⟩,Nat.le_refl _,(by and_intros <;> first|exact rfl|exact Nat.le_refl _|exact Nat.le_of_eq (Nat.one_mul _).symm|exact λ_ _=>rfl|exact Nat.zero_le _|exact λ_ h=>absurd h (Nat.not_lt_zero _))⟩
    ·have h2:k=2:=by simpa using h2
     subst h2
     have ev:srG true 2 im gB ⟨x,y,z,w⟩ (nsg cl n (wz g)) (fSR lim) g n qa qb qc qd (ml,uu)=qS gB qa qb qc qd (stG (fSR lim) g n qa qb qc qd) 16 5 ⟨x,y,z,w⟩ (ml,uu):=by
      unfold srG;rw[if_pos rfl,if_neg (by decide)]
     rw[ev];rw[ev]at hob;exact⟨⟨by decide,Nat.le_refl _,hbk,hO.2 rfl rfl,hn,hg,hob⟩,Nat.le_refl _,(by and_intros <;> first|exact rfl|exact Nat.le_refl _|exact Nat.le_of_eq (Nat.one_mul _).symm|exact λ_ _=>rfl|exact Nat.zero_le _|exact λ_ h=>absurd h (Nat.not_lt_zero _))⟩
    ·exfalso;have h1:¬k=1:=by simpa using h1
     have h2:¬k=2:=by simpa using h2
     rcases (hk rfl).1 with e|e
     ·exact h1 e
     ·exact h2 e
  | false =>
   refine Wp.pre λW0 Fr ρ a wd hS=>?_
   refine⟨A6 f172.ntmps [.ptr 0 0, .agg [.flt .f64 qa, .flt .f64 qb, .flt .f64 qc, .flt .f64 qd], .fn (.func 69) [] [.ptr 3 0, .ptr 4 0]] ([(0,⟨false,150,a0c cl cw cv k x y z w 1 n,0⟩),(1,⟨false,100, .flts .f64 (2*n) g,0⟩),(2,⟨true,5, .ints .u8 (1*im) gB,1⟩),(3,⟨true,50, .cells [.slcc 5 ml],0⟩),(4,⟨false,2,a1c lim,0⟩),(5,⟨true,2, .ints .i64 (1*ml) uu,1⟩)]) 6,⟨?_,hS.s⟩,rfl,a0E c7I _ ((b9B cl cw cv k false dd im x y z w p n qa qb qc qd r1 ml lim g gB uu rfl rfl rfl rfl rfl rfl rfl rfl rfl rfl rfl).mpr ?_)⟩
   ·have hbd:=hS.h.bd 0 _ rfl;refine hS.h.first rfl (λi hi=>?_) (λi hi=>?_) rfl
    ·have hi:i<10:=hi
     match i,hi with
     | 0,_=>rfl
     | 1,_=>rfl
     | 2,_=>rfl
     | 3,_=>rfl
     | 4,_=>rfl
     | 5,_=>rfl
     | 6,_=>rfl
     | 7,_=>rfl
     | 8,_=>rfl
     | 9,_=>rfl
    ·have hi:i<10:=hi
     match i,hi with
     | 0,_=>exact hbd 0 hi
     | 1,_=>exact hbd 1 hi
     | 2,_=>exact hbd 2 hi
     | 3,_=>exact hbd 3 hi
     | 4,_=>exact trivial
     | 5,_=>exact hbd 5 hi
     | 6,_=>exact hbd 6 hi
     | 7,_=>exact hbd 7 hi
     | 8,_=>exact hbd 8 hi
     | 9,_=>exact hbd 9 hi
   ·simp only[true_and,and_true,eq_self,tN9,decide_eq_true_eq,decide_eq_false_iff_not,implies_true]
    have ev:srG false k im gB ⟨x,y,z,w⟩ (nsg cl n (wz g)) (fSR lim) g n qa qb qc qd (ml,uu)=flN (stG (fSR lim) g n qa qb qc qd) (nsg cl n (wz g)) (ml,uu):=by
     unfold srG;rw[if_neg (by decide)]
    rw[ev];rw[ev]at hob;clear hix hk hO ev;generalize nsg cl n (wz g)=mm at *;refine⟨⟨hn,hg⟩,⟨0,⟨Nat.zero_le _,rfl⟩,rfl,Nat.le_refl _,Nat.le_refl _,(by and_intros <;> first|exact rfl|exact Nat.le_refl _|exact Nat.le_of_eq (Nat.one_mul _).symm|exact λ_ _=>rfl|exact Nat.zero_le _|exact λ_ h=>absurd h (Nat.not_lt_zero _))⟩,λi hi=>?_⟩;obtain⟨i1,i3⟩:=hi;have es:flN (stG (fSR lim) g n qa qb qc qd) (i+1) (ml,uu)=stG (fSR lim) g n qa qb qc qd i (flN (stG (fSR lim) g n qa qb qc qd) i (ml,uu)).1:=a6r i3;refine⟨λhlt=>?_,λhge=>?_⟩
    ·have hlt:i<mm:=by omega
     have hnx:=a5W (show i<n by omega);have em:(!fGt .f64 (I2 (g (2*i+1)) (g (2*nx n i+1))) qd && !fLt .f64 (H8 (g (2*i+1)) (g (2*nx n i+1))) qb && !fGt .f64 (I2 (g (2*i)) (g (2*nx n i))) qc && !fLt .f64 (H8 (g (2*i)) (g (2*nx n i))) qa)=mtF g n qa qb qc qd i:=rfl;rw[em];have wi:IntKind.i64.wrap ((i:Int)+1)=((i+1:Nat):Int):=by rw[j5 (by omega) (by omega)];rfl
     rw[wi];refine⟨⟨by omega,by omega,hn⟩,λhm=>⟨⟨by omega,by omega,a5Y hm es (λ_=>rfl) (Nat.le_trans (a0h (a1P lim g n qa qb qc qd) _ hlt) hob)⟩,λho=>?_,λho=>?_⟩,λhm=>?_⟩
     ·have E:sgF (fSR lim) g n i (flN (stG (fSR lim) g n qa qb qc qd) i (ml,uu)).1=flN (stG (fSR lim) g n qa qb qc qd) (i+1) (ml,uu):=(a0C hm _).symm.trans es.symm
      have ho:(sgF (fSR lim) g n i (flN (stG (fSR lim) g n qa qb qc qd) i (ml,uu)).1).2=false:=by
       rw[Bool.not_eq_true']at ho;exact ho
      have e3:flN (stG (fSR lim) g n qa qb qc qd) mm (ml,uu)=flN (stG (fSR lim) g n qa qb qc qd) (i+1) (ml,uu):=a0p (by rw[<-E];exact ho) (by omega);rw[e3,<-E];exact⟨Nat.le_refl _,(by and_intros <;> first|exact rfl|exact Nat.le_refl _|exact Nat.le_of_eq (Nat.one_mul _).symm|exact λ_ _=>rfl|exact Nat.zero_le _|exact λ_ h=>absurd h (Nat.not_lt_zero _))⟩
     ·have E:sgF (fSR lim) g n i (flN (stG (fSR lim) g n qa qb qc qd) i (ml,uu)).1=flN (stG (fSR lim) g n qa qb qc qd) (i+1) (ml,uu):=(a0C hm _).symm.trans es.symm
      have ho:(sgF (fSR lim) g n i (flN (stG (fSR lim) g n qa qb qc qd) i (ml,uu)).1).2=true:=by
       rw[Bool.not_eq_false']at ho;exact ho
      exact⟨i+1,⟨by omega,by rw[<-E];exact ho⟩,by omega,rfl,Nat.le_refl _,Nat.le_refl _,congrArg (λz=>z.1.1) E,Nat.le_of_eq (congrArg (λz=>z.1.1) E).symm,λj _=>congrFun (congrArg (λz=>z.1.2) E) j⟩
     ·have E:((flN (stG (fSR lim) g n qa qb qc qd) i (ml,uu)).1,true)=flN (stG (fSR lim) g n qa qb qc qd) (i+1) (ml,uu):=(W6 hm _).symm.trans es.symm;exact⟨i+1,⟨by omega,by rw[<-E]⟩,by omega,rfl,Nat.le_refl _,Nat.le_refl _,congrArg (λz=>z.1.1) E,Nat.le_of_eq (congrArg (λz=>z.1.1) E).symm,λj _=>congrFun (congrArg (λz=>z.1.2) E) j⟩
    ·have e:i=mm:=by omega
     subst e;exact⟨Nat.le_refl _,(by and_intros <;> first|exact rfl|exact Nat.le_refl _|exact Nat.le_of_eq (Nat.one_mul _).symm|exact λ_ _=>rfl|exact Nat.zero_le _|exact λ_ h=>absurd h (Nat.not_lt_zero _))⟩
end
def a0z(g:Nat->Int)(len:Nat)(p q r s:Int)(i:Nat):Bool :=
 decide (mn (λj=>I0 g len (4*i+j)) 0 2<=r/\p<=mx (λj=>I0 g len (4*i+j)) 0 2/\mn (λj=>I0 g len (4*i+j)) 1 2<=s/\q<=mx (λj=>I0 g len (4*i+j)) 1 2)
theorem c2x{g:Nat->Int}{len:Nat}{cl:Bool}(h:PS g len){i:Nat}(hi:i<j7 len cl g){a b c d:Int}(ha:y9 a)(hb:y9 b)(hc:y9 c)(hd:y9 d) :
  mtF (fI g) len (ofI .f64 a) (ofI .f64 b) (ofI .f64 c) (ofI .f64 d) i=a0z g len a b c d i:=by
 obtain⟨h0,h1,h2,h3,h4⟩:=h.seg hi;have hn:=a5W h0;have f:∀ j,j<2*len->FI (fI g j) (g j):=λj hj=>fi (h.2 j hj)
 unfold mtF a0z mn mn mn mx mx mx a0Q a6B
 rw[a1b (b6W (f (2*i+1) (by omega)) (f (2*nx len i+1) (by omega))) (fi hd),Z5 (b5W (f (2*i+1) (by omega)) (f (2*nx len i+1) (by omega))) (fi hb),
  a1b (b6W (f (2*i) (by omega)) (f (2*nx len i) (by omega))) (fi hc),Z5 (b5W (f (2*i) (by omega)) (f (2*nx len i) (by omega))) (fi ha)]
 simp only[Nat.mul_zero,Nat.zero_add,Nat.add_zero,Nat.mul_one,h1,h2,h3,h4,Nat.reduceAdd];rw[Bool.eq_iff_iff];simp only[bA9,Bool.not_eq_true',decide_eq_false_iff_not,decide_eq_true_eq];omega
theorem a5T{p:Nat->Bool}{F:Nat->LsT->LsT×Bool}{lim:Int}(hT:∀ x s,p x=true->F x s=((s.1+1,z7 s.1 s.2 [(x:Int)] 0),decide ((s.1:Int)+1<lim)))(hF:∀ x s,p x=false->F x s=(s,true)) :
  ∀(L:List Nat)(s:LsT),(∀ x,x∈L->p x=p x)->(s.1:Int)<lim->(flS F L s).1.1=min (s.1+(L.filter p).length) lim.toNat/\∀ j,j<(flS F L s).1.1->(flS F L s).1.2 j=if j<s.1 then s.2 j else(((L.filter p).getD (j-s.1) 0:Nat):Int)
 | [],s,_,hs=>by
  refine⟨?_,λj hj=>?_⟩
  ·show s.1=min (s.1+0) lim.toNat;omega
  ·rw[if_pos (show j<s.1 from hj)];rfl
 | x :: L,s,hp,hs=>by
  rw[N1]
  cases hx:p x with
  | false =>
   rw[hF x s hx,if_pos rfl,List.filter_cons_of_neg (by rw[hx];decide)];exact a5T hT hF L s (λ_ _=>rfl) hs
  | true =>
   rw[hT x s hx,List.filter_cons_of_pos hx];by_cases hl:(s.1:Int)+1<lim
   ·rw[if_pos (decide_eq_true hl)];obtain⟨h1,h2⟩:=a5T hT hF L (s.1+1,z7 s.1 s.2 [(x:Int)] 0) (λ_ _=>rfl) (by show ((s.1+1:Nat):Int)<lim;omega);refine⟨by rw[h1];simp only[List.length_cons];omega,λj hj=>?_⟩;rw[h2 j hj];dsimp only;by_cases h3:j<s.1
    ·rw[if_pos (by omega),if_pos h3];unfold z7;rw[if_pos h3]
    ·rw[if_neg h3];by_cases h4:j=s.1
     ·subst h4;rw[if_pos (by omega)];unfold z7;rw[if_neg (by omega),Nat.sub_self];rfl
     ·rw[if_neg (by omega),show j-s.1=(j-(s.1+1))+1 by omega,List.getD_cons_succ]
   ·rw[if_neg (by rw[decide_eq_true_eq];exact hl)];refine⟨by simp only[List.length_cons];omega,λj hj=>?_⟩;have hj:j<s.1+1:=hj;show z7 s.1 s.2 [(x:Int)] 0 j=_;unfold z7;by_cases h3:j<s.1
    ·rw[if_pos h3,if_pos h3]
    ·rw[if_neg h3,if_neg h3,show j-s.1=0 by omega];rfl
def a4N(g:Nat->Int)(len:Nat)(cl:Bool)(a b c d:Int):List Nat:=(List.range (j7 len cl g)).filter (a0z g len a b c d)
def H1(g:Nat->Int)(len:Nat)(cl:Bool)(km a b c d lim:Int)(R:LsT):Prop :=
 ∃ L:List Nat,L.Perm (a4N g len cl a b c d)/\(km=0->L=a4N g len cl a b c d)/\R.1=min L.length lim.toNat/\∀ j,j<R.1->R.2 j=((L.getD j 0:Nat):Int)
theorem b7u{g:Nat->Int}{len:Nat}{cl:Bool}(h:PS g len){km mm a b c d lim:Int}(hk:0<=km/\km<=2)(ha:y9 a)(hb:y9 b)(hc:y9 c)(hd:y9 d)(hl:1<=lim){r:Nat×(Nat->Int)}
  (hr:ixP (C2 len mm km) (nsg cl len (wz (fI g))) km len (fI g) (ppQ len cl (fI g)) r) (ho:a1f (ppQ len cl (fI g))) :
  ((C2 len mm km=true->(ixK len mm km=1∨ixK len mm km=2)/\(ixK len mm km=2->QB 16 (ppQ len cl (fI g))/\a1f (ppQ len cl (fI g))))/\ixP (C2 len mm km) (nsg cl len (wz (fI g))) (ixK len mm km) len (fI g) (ppQ len cl (fI g)) r)/\
  H1 g len cl km a b c d lim (srG (C2 len mm km) (ixK len mm km) r.1 r.2 (ppQ len cl (fI g)) (nsg cl len (wz (fI g))) (fSR lim) (fI g) len (ofI .f64 a) (ofI .f64 b) (ofI .f64 c) (ofI .f64 d) (0,λ_=>0)).1/\
  (srG (C2 len mm km) (ixK len mm km) r.1 r.2 (ppQ len cl (fI g)) (nsg cl len (wz (fI g))) (fSR lim) (fI g) len (ofI .f64 a) (ofI .f64 b) (ofI .f64 c) (ofI .f64 d) (0,λ_=>0)).1.1<=1000000:=by
 have hK:C2 len mm km=true->ixK len mm km=km/\(km=1∨km=2):=λhi=>by
  unfold C2 at hi;simp only[bA9,decide_eq_true_eq]at hi;unfold ixK;rw[if_pos hi.1];exact⟨rfl,by omega⟩
 have hk':C2 len mm km=true->(ixK len mm km=1∨ixK len mm km=2)/\(ixK len mm km=2->QB 16 (ppQ len cl (fI g))/\a1f (ppQ len cl (fI g))):=λhi =>
  ⟨by rw[(hK hi).1];exact(hK hi).2,λ_=>⟨((h.bix (cl:=cl) (k:=2) (.inr rfl)).2.2.2 rfl).1,ho⟩⟩
 have hix:ixP (C2 len mm km) (nsg cl len (wz (fI g))) (ixK len mm km) len (fI g) (ppQ len cl (fI g)) r:=⟨λhi=>by rw[(hK hi).1];exact hr.1 hi,hr.2⟩;refine⟨⟨hk',hix⟩,?_⟩;have hn:nsg cl len (wz (fI g))=j7 len cl g:=h.nsg cl;have hm:nsg cl len (wz (fI g))<=len:=by rw[hn];exact a0r _ _ _
 have w:=fun {x:Int} (hx:y9 x)=>(b5F hx).1.1.1
 obtain⟨L,h1,h2,h3⟩:=b6K h.fl2 hm hix hk' (MQ.fin (w ha) (w hb) (w hc) (w hd));rw[h3]
 have hmem:∀ x,x∈L->x<j7 len cl g:=λx hx=>by
  have:=h1.mem_iff.1 hx;rw[List.mem_range,hn]at this;exact this
 have hfl:L.filter (mtF (fI g) len (ofI .f64 a) (ofI .f64 b) (ofI .f64 c) (ofI .f64 d))=L.filter (a0z g len a b c d):=List.filter_congr λx hx=>c2x h (hmem x hx) ha hb hc hd
 obtain⟨t1,t2⟩:=a5T (p:=mtF (fI g) len (ofI .f64 a) (ofI .f64 b) (ofI .f64 c) (ofI .f64 d)) (F:=stG (fSR lim) (fI g) len (ofI .f64 a) (ofI .f64 b) (ofI .f64 c) (ofI .f64 d)) (lim:=lim)
  (λx s hx=>by rw[a0C hx];rfl) (λx s hx=>W6 hx s) L (0,λ_=>0) (λ_ _=>rfl) (by show ((0:Nat):Int)<lim;omega)
 rw[hfl]at t1 t2
 have hp:(L.filter (a0z g len a b c d)).Perm (a4N g len cl a b c d):=by
  unfold a4N;rw[<-hn];exact h1.filter _
 refine⟨⟨L.filter (a0z g len a b c d),hp,λh0=>?_,by rw[t1];simp,λj hj=>?_⟩,?_⟩
 ·have:C2 len mm km=false:=by
   subst h0;unfold C2;simp
  rw[h2 this,hn];rfl
 ·rw[t2 j hj,if_neg (Nat.not_lt_zero _),Nat.sub_zero]
 ·rw[t1];have h5:=hp.length_eq
  have h6:(a4N g len cl a b c d).length<=j7 len cl g:=by
   have:=List.length_filter_le (a0z g len a b c d) (List.range (j7 len cl g));rw[List.length_range]at this;exact this
  have h7:=a0r len cl g;have h8:=h.1;dsimp only;omega
end Go.Proofs.Tryz.Sx

namespace Go.Proofs.Tryz.Sx
open Go Go.Sx Go.Proofs Go.Fl Go.Geo
set_option maxRecDepth 100000
set_option maxHeartbeats 4000000
def aOf(f:Nat->SV)(i:Nat):Option Addr:=match f i with
 | .sla a _ _=>a
 | _=>none
def lOf(f:Nat->SV)(i:Nat):Nat:=match f i with
 | .sla _ l _=>l
 | _=>0
def cOf(f:Nat->SV)(i:Nat):Nat:=match f i with
 | .sla _ _ c=>c
 | _=>0
def slG(f:Nat->SV)(i:Nat):SV:=.sla (aOf f i) (lOf f i) (cOf f i)
theorem c8D(f:Nat->SV)(i:Nat):lOf (slG f) i=lOf f i:=rfl
end Go.Proofs.Tryz.Sx

namespace Go.Sx
open Go.RowKit
end Go.Sx
namespace Go.Sx
open Go.RowKit
end Go.Sx
namespace Go.Sx
open Go.RowKit
end Go.Sx

namespace Go.Proofs.Tryz.Sx
open Go Go.Sx Go.Proofs Go.Fl Go.Geo
set_option maxRecDepth 100000
set_option maxHeartbeats 4000000
set_option maxHeartbeats 1000000
set_option maxHeartbeats 4000000
set_option maxHeartbeats 1000000
theorem c7y:FE prog 23 [false,false] 2 :=
 W3 E1 (t:=23) (e0:=2) (e1:=2) underlying23 (by kernel_rfl) (by decide) (by decide) ⟨rfl,rfl⟩ ⟨rfl,rfl⟩ (by rfl) (by rfl) rfl rfl
theorem c2c:a1A prog 24 [false,false,false,false] :=
 (a7M E1 (t:=24) (e:=23) underlying24 (by rfl) rfl rfl c7y).flat (by kernel_rfl) (by decide)
def FM:Flats:=(24,[false,false,false,false]) :: FL
theorem c3m:FlatsOk prog FM:=FlatsOk.cons c2c c4g
theorem b6T{g:Nat->Int}{len:Nat}(h:PS g len)(cl:Bool):a1f (ppQ len cl (fI g)):=by
 unfold a1f ppQ pick;by_cases hb:l9 len cl=true
 ·simp only[hb,if_true];have l0:=(b5k h.whl (show 0<2 by decide) len (Nat.le_refl _)).1;have l1:=(b5k h.whl (show 1<2 by decide) len (Nat.le_refl _)).1;have h0:=(b7e h.whl (show 0<2 by decide) len (Nat.le_refl _)).1;have h1:=(b7e h.whl (show 1<2 by decide) len (Nat.le_refl _)).1;have hl:0<len:=by have:=a9H hb;omega
  exact⟨FI.V_le l0 h0 (Int.le_trans (a1Y (z:=g) (k:=0) hl) (a2Y (z:=g) (k:=0) hl)),FI.V_le l1 h1 (Int.le_trans (a1Y (z:=g) (k:=1) hl) (a2Y (z:=g) (k:=1) hl))⟩
 ·simp only[if_neg hb];exact⟨Int.le_refl _,Int.le_refl _⟩
noncomputable section
set_option maxHeartbeats 1000001
def GSI:Ctx:=⟨⟨tys,FM⟩,[(68,z4 a8I),(172,B3 c3k)]⟩
theorem gSI:B7 prog GSI:=⟨⟨E1,c3m⟩,j9.cons (.pure c3i) (j9.cons srZ j9.nil),by kernel_rfl⟩
def c2E:F3:=⟨GSI,[(67,o9 (Nat×(Nat->Int)) ⟨(0,λ_=>0)⟩ a6m)],[(1000000,0)],[],[]⟩
theorem c7U:A7 prog c2E:=⟨gSI,q8.cons b8u q8.nil⟩
def b2K:List SV->RRd (LsT)
 | [.slcc n len, .tt, .int .i64 km, .int .i64 mm, .agg [.int .i64 a, .int .i64 b, .int .i64 c, .int .i64 d], .int .i64 lim]=>.read n λo0=>(match y7 .i64 o0.c with
  | some (m0,g)=>.ret ⟨[.slcc 0 len, .tt, .int .i64 km, .int .i64 mm, .agg [.int .i64 a, .int .i64 b, .int .i64 c, .int .i64 d], .int .i64 lim],[(0,⟨false,23, .ints .i64 m0 g,0⟩)],some (m0=2*len/\(PS g len/\(0<=km/\km<=2)/\(y9 a/\y9 b/\y9 c/\y9 d)/\1<=lim)),λR=>(H1 g len true km a b c d lim R),λR=>⟨[],[], .slcc 1 R.1,[],[(1,⟨true,2, .ints .i64 R.1 R.2,1⟩)],none⟩⟩
  | none=>.fail)
 | _=>.fail
theorem b5S(len:Nat)(km mm a b c d lim:Int)(g:Nat->Int){T1}(t1:T1=(Q4.mk (pick (l9 len true) (rlo (fI g) 0 len)) (pick (l9 len true) (rlo (fI g) 1 len)) (pick (l9 len true) (rhi (fI g) 0 len)) (pick (l9 len true) (rhi (fI g) 1 len)))){T2}(t2:T2=(IntKind.wrap .u8 km)){T3}(t3:T3=(nsg true len
 (wz (fI g)))){T4}(t4:T4=(C2 len mm T2)){T5}(t5:T5=(ixK len mm T2)):K8 c2E 1 [] [(2,⟨Nat,λ_=>⟨27,[(0, .slcc 0 len),(1, .tt),(2, .int .i64 km),(3, .int .i64 mm),(10, .ptr 1 0),(11, .ptr 2 0),(13, .ptr 3 0)],[(0,⟨false,23, .ints .i64 (2*len) g,0⟩),(1,⟨false,24, .cells [.int .i64 a, .int .i64 b, .int .i64 c, .int .i64 d],0⟩),(2,⟨false,2, .cells [.int .i64 lim],0⟩),(3,⟨true,50, .cells [.slcc 4 0],0⟩),(4,⟨true,2, .ints .i64 0 (λ_=>0),1⟩)],5⟩,λ_=>True,λ_=>0⟩)] (p9 f33) (A6 f33.ntmps [.slcc 0 len, .tt, .int .i64 km, .int .i64 mm, .agg [.int .i64 a, .int .i64 b, .int .i64 c, .int .i64 d], .int .i64 lim] [(0,⟨false,23, .ints .i64 (2*len) g,0⟩)] 1) (A8 c2E.G.E.T f33.results.toList λS v=>∃ R:LsT,(H1 g len true km a b c d lim R)/\D5 1 ⟨[],[], .slcc 1 R.1,[],[(1,⟨true,2, .ints .i64 R.1 R.2,1⟩)],none⟩ S v)=(
 (∃(_:Nat),True/\((True/\len=len)/\True/\km=km/\mm=mm/\(True/\0=0)/\(True/\0=0)/\(True/\0=0)/\True)/\True/\(2*len<=2*len/\∀(i:Nat),i<2*len->g i=g i)/\True/\(a=a/\b=b/\c=c/\d=d/\True)/\True
 /\(lim=lim/\True)/\True/\(50=50/\0=0/\0=0/\True)/\True/\0=0/\True)/\∀(_:Nat),True->∀(i:Nat×(Nat->Int)),(2*len=2*len/\Y2 len true mm T2 (fI g))/\(ixP T4 T3 T2 len (fI g) (ppQ len true (fI g)) i->2*len=2 *
 len/\i.1=1*i.1/\0=0/\len<=1000000/\SmF (fI g) (2*len)/\((srG T4 T5 (i.1) (i.2) T1 T3 (fSR lim) (fI g) len (ofI .f64 a) (ofI .f64 b) (ofI .f64 c) (ofI .f64 d) (0,λ(_:Nat)=>(0:Int))).1).1<=1000000/\ixP T4 T3 T5 len (fI g) T1
 (i.1,i.2)/\(C2 len mm T2=true->(ixK len mm T2=(1:Int)∨ixK len mm T2=(2:Int))/\(ixK len mm T2=(2:Int)->QB 16 T1/\a1f T1)))/\true=true/\(ixP T4 T3 T2 len (fI g) (ppQ len true (fI g)) i->∃(pq:LsT),H1 g len true km a b
 c d lim pq/\(True/\(Prod.fst (srG T4 T5 (i.1) (i.2) T1 T3 (fSR lim) (fI g) len (ofI .f64 a) (ofI .f64 b) (ofI .f64 c) (ofI .f64 d) (0,λ(_:Nat)=>(0:Int)))).1=pq.1)/\True/\(2=2/\1=1/\pq.1<=((srG T4 T5 (i.1) (i.2) T1 T3 (fSR lim)
 (fI g) len (ofI .f64 a) (ofI .f64 b) (ofI .f64 c) (ofI .f64 d) (0,λ(_:Nat)=>(0:Int))).1).1/\∀(i_1:Nat),i_1<pq.1->((srG T4 T5 (i.1) (i.2) T1 T3 (fSR lim) (fI g) len (ofI .f64 a) (ofI .f64 b) (ofI .f64 c) (ofI .f64 d) (0,λ(_ :
 Nat)=>(0:Int))).1).2 i_1=pq.2 i_1)/\True)):=by subst t1 t2 t3 t4 t5;kernel_rfl
theorem c5M:z0 prog 33 (o9 (LsT) ⟨(0,λ_=>0)⟩ b2K):=by
 refine G7 c7U func33 rfl (by kernel_rfl) λargs=>?_
 unfold b2K;split;rotate_left;trivial;rename_i n len km mm a b c d lim;intro o0;try dsimp only
 split;rotate_left;trivial;rename_i m0 g hm0;intro(ho:m0=2*len/\(PS g len/\(0<=km/\km<=2)/\(y9 a/\y9 b/\y9 c/\y9 d)/\1<=lim));obtain⟨hsz0,ho⟩:=ho;subst hsz0;refine⟨?_,_,_,(b5S len km mm a b c d lim g rfl rfl rfl rfl rfl).mpr ?_⟩
 ·refine j8 rfl ⟨λ_=>rfl,?_,⟨trivial,(y6 hm0).1,trivial⟩⟩;simp[q9,z5,A0,z8,z3,nth,g9]
 ·obtain⟨hP,hk,⟨ha,hb,hc,hd⟩,hl⟩:=ho
  have h8:IntKind.u8.wrap km=km:=by
   show km % 256=km;omega
  have hM:Y2 len true mm km (fI g):=hP.mk hk;have hf:=λ(r:Nat×(Nat->Int)) hr=>b7u hP hk (mm:=mm) ha hb hc hd hl (r:=r) hr (b6T hP true)
  simp only[h8];simp only[true_and,and_true,eq_self,Nat.one_mul,Nat.le_refl,implies_true,true_implies,exists_const];refine λ_ R=>⟨hM,λhR=>?_,λhR=>?_⟩
  ·obtain⟨⟨f1,f2⟩,f3,f4⟩:=hf R hR;exact⟨by have:=hP.1;omega,λ_ hj=>hP.w1 hj,f4,f2,f1⟩
  ·obtain⟨_,f3,_⟩:=hf R hR;exact⟨_,f3,rfl,Nat.le_refl _,λ_ _=>rfl⟩
def c2d:F3:=⟨GSI,[(67,o9 (Nat×(Nat->Int)) ⟨(0,λ_=>0)⟩ a6o)],[(1000000,0)],[],[]⟩
theorem c7r:A7 prog c2d:=⟨gSI,q8.cons b8V q8.nil⟩
def b1I:List SV->RRd (LsT)
 | [.slcc n len, .ff, .int .i64 km, .int .i64 mm, .agg [.int .i64 a, .int .i64 b, .int .i64 c, .int .i64 d], .int .i64 lim]=>.read n λo0=>(match y7 .i64 o0.c with
  | some (m0,g)=>.ret ⟨[.slcc 0 len, .ff, .int .i64 km, .int .i64 mm, .agg [.int .i64 a, .int .i64 b, .int .i64 c, .int .i64 d], .int .i64 lim],[(0,⟨false,23, .ints .i64 m0 g,0⟩)],some (m0=2*len/\(PS g len/\(0<=km/\km<=2)/\(y9 a/\y9 b/\y9 c/\y9 d)/\1<=lim)),λR=>(H1 g len false km a b c d lim R),λR=>⟨[],[], .slcc 1 R.1,[],[(1,⟨true,2, .ints .i64 R.1 R.2,1⟩)],none⟩⟩
  | none=>.fail)
 | _=>.fail
theorem b6A(len:Nat)(km mm a b c d lim:Int)(g:Nat->Int){T1}(t1:T1=(Q4.mk (pick (l9 len false) (rlo (fI g) 0 len)) (pick (l9 len false) (rlo (fI g) 1 len)) (pick (l9 len false) (rhi (fI g) 0 len)) (pick (l9 len false) (rhi (fI g) 1 len)))){T2}(t2:T2=(IntKind.wrap .u8 km)){T3}(t3:T3=(nsg false
 len (wz (fI g)))){T4}(t4:T4=(C2 len mm T2)){T5}(t5:T5=(ixK len mm T2)):K8 c2d 1 [] [(2,⟨Nat,λ_=>⟨27,[(0, .slcc 0 len),(1, .ff),(2, .int .i64 km),(3, .int .i64 mm),(10, .ptr 1 0),(11, .ptr 2 0),(13, .ptr 3 0)],[(0,⟨false,23, .ints .i64 (2*len) g,0⟩),(1,⟨false,24, .cells [.int .i64 a, .int .i64 b, .int .i64 c, .int .i64 d],0⟩),(2,⟨false,2, .cells [.int .i64 lim],0⟩),(3,⟨true,50, .cells [.slcc 4 0],0⟩),(4,⟨true,2, .ints .i64 0 (λ_=>0),1⟩)],5⟩,λ_=>True,λ_=>0⟩)] (p9 f33) (A6 f33.ntmps [.slcc 0 len, .ff, .int .i64 km, .int .i64 mm, .agg [.int .i64 a, .int .i64 b, .int .i64 c, .int .i64 d], .int .i64 lim] [(0,⟨false,23, .ints .i64 (2*len) g,0⟩)] 1) (A8 c2d.G.E.T f33.results.toList λS v=>∃ R:LsT,(H1 g len false km a b c d lim R)/\D5 1 ⟨[],[], .slcc 1 R.1,[],[(1,⟨true,2, .ints .i64 R.1 R.2,1⟩)],none⟩ S v)=(
 (∃(_:Nat),True/\((True/\len=len)/\True/\km=km/\mm=mm/\(True/\0=0)/\(True/\0=0)/\(True/\0=0)/\True)/\True/\(2*len<=2*len/\∀(i:Nat),i<2*len->g i=g i)/\True/\(a=a/\b=b/\c=c/\d=d/\True)/\True
 /\(lim=lim/\True)/\True/\(50=50/\0=0/\0=0/\True)/\True/\0=0/\True)/\∀(_:Nat),True->∀(i:Nat×(Nat->Int)),(2*len=2*len/\Y2 len false mm T2 (fI g))/\(ixP T4 T3 T2 len (fI g) (ppQ len false (fI g)) i->2*len=2
 * len/\i.1=1*i.1/\0=0/\len<=1000000/\SmF (fI g) (2*len)/\((srG T4 T5 (i.1) (i.2) T1 T3 (fSR lim) (fI g) len (ofI .f64 a) (ofI .f64 b) (ofI .f64 c) (ofI .f64 d) (0,λ(_:Nat)=>(0:Int))).1).1<=1000000/\ixP T4 T3 T5 len (fI g) T1
 (i.1,i.2)/\(C2 len mm T2=true->(ixK len mm T2=(1:Int)∨ixK len mm T2=(2:Int))/\(ixK len mm T2=(2:Int)->QB 16 T1/\a1f T1)))/\true=true/\(ixP T4 T3 T2 len (fI g) (ppQ len false (fI g)) i->∃(pq:LsT),H1 g len false km a
 b c d lim pq/\(True/\(Prod.fst (srG T4 T5 (i.1) (i.2) T1 T3 (fSR lim) (fI g) len (ofI .f64 a) (ofI .f64 b) (ofI .f64 c) (ofI .f64 d) (0,λ(_:Nat)=>(0:Int)))).1=pq.1)/\True/\(2=2/\1=1/\pq.1<=((srG T4 T5 (i.1) (i.2) T1 T3 (fSR
 lim) (fI g) len (ofI .f64 a) (ofI .f64 b) (ofI .f64 c) (ofI .f64 d) (0,λ(_:Nat)=>(0:Int))).1).1/\∀(i_1:Nat),i_1<pq.1->((srG T4 T5 (i.1) (i.2) T1 T3 (fSR lim) (fI g) len (ofI .f64 a) (ofI .f64 b) (ofI .f64 c) (ofI .f64 d) (0,λ(_
 : Nat)=>(0:Int))).1).2 i_1=pq.2 i_1)/\True)):=by subst t1 t2 t3 t4 t5;kernel_rfl
theorem c5k:z0 prog 33 (o9 (LsT) ⟨(0,λ_=>0)⟩ b1I):=by
 refine G7 c7r func33 rfl (by kernel_rfl) λargs=>?_
 unfold b1I;split;rotate_left;trivial;rename_i n len km mm a b c d lim;intro o0;try dsimp only
 split;rotate_left;trivial;rename_i m0 g hm0;intro(ho:m0=2*len/\(PS g len/\(0<=km/\km<=2)/\(y9 a/\y9 b/\y9 c/\y9 d)/\1<=lim));obtain⟨hsz0,ho⟩:=ho;subst hsz0;refine⟨?_,_,_,(b6A len km mm a b c d lim g rfl rfl rfl rfl rfl).mpr ?_⟩
 ·refine j8 rfl ⟨λ_=>rfl,?_,⟨trivial,(y6 hm0).1,trivial⟩⟩;simp[q9,z5,A0,z8,z3,nth,g9]
 ·obtain⟨hP,hk,⟨ha,hb,hc,hd⟩,hl⟩:=ho
  have h8:IntKind.u8.wrap km=km:=by
   show km % 256=km;omega
  have hM:Y2 len false mm km (fI g):=hP.mk hk;have hf:=λ(r:Nat×(Nat->Int)) hr=>b7u hP hk (mm:=mm) ha hb hc hd hl (r:=r) hr (b6T hP false)
  simp only[h8];simp only[true_and,and_true,eq_self,Nat.one_mul,Nat.le_refl,implies_true,true_implies,exists_const];refine λ_ R=>⟨hM,λhR=>?_,λhR=>?_⟩
  ·obtain⟨⟨f1,f2⟩,f3,f4⟩:=hf R hR;exact⟨by have:=hP.1;omega,λ_ hj=>hP.w1 hj,f4,f2,f1⟩
  ·obtain⟨_,f3,_⟩:=hf R hR;exact⟨_,f3,rfl,Nat.le_refl _,λ_ _=>rfl⟩
end
end Go.Proofs.Tryz.Sx

namespace Go.Geo
end Go.Geo

namespace Go.Proofs.Tryz.Sx
open Go.Geo
section
variable {a1 a2 b1 b2 c1 c2 d1 d2:Int}
structure c4f (a1 a2 b1 b2 c1 c2 d1 d2 u w t:Int):Prop where
 sc:E7 a1 a2 b1 b2 c1 c2 = -u
 sd:E7 a1 a2 b1 b2 d1 d2=w-u
 pa:E7 c1 c2 d1 d2 a1 a2=t
 pb:E7 c1 c2 d1 d2 b1 b2=t-w
 m1:w*(a1-c1)+t*(b1-a1)=u*(d1-c1)
 m2:w*(a2-c2)+t*(b2-a2)=u*(d2-c2)
variable {u w t:Int} (H:c4f a1 a2 b1 b2 c1 c2 d1 d2 u w t)
include H
end
def c3Z(a b c d x y:Int):Prop:=a<=x/\x<=c/\b<=y/\y<=d
end Go.Proofs.Tryz.Sx

namespace Go.Proofs.Tryz.Sx
open Go Go.Sx Go.Proofs Go.Fl Go.Geo
set_option maxRecDepth 100000
instance (a b c d x y:Int):Decidable (c3Z a b c d x y):=by unfold c3Z;infer_instance
def a7j(g:Nat->Int)(len:Nat)(a b c d:Int)(i:Nat):List Nat:=(List.range i).filter (a0z g len a b c d)
def q7(g:Nat->Int)(len:Nat)(a b c d:Int)(i:Nat):Nat:=(a7j g len a b c d i).length
def D9(g:Nat->Int)(len:Nat)(a b c d:Int)(i:Nat):Nat->Int:=λj=>(((a7j g len a b c d i).getD j 0:Nat):Int)
def shO(g:Nat->Int)(len:Nat)(km a b c d lim:Int):Prop:=PS g len/\(0<=km/\km<=2)/\(y9 a/\y9 b/\y9 c/\y9 d)/\1<=lim
section
variable {g:Nat->Int} {len:Nat} {a b c d:Int}
theorem b0E{i:Nat}(h:a0z g len a b c d i=true):a7j g len a b c d (i+1)=a7j g len a b c d i++[i]:=by
 unfold a7j;rw[List.range_succ,List.filter_append,List.filter_cons_of_pos h];rfl
theorem b3A{i:Nat}(h:a0z g len a b c d i=false):a7j g len a b c d (i+1)=a7j g len a b c d i:=by
 unfold a7j;rw[List.range_succ,List.filter_append,List.filter_cons_of_neg (by rw[h];decide)];exact List.append_nil _
theorem a0l{i:Nat}(h:a0z g len a b c d i=true):q7 g len a b c d (i+1)=q7 g len a b c d i+1:=by
 unfold q7;rw[b0E h,List.length_append];rfl
theorem a5e{i:Nat}(h:a0z g len a b c d i=false):q7 g len a b c d (i+1)=q7 g len a b c d i:=by
 unfold q7;rw[b3A h]
theorem a5p(i:Nat):q7 g len a b c d i<=i:=by
 have:=List.length_filter_le (a0z g len a b c d) (List.range i);rw[List.length_range]at this;exact this
theorem b1h{i:Nat}(h:a0z g len a b c d i=true)(j:Nat)(hj:j<q7 g len a b c d i+1):z7 (q7 g len a b c d i) (D9 g len a b c d i) [(i:Int)] 0 j=D9 g len a b c d (i+1) j:=by
 unfold D9 z7;rw[b0E h];dsimp only;have e:q7 g len a b c d i=(a7j g len a b c d i).length:=rfl;by_cases h1:j<q7 g len a b c d i
 ·rw[if_pos h1];rw[e]at h1;rw[List.getD_eq_getElem?_getD,List.getD_eq_getElem?_getD,List.getElem?_append_left h1]
 ·rw[if_neg h1,show j-q7 g len a b c d i=0 by omega];rw[List.getD_eq_getElem?_getD,List.getD_eq_getElem?_getD,List.getElem?_append_right (by omega),show j-(a7j g len a b c d i).length=0 by omega];rfl
theorem b3v{i:Nat}(h:a0z g len a b c d i=false):D9 g len a b c d (i+1)=D9 g len a b c d i:=by
 unfold D9;rw[b3A h]
variable {cl:Bool} {km lim:Int} {R:LsT} (h:H1 g len cl km a b c d lim R)
include h
theorem a5d(hl:1<=lim):(R.1:Int)=a0Q (q7 g len a b c d (j7 len cl g):Nat) lim:=by
 obtain⟨L,h1,_,h3,_⟩:=h;have h4:L.length=q7 g len a b c d (j7 len cl g):=h1.length_eq;rw[h4]at h3;unfold a0Q;split <;> omega
theorem b3q{i:Nat}(hi:i<R.1):E9 (λj=>decide (D9 g len a b c d (j7 len cl g) j=R.2 i)) (q7 g len a b c d (j7 len cl g))=true:=by
 obtain⟨L,h1,_,h3,h4⟩:=h;have hL:i<L.length:=by omega
 have h5:L[i]∈a4N g len cl a b c d:=h1.mem_iff.1 (List.getElem_mem hL);obtain⟨j,hj,h6⟩:=List.mem_iff_getElem.1 h5;refine b2X (i:=j) hj (decide_eq_true ?_);rw[h4 i hi];unfold D9;show (((a4N g len cl a b c d).getD j 0:Nat):Int)=_;rw[List.getD_eq_getElem?_getD,List.getD_eq_getElem?_getD,List.getElem?_eq_getElem hj,List.getElem?_eq_getElem hL];exact congrArg _ h6
theorem b3K{i k:Nat}(hi:i<R.1)(hk:k<=i):E9 (λj=>decide (R.2 j=R.2 i)) k=false:=by
 obtain⟨L,h1,_,h3,h4⟩:=h;refine b0Z λj hj=>decide_eq_false λe=>?_
 have hL:i<L.length:=by omega
 have hJ:j<L.length:=by omega
 rw[h4 i hi,h4 j (by omega),List.getD_eq_getElem?_getD,List.getD_eq_getElem?_getD,List.getElem?_eq_getElem hJ,List.getElem?_eq_getElem hL]at e;have e:L[j]=L[i]:=Int.ofNat_inj.1 e;have hn:(a4N g len cl a b c d).Nodup:=List.Pairwise.filter _ List.nodup_range;have hn:L.Nodup:=h1.nodup_iff.2 hn;exact(List.pairwise_iff_getElem.1 hn) j i hJ hL (by omega) e
theorem a7I(h0:km=0){i:Nat}(hi:i<R.1):i<q7 g len a b c d (j7 len cl g)/\R.2 i=D9 g len a b c d (j7 len cl g) i:=by
 obtain⟨L,h1,h2,h3,h4⟩:=h;have h5:L.length=q7 g len a b c d (j7 len cl g):=h1.length_eq;refine⟨by omega,?_⟩;rw[h4 i hi,h2 h0];rfl
end
end Go.Proofs.Tryz.Sx
