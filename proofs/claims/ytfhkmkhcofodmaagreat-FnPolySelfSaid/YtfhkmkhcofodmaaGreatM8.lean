/- Parts of a proof, in order: what each says stands at its head. No conditions. -/
import Derived.Test.YtfhkmkhcofodmaaGreatM7
import Derived.Test.YtfhkmkhcofodmaaGreatM4
import Derived.Test.YtfhkmkhcofodmaaGreatM3
namespace Go.Proofs.Tryz.Sx
open Go Go.Sx Go.Proofs Go.Fl Go.Geo
set_option maxRecDepth 100000
structure EQ where
 a:Nat
 e:Nat
 its:List Nat
def c0B:Option EQ->List Nat
 | none=>[]
 | some k=>k.its
def qsz{α:Type}:Option α->Nat
 | none=>1
 | some _=>5
def L6{α:Type}(ks:List (Option α))(t:Nat):Nat:=((ks.take t).map qsz).sum
structure b2N (g:Nat->Int) (a w:Nat) (E:List Nat):Prop where
 hw:w=1∨w=2∨w=4
 hg:g a=(w:Nat)
 hn:leN g (a+1) w=(E.length:Nat)
 hi:∀(j x:Nat),E[j]? = some x->leN g (a+1+w+w*j) w=(x:Nat)
def a8N(g : Nat -> Int)(R : Nat -> Q4)(m : Nat) : Nat -> Nat -> Nat -> Q4 -> List Nat -> Prop
 | 0, a, e, Q, its => ∃ w, b2N g a w its /\ a + 2 + w + w * its.length <= e /\ g (a + 1 + w + w * its.length) = 0 /\ ∀ x ∈ its, a1W R m Q x
 | d + 1, a, e, Q, its => ∃(w : Nat)(E : List Nat)(ks : List (Option EQ)), b2N g a w E /\ its = E ++ ks.flatMap c0B /\ (∀ x ∈ E, a1W R m Q x) /\
     ((ks = [] /\ a + 2 + w + w * E.length <= e /\ g (a + 1 + w + w * E.length) = 0) ∨
      (ks.length = 4 /\ g (a + 1 + w + w * E.length) = 1 /\ a + 2 + w + w * E.length + L6 ks 4 <= e /\ (∀ t, ks[t]? = some none -> g (a + 2 + w + w * E.length + L6 ks t) = 0) /\
       ∀ t k, ks[t]? = some (some k) -> g (a + 2 + w + w * E.length + L6 ks t) = 1 /\ leN g (a + 2 + w + w * E.length + L6 ks t + 1) 4 = (k.a : Nat) /\
         a + 2 + w + w * E.length + L6 ks 4 <= k.a /\ k.e <= e /\ a8N g R m d k.a k.e (qbV Q (t : Int)) k.its))
theorem b2N.congr{g g':Nat->Int}{a w:Nat}{E:List Nat}(h:b2N g a w E)(hg:∀ p,a<=p->p<a+1+w+w*E.length->g' p=g p):b2N g' a w E where
 hw:=h.hw
 hg:=by rw[hg _ (by omega) (by omega)];exact h.hg
 hn:=by rw[L0 λi hi=>hg _ (by omega) (by omega)];exact h.hn
 hi:=λj x hj=>by
  have hlt:=(List.getElem?_eq_some_iff.1 hj).1;have hm:w*(j+1)<=w*E.length:=Nat.mul_le_mul_left w hlt;rw[Nat.mul_add,Nat.mul_one]at hm;rw[L0 λi hi=>hg _ (by omega) (by omega)];exact h.hi j x hj
theorem b3c{α:Type}:∀(ks:List (Option α))(t s:Nat),t<=s->L6 ks t<=L6 ks s
 | [],t,s,_=>by simp[L6]
 | o :: r,0,s,_=>by simp[L6]
 | o :: r,t+1,0,h=>absurd h (by omega)
 | o :: r,t+1,s+1,h=>by
  have:=b3c r t s (by omega);simp only[L6,List.take_succ_cons,List.map_cons,List.sum_cons]at *;omega
theorem a7K{α:Type}{ks:List (Option α)}{t:Nat}{o:Option α}(h:ks[t]? = some o):L6 ks (t+1)=L6 ks t+qsz o:=by
 unfold L6;rw[List.take_add_one,h];simp
theorem a2E{g g':Nat->Int}{R:Nat->Q4}{m:Nat}:∀ {d a e:Nat} {Q:Q4} {its:List Nat},a8N g R m d a e Q its->(∀ p,a<=p->p<e->g' p=g p)->a8N g' R m d a e Q its
 | 0,a,e,Q,its,⟨w,h1,h2,h3,h4⟩,hg=>⟨w,h1.congr λp p1 p2=>hg p p1 (by omega),h2,by rw[hg _ (by omega) (by omega)];exact h3,h4⟩
 | d+1,a,e,Q,its,⟨w,E,ks,h1,h2,h3,h4⟩,hg=>by
  have hlo:a+2+w+w*E.length<=e:=by
   rcases h4 with h4|h4
   ·exact h4.2.1
   ·have:=h4.2.2.1;omega
  refine⟨w,E,ks,h1.congr λp p1 p2=>hg p p1 (by omega),h2,h3,?_⟩;rcases h4 with⟨k1,k2,k3⟩|⟨k1,k2,k3,k4,k5⟩
  ·exact .inl ⟨k1,k2,by rw[hg _ (by omega) (by omega)];exact k3⟩
  ·have hsz:∀ {t:Nat} {o:Option EQ},ks[t]? = some o->L6 ks t+qsz o<=L6 ks 4:=fun {t o} ht=>by
    have:=(List.getElem?_eq_some_iff.1 ht).1;rw[<-a7K ht];exact b3c ks _ _ (by omega)
   refine .inr ⟨k1,by rw[hg _ (by omega) (by omega)];exact k2,k3,λt ht=>?_,λt k ht=>?_⟩
   ·have:=hsz ht;simp only[qsz]at this;rw[hg _ (by omega) (by omega)];exact k4 t ht
   ·have:=hsz ht;simp only[qsz]at this;obtain⟨l1,l2,l3,l4,l5⟩:=k5 t k ht;refine⟨by rw[hg _ (by omega) (by omega)];exact l1,by rw[L0 λi hi=>hg _ (by omega) (by omega)];exact l2,l3,l4,a2E l5 λp p1 p2=>hg p (by omega) (by omega)⟩
def qBy(d n:Nat):Nat:=26*(1+d*n)+4*n
def kBy(d:Nat):Option QK->Nat
 | none=>0
 | some x=>qBy d x.its.length
theorem a9r{d:Nat}:∀ {ks:List (Option QK)},(∀ x,some x∈ks->1<=x.its.length)->(ks.map (kBy d)).sum<=26*((d+1)*(ks.flatMap Q3).length)+4*(ks.flatMap Q3).length
 | [],_=>by simp
 | none :: r,h=>by
  have:=a9r (d:=d) (ks:=r) λx hx=>h x (List.mem_cons_of_mem _ hx)
  simpa [kBy,Q3]using this
 | some x :: r,h=>by
  have h1:=a9r (d:=d) (ks:=r) λx hx=>h x (List.mem_cons_of_mem _ hx)
  have h2:=h x (by simp);simp only[List.map_cons,List.sum_cons,List.flatMap_cons,List.length_append,kBy,Q3,qBy,Nat.mul_add,Nat.add_mul]at *;omega
theorem b0Y{d:Nat}{ks:List (Option QK)}(h:kne ks)(E:List Nat):26+4*E.length+(ks.map (kBy d)).sum<=qBy (d+1) (E++ks.flatMap Q3).length:=by
 have h1:=a9r (d:=d) (ks:=ks) λx hx=>by
  obtain⟨j,hj,e⟩:=List.getElem_of_mem hx;exact h j x (by rw[List.getElem?_eq_getElem hj,e])
 have h2:(d+1)*(ks.flatMap Q3).length<=(d+1)*(E++ks.flatMap Q3).length:=Nat.mul_le_mul_left _ (by simp);simp only[qBy,List.length_append]at *;omega
structure qmA (q:RM) (R:Nat->Q4) (m d b0:Nat) (Q:Q4) (k:QK) (b:Nat):Prop where
 t:isQT q R m d Q k
 kb:k.b=b0
 nd:k.fp.Nodup
 le:k.its.length<=1000
 bf:b∉k.fp
 lt:∀ x∈k.its,x<4294967296
def qnL(q:RM)(b0:Nat):Nat:=slL (q.F b0 1)
def qit(q:RM)(b0 t:Nat):Int:=q8 (q.F (slB (q.F b0 1)) (slC (q.F b0 1)+t))
def a4D(q:RM)(b0 t:Nat):Bool:=R8 (q.F b0 (2+t))
def qhI(q:RM)(b0:Nat)(w:Int)(j:Nat):List Int:=[w]++byL (qnL q b0:Nat) w.toNat++(List.range j).flatMap λt=>byL (qit q b0 t) w.toNat
def qfl(q:RM)(b0 t:Nat):List Int:=if a4D q b0 t=true then [0]else [1,0,0,0,0]
def qhF(q:RM)(b0:Nat)(w:Int)(j:Nat):List Int:=qhI q b0 w (qnL q b0)++[1]++(List.range j).flatMap (qfl q b0)
def qmP(q:RM)(b0:Nat)(Q:Q4)(b c l:Nat)(i:DI):Prop:=∀ R m d k,qmA q R m d b0 Q k b->l+qBy d k.its.length<=100000000->∃ us,apd q b c l us i/\us.length<=qBy d k.its.length/\a8N (bG i) R m d l i.l Q k.its
def qmO(q:RM)(b0:Nat)(Q:Q4)(b c l kk K:Nat):Prop:=byO q b c l kk/\∃ R m d k,qmA q R m d b0 Q k b/\l+qBy d k.its.length<=100000000/\d<K/\d<=16/\QB d Q
structure QC where
 i:DI
 j:Nat
 w:Int
 g:Nat->Int
def q1P(q:RM)(b0:Nat)(p:Nat×Int):Prop:=p.1<=qnL q b0/\wOk p.2/\nbI (qnL q b0:Nat)<=p.2/\∀ t,t<p.1->nbI (qit q b0 t)<=p.2
def q2P(q:RM)(b0 b c l:Nat)(p:C1):Prop:=apd q b c l (qhI q b0 p.w p.j) p.i/\q1P q b0 (qnL q b0,p.w)/\p.j<=qnL q b0
def q3M(q:RM)(b0 l:Nat)(w:Int)(j:Nat)(g:Nat->Int):Prop:=∀ t,t<j->a4D q b0 t=false->g t=((l+(qhF q b0 w t).length+1:Nat):Int)
def q3P(q:RM)(b0 b c l:Nat)(p:QC):Prop:=a0f (q.F b0 0)=true/\apd q b c l (qhF q b0 p.w p.j) p.i/\q1P q b0 (qnL q b0,p.w)/\p.j<=4/\q3M q b0 l p.w p.j p.g
def q4K(q:RM)(R:Nat->Q4)(m d b0:Nat)(Q:Q4)(b c l:Nat)(p:QC)(k:QK):Prop:=∃ us v E ks,apd q b c l us p.i/\qpN q R m d Q b0 true v E ks []/\kne ks/\k.its=E++ks.flatMap Q3/\k.fp=b0 :: (fpU v++ks.flatMap kfp)/\
 (∀ t,t<(qhI q b0 p.w (qnL q b0)++[1]).length->bG p.i (l+t)=(qhI q b0 p.w (qnL q b0)++[1]).getD t 0)/\
 (∀ t,t<4->bG p.i (l+(qhF q b0 p.w t).length)=if a4D q b0 t=true then 0 else 1)/\(qhF q b0 p.w 4).length<=us.length/\
 us.length<=26+4*E.length+((ks.take p.j).map (kBy d)).sum/\
 ∀ t x,t<p.j->ks[t]? = some (some x)->∃ a e,leN (bG p.i) (l+(qhF q b0 p.w t).length+1) 4=(a:Nat)/\l+(qhF q b0 p.w 4).length<=a/\e<=p.i.l/\a8N (bG p.i) R m d a e (qbV Q (t:Int)) x.its
def q4P(q:RM)(b0:Nat)(Q:Q4)(b c l:Nat)(p:QC):Prop:=a0f (q.F b0 0)=true/\q1P q b0 (qnL q b0,p.w)/\p.j<=4/\q3M q b0 l p.w 4 p.g/\
 ∀ R m d k,qmA q R m (d+1) b0 Q k b->l+qBy (d+1) k.its.length<=100000000->q4K q R m d b0 Q b c l p k
theorem apd.refl{q:RM}{b c l kk:Nat}(h:byO q b c l kk):apd q b c l [] ⟨q,b,c,l,kk⟩ where
 o:=h
 n:=by simp
 old:=λ_ _=>rfl
 new:=λj x hx=>by simp at hx
 keep:=λx hx=>⟨hx,rfl,λ_ _=>rfl⟩
 nw:=.inl rfl
section
variable {q:RM} {R:Nat->Q4} {m d b0 b c l:Nat} {Q:Q4} {k:QK}
theorem qmA.node(h:qmA q R m d b0 Q k b):∃ sp v E ks,qnA q b0 sp v E ks/\(∀ y∈fpU v,y∈k.fp)/\b0∈k.fp/\E.length<=k.its.length/\(∀ x∈E,x∈k.its/\a1W R m Q x)/\(sp=false->ks=nok/\k.its=E):=by
 have hb:=h.kb;subst hb
 cases d with
 | zero =>
  obtain⟨v,E,h1,h2,h3,h4⟩:=h.t;exact⟨_,v,E,_,h1,λy hy=>by rw[h2];exact List.mem_cons_of_mem _ hy,by rw[h2];simp,by rw[h3];exact Nat.le_refl _,λx hx=>⟨by rw[h3];exact hx,h4 x hx⟩,λ_=>⟨rfl,h3⟩⟩
 | succ d =>
  obtain⟨sp,v,E,ks,h1,h0,h2,h3,h4,h5,h6⟩:=h.t;refine⟨sp,v,E,ks,h1,λy hy=>by rw[h2];exact List.mem_cons_of_mem _ (List.mem_append_left _ hy),by rw[h2];simp,by rw[h3];simp,λx hx=>⟨by rw[h3];exact List.mem_append_left _ hx,h4 x hx⟩,λe=>⟨(h0 e).1,?_⟩⟩;rw[h3,(h0 e).1,a5Q];simp
theorem qmA.bne(h:qmA q R m d b0 Q k b):b0≠b:=λe=>by
 obtain⟨_,_,_,_,_,_,h1,_⟩:=h.node;exact h.bf (e▸h1)
theorem qmA.off(h:qmA q R m d b0 Q k b){us:List Int}{i:DI}(hp:apd q b c l us i):(i.q.D b0/\i.q.S b0=6)/\∀ y,i.q.F b0 y=q.F b0 y:=by
 obtain⟨sp,v,E,ks,h1,_⟩:=h.node;have h2:=hp.keep _ h1.D;exact⟨⟨h2.1,h2.2.1.trans h1.S⟩,h2.2.2 h.bne⟩
theorem qmA.sl(h:qmA q R m d b0 Q k b):isSlN (q.F b0 1)/\b0o (q.F b0 0)/\qnL q b0<=1000/\(∀ t,t<4->a3l (q.F b0 (2+t)))/\(q.D b0/\q.S b0=6):=by
 obtain⟨sp,v,E,ks,h1,h2,h3,h4,_⟩:=h.node;have h5:=h.le;refine⟨by rw[h1.s1];exact h1.u.sl,by rw[h1.s0];rfl,?_,λt ht=>?_,h1.D,h1.S⟩
 ·unfold qnL;rw[h1.s1,h1.u.n];omega
 ·obtain⟨o,_,h6⟩:=h1.kid ht;rw[h6];exact a3V o
theorem qmA.item(h:qmA q R m d b0 Q k b){us:List Int}{i:DI}(hp:apd q b c l us i){t:Nat}(ht:t<qnL q b0):isSl (q.F b0 1)/\(i.q.D (slB (q.F b0 1))/\slC (q.F b0 1)+t<i.q.S (slB (q.F b0 1)))/\
  i.q.F (slB (q.F b0 1)) (slC (q.F b0 1)+t)=.int .u32 (qit q b0 t)/\0<=qit q b0 t/\qit q b0 t<4294967296:=by
 obtain⟨sp,v,E,ks,h1,h2,h3,h4,h4b,_⟩:=h.node;have e1:=h1.s1;unfold qnL at ht;rw[e1]at ht;have hg:=List.getElem?_eq_getElem (by rw[<-h1.u.n];exact ht:t<E.length);have hpos:=h1.u.pos hg;obtain⟨d1,d2⟩:=h1.u.D hpos;have hne:slB v≠b:=λe=>h.bf (e▸h2 _ (a6h hpos))
 obtain⟨k1,k2,k3⟩:=hp.keep _ d1;have hc:=h1.u.c _ _ hg;have hle:=h1.u.le
 have hq:qit q b0 t=((E[t]'(by rw[<-h1.u.n];exact ht):Nat):Int):=by
  unfold qit;rw[e1,hc];rfl
 have hlt:=h.lt _ (h4b _ (List.mem_of_getElem? hg)).1;rw[e1,hq];refine⟨?_,⟨k1,by rw[k2];omega⟩,by rw[k3 hne];exact hc,by omega,by omega⟩;rcases h1.u.sl with e|e
 ·rw[e]at hpos;exact absurd hpos (by decide)
 ·exact e
theorem qmA.its(h:qmA q R m d b0 Q k b):∃ sp v E ks,qnA q b0 sp v E ks/\(∀ x∈E,x∈k.its/\a1W R m Q x)/\(sp=false->ks=nok/\k.its=E)/\qnL q b0=E.length/\∀(t x:Nat),E[t]? = some x->qit q b0 t=(x:Nat):=by
 obtain⟨sp,v,E,ks,h1,h2,h3,h4,h5,h6⟩:=h.node;refine⟨sp,v,E,ks,h1,h5,h6,by unfold qnL;rw[h1.s1,h1.u.n],λt x ht=>?_⟩;unfold qit;rw[h1.s1,h1.u.c _ _ ht];rfl
end
section
variable {q:RM} {b0:Nat} {w:Nat}
theorem R7(j:Nat):(qhI q b0 (w:Nat) j).length=1+w+w*j:=by
 have:=Y7 (f:=λt=>byL (qit q b0 t) w) (λt=>F9 _ _) j;simp only[qhI,List.length_append,F9,tN9,this,List.length_cons,List.length_nil]
theorem c6x(j:Nat):(qhI q b0 (w:Nat) j)[0]? = some (w:Int):=by simp[qhI]
theorem c6Y(j:Nat){s:Nat}(hs:s<w):(qhI q b0 (w:Nat) j)[1+s]? = some (byI (qnL q b0:Nat) s):=by
 unfold qhI;rw[List.append_assoc,List.getElem?_append_right (by simp),List.getElem?_append_left (by simp[F9,hs])];simp[byL,hs]
theorem c4V{j t s:Nat}(ht:t<j)(hs:s<w):(qhI q b0 (w:Nat) j)[1+w+(w*t+s)]? = some (byI (qit q b0 t) s):=by
 unfold qhI;rw[List.getElem?_append_right (by simp[F9];omega)];simp only[List.length_append,List.length_cons,List.length_nil,F9,tN9];rw[show 1+w+(w*t+s)-(0+1+w)=w*t+s by omega];rw[a5D (f:=λt=>byL (qit q b0 t) w) (λt=>F9 _ _) hs ht];simp[byL,hs]
theorem b5H(w:Int)(j:Nat):qhI q b0 w (j+1)=qhI q b0 w j++byL (qit q b0 j) w.toNat:=by
 unfold qhI;rw[List.range_succ,List.flatMap_append,<-List.append_assoc];simp
theorem b3P{v w:Int}(hw:wOk w)(h:nbI v<=w)(h0:0<=v)(h1:v<4294967296){g:Nat->Int}{p:Nat}(hg:∀ s,s<w.toNat->g (p+s)=byI v s):leN g p w.toNat=v:=by
 unfold nbI at h;rcases hw with e|e|e <;> subst e
 ·exact c1S hg h0 (by split at h <;> (try split at h) <;> omega)
 ·exact c1M hg h0 (by split at h <;> (try split at h) <;> omega)
 ·exact b1o hg h0 h1
theorem b3V{E:List Nat}{gB:Nat->Int}{l:Nat}(hb:∀ t,t<1+w+w*E.length->∀ x,(qhI q b0 (w:Nat) E.length)[t]? = some x->gB (l+t)=x)(hn:qnL q b0=E.length)(hq:q1P q b0 (qnL q b0,(w:Nat)))
  (hit:∀(t x:Nat),E[t]? = some x->qit q b0 t=(x:Nat)) (hl:E.length<4294967296) (hlt:∀ x∈E,x<4294967296):b2N gB l w E:=by
 obtain⟨_,q2,q3,q4⟩:=hq;dsimp only at q2 q3 q4;have hw:w=1∨w=2∨w=4:=by unfold wOk at q2;omega
 refine⟨hw,?_,?_,λj x hj=>?_⟩
 ·have:=hb 0 (by omega) _ (c6x _);simpa using this
 ·have:=b3P (g:=gB) (p:=l+1) q2 q3 (by omega) (by omega) λs hs=>by
   rw[tN9]at hs;rw[Nat.add_assoc];exact hb (1+s) (by have:=Nat.le_refl w;omega) _ (c6Y _ hs)
  rw[tN9,hn]at this;exact this
 ·have hjl:=(List.getElem?_eq_some_iff.1 hj).1;have hx:=hlt x (List.mem_of_getElem? hj);have e:=hit j x hj;have hm:w*(j+1)<=w*E.length:=Nat.mul_le_mul_left w hjl;rw[Nat.mul_add,Nat.mul_one]at hm
  have:=b3P (g:=gB) (p:=l+1+w+w*j) q2 (q4 j (by omega)) (by omega) (by omega) λs hs=>by
   rw[tN9]at hs;rw[show l+1+w+w*j+s=l+(1+w+(w*j+s)) by omega];exact hb _ (by omega) _ (c4V hjl hs)
  rw[tN9,e]at this;exact this
theorem a3y(t:Nat):(qfl q b0 t).length=if a4D q b0 t=true then 1 else 5:=by
 unfold qfl;split <;> rfl
theorem Y8(w:Int)(j:Nat):qhF q b0 w (j+1)=qhF q b0 w j++qfl q b0 j:=by
 unfold qhF;rw[List.range_succ,List.flatMap_append,<-List.append_assoc];simp
theorem a5L(w:Int):qhF q b0 w 0=qhI q b0 w (qnL q b0)++[1]:=by simp[qhF]
theorem a5m{ks:List (Option QK)}(h:∀ t o,ks[t]? = some o->a4D q b0 t=o.isNone)(hl:ks.length=4):∀ j,j<=4->(qhF q b0 (w:Nat) j).length=2+w+w*qnL q b0+L6 ks j
 | 0,_=>by rw[a5L,List.length_append,R7];simp[L6];omega
 | j+1,hj=>by
  have ih:=a5m h hl j (by omega);have hg:=List.getElem?_eq_getElem (by omega:j<ks.length);have h1:=h _ _ hg;rw[Y8,List.length_append,ih,a7K hg,a3y,h1];generalize ks[j]=o at *;cases o <;> simp[qsz] <;> omega
end
theorem b0r{P:Nat->QK->EQ->Prop}(hP:∀ t x e,P t x e->e.its=x.its):∀(ks:List (Option QK))(s:Nat),(∀(t:Nat)(x:QK),ks[t]? = some (some x)->∃ e,P (s+t) x e)->
  ∃ es:List (Option EQ),es.length=ks.length/\es.flatMap c0B=ks.flatMap Q3/\(∀ t,L6 es t=L6 ks t)/\(∀ t:Nat,es[t]? = some none->ks[t]? = some none)/\∀(t:Nat)(e:EQ),es[t]? = some (some e)->∃ x,ks[t]? = some (some x)/\P (s+t) x e
 | [],s,_=>⟨[],rfl,rfl,λt=>by simp[L6],λt h=>by simp at h,λt e h=>by simp at h⟩
 | o :: r,s,h=>by
  obtain⟨es,h1,h2,h3,h4,h5⟩:=b0r hP r (s+1) λt x ht=>by
   have:=h (t+1) x (by simpa using ht);rw[show s+1+t=s+(t+1) by omega];exact this
  cases o with
  | none =>
   refine⟨none :: es,by simp[h1],by simp[c0B,Q3,h2],λt=>?_,λt ht=>?_,λt e ht=>?_⟩
   ·cases t with
    | zero=>simp[L6]
    | succ t=>have:=h3 t;simp only[L6,List.take_succ_cons,List.map_cons,List.sum_cons,qsz]at *;omega
   ·cases t with
    | zero=>rfl
    | succ t=>simpa using h4 t (by simpa using ht)
   ·cases t with
    | zero=>simp at ht
    | succ t =>
     obtain⟨x,g1,g2⟩:=h5 t e (by simpa using ht);exact⟨x,by simpa using g1,by rw[show s+(t+1)=s+1+t by omega];exact g2⟩
  | some x =>
   obtain⟨e0,he0⟩:=h 0 x rfl;refine⟨some e0 :: es,by simp[h1],by simp[c0B,Q3,h2,hP _ _ _ he0],λt=>?_,λt ht=>?_,λt e ht=>?_⟩
   ·cases t with
    | zero=>simp[L6]
    | succ t=>have:=h3 t;simp only[L6,List.take_succ_cons,List.map_cons,List.sum_cons,qsz]at *;omega
   ·cases t with
    | zero=>simp at ht
    | succ t=>simpa using h4 t (by simpa using ht)
   ·cases t with
    | zero =>
     simp at ht;subst ht;exact⟨x,rfl,he0⟩
    | succ t =>
     obtain⟨y,g1,g2⟩:=h5 t e (by simpa using ht);exact⟨y,by simpa using g1,by rw[show s+(t+1)=s+1+t by omega];exact g2⟩
theorem wOk.nat{w:Int}(h:wOk w):∃ n:Nat,w=(n:Int)/\n<=4/\1<=n:=by
 rcases h with e|e|e <;> subst e
 ·exact⟨1,rfl,by omega,by omega⟩
 ·exact⟨2,rfl,by omega,by omega⟩
 ·exact⟨4,rfl,by omega,by omega⟩
section
variable {q:RM} {R:Nat->Q4} {m d b0 b c l:Nat} {Q:Q4} {k:QK}
theorem a4x(w:Int){t:Nat}:∀ {j:Nat},t<j->∃ r,qhF q b0 w j=qhF q b0 w t++qfl q b0 t++r
 | 0,h=>absurd h (Nat.not_lt_zero t)
 | j+1,h=>by
  rw[Y8];by_cases e:t=j
  ·subst e;exact⟨[],by simp⟩
  ·obtain⟨r,hr⟩:=a4x w (t:=t) (j:=j) (by omega);exact⟨r++qfl q b0 j,by rw[hr];simp⟩
theorem a0u(w:Int){t j:Nat}(h:t<=j):(qhF q b0 w t).length<=(qhF q b0 w j).length:=by
 by_cases e:t=j
 ·subst e;exact Nat.le_refl _
 ·obtain⟨r,hr⟩:=a4x (q:=q) (b0:=b0) w (t:=t) (j:=j) (by omega);rw[hr];simp only[List.length_append];omega
theorem c3O(t:Nat):(qfl q b0 t)[0]? = some (if a4D q b0 t=true then 0 else 1):=by unfold qfl;split <;> rfl
theorem a5w{w n:Nat}(h:w<=4):w*n<=4*n:=Nat.mul_le_mul_right n h
theorem c3k(h:qmA q R m d b0 Q k b)(hs:a0f (q.F b0 0)=false){w:Int}{i:DI}(hp:apd q b c l (qhI q b0 w (qnL q b0)++[0]) i)(hq:q1P q b0 (qnL q b0,w)) :
  ∃ us,apd q b c l us i/\us.length<=qBy d k.its.length/\a8N (bG i) R m d l i.l Q k.its:=by
 obtain⟨sp,v,E,ks,h1,h5,h6,hn,hit⟩:=h.its;obtain⟨w,rfl,hw,_⟩:=hq.2.1.nat;obtain rfl:sp=false:=by rw[h1.s0]at hs;exact hs
 obtain⟨_,hE⟩:=h6 rfl;have hle:=h.le
 have hH:b2N (bG i) l w E:=by
  refine b3V (λt ht x hx=>a0V hp ?_) hn hq hit (by rw[hE]at hle;omega) λx hx=>h.lt x (h5 x hx).1
  rw[hn,List.getElem?_append_left (by rw[R7];exact ht)];exact hx
 have hz:bG i (l+1+w+w*E.length)=0:=by
  rw[show l+1+w+w*E.length=l+(1+w+w*E.length) by omega];refine a0V hp ?_;rw[hn,List.getElem?_append_right (by rw[R7];exact Nat.le_refl _),R7];simp
 have hl:=hp.n;rw[List.length_append,R7,hn]at hl;simp only[List.length_cons,List.length_nil]at hl;have hm:=a5w (n:=E.length) hw;refine⟨_,hp,?_,?_⟩
 ·rw[List.length_append,R7,hn,hE];simp only[List.length_cons,List.length_nil,qBy];have:26*1<=26*(1+d*E.length):=Nat.mul_le_mul_left _ (by omega);omega
 ·cases d with
  | zero=>exact⟨w,by rw[hE];exact hH,by rw[hE];omega,by rw[hE];exact hz,λx hx=>(h5 x (by rw[<-hE];exact hx)).2⟩
  | succ d=>exact⟨w,E,[],hH,by rw[hE];simp,λx hx=>(h5 x hx).2, .inl ⟨rfl,by omega,hz⟩⟩
theorem qmA.split(h:qmA q R m (d+1) b0 Q k b)(hs:a0f (q.F b0 0)=true):∃ v E ks,qpN q R m d Q b0 true v E ks []/\kne ks/\k.its=E++ks.flatMap Q3/\k.fp=b0 :: (fpU v++ks.flatMap kfp):=by
 obtain⟨sp,v,E,ks,h1,_,h3,h4,h5⟩:=c0J h.t h.nd;rw[h.kb]at h1 h3;obtain rfl:sp=true:=by rw[h1.a.s0]at hs;exact hs
 exact⟨v,E,ks,h1,h5,h4,h3⟩
theorem a0d{v:Value}{E xs:List Nat}{ks:List (Option QK)}{sp:Bool}(h:qpN q R m d Q b0 sp v E ks xs):∀(t:Nat)(o:Option QK),ks[t]? = some o->a4D q b0 t=o.isNone:=λt o ht=>by
 unfold a4D;rw[h.a.k t o ht,a1H]
theorem c6g{v:Value}{E xs:List Nat}{ks:List (Option QK)}{sp:Bool}(h:qpN q R m d Q b0 sp v E ks xs):qnL q b0=E.length:=by
 unfold qnL;rw[h.a.s1,h.a.u.n]
theorem c1b{ks:List (Option QK)}(h:ks.length=4):L6 ks 4<=20:=by
 match ks,h with
 | [a,b,c,d],_=>cases a <;> cases b <;> cases c <;> cases d <;> simp[L6,qsz]
theorem c0n(h:qmA q R m (d+1) b0 Q k b)(hs:a0f (q.F b0 0)=true){w:Int}(hw:wOk w):(qhF q b0 w 4).length<=26+4*qnL q b0:=by
 obtain⟨wn,rfl,hw4,_⟩:=hw.nat;obtain⟨v,E,ks,h1,_⟩:=h.split hs;rw[a5m (a0d h1) h1.a.kl 4 (Nat.le_refl _)];have h2:=c1b h1.a.kl;have h3:=a5w (n:=qnL q b0) hw4;omega
theorem qmA.pos(h:qmA q R m d b0 Q k b)(hs:a0f (q.F b0 0)=true):∃ e,d=e+1:=by
 cases d with
 | succ e=>exact⟨e,rfl⟩
 | zero =>
  obtain⟨v,E,h1,_⟩:=h.t;have h2:=h1.s0;rw[h.kb]at h2;rw[h2]at hs;exact absurd hs (by decide)
theorem b6c(h:qmA q R m (d+1) b0 Q k b)(hs:a0f (q.F b0 0)=true){p p':QC}(hp:apd q b c l (qhF q b0 p.w 4) p.i)(hw:wOk p.w)(e1:p'.i=p.i)(e2:p'.j=0)(e3:p'.w=p.w):q4K q R m d b0 Q b c l p' k:=by
 obtain⟨v,E,ks,h1,h2,h3,h4⟩:=h.split hs;obtain⟨w,e,hw4,_⟩:=hw.nat;have hpos:=a5m (q:=q) (b0:=b0) (w:=w) (a0d h1) h1.a.kl 4 (Nat.le_refl _);have h20:=c1b h1.a.kl;have hm:=a5w (n:=E.length) hw4;rw[c6g h1]at hpos;rw[q4K,e1,e2,e3];refine⟨_,v,E,ks,hp,h1,h2,h3,h4,λt ht=>a0V hp ?_,λt ht=>a0V hp ?_,Nat.le_refl _,?_,λt x ht=>absurd ht (Nat.not_lt_zero t)⟩
 ·unfold qhF;rw[List.getElem?_append_left ht,List.getElem?_eq_getElem ht,List.getD_eq_getElem?_getD,List.getElem?_eq_getElem ht];rfl
 ·obtain⟨r,hr⟩:=a4x (q:=q) (b0:=b0) p.w ht;rw[hr,List.append_assoc,List.getElem?_append_right (Nat.le_refl _),Nat.sub_self,List.getElem?_append_left (by rw[a3y];split <;> omega)];exact c3O t
 ·rw[e,hpos];simp;omega
theorem b9B{p p':QC}(hK:q4K q R m d b0 Q b c l p k)(hj:p.j<4)(hn:a4D q b0 p.j=true)(e1:p'.i=p.i)(e2:p'.j=p.j+1)(e3:p'.w=p.w):q4K q R m d b0 Q b c l p' k:=by
 obtain⟨us,v,E,ks,k1,k2,k3,k4,k5,k6,k7,k8,k9,k10⟩:=hK;have hg:=List.getElem?_eq_getElem (by rw[k2.a.kl];exact hj:p.j<ks.length);have hno:=a0d k2 _ _ hg;rw[q4K,e1,e2,e3];refine⟨us,v,E,ks,k1,k2,k3,k4,k5,k6,k7,k8,?_,λt x ht hx=>?_⟩
 ·rw[List.take_add_one,List.map_append,List.sum_append];omega
 ·by_cases e:t=p.j
  ·subst e;rw[hx]at hg;simp only[oI9]at hg;rw[<-hg,hn]at hno;exact absurd hno (by simp)
  ·exact k10 t x (by omega) hx
theorem b3J(h:qmA q R m (d+1) b0 Q k b)(hbd:l+qBy (d+1) k.its.length<=100000000){p:QC}(hw:wOk p.w)(hK:q4K q R m d b0 Q b c l p k)(hj:p.j<4)(hn:a4D q b0 p.j=false) :
  ∃ x:QK,q.F b0 (2+p.j)=.pointer (some ⟨x.b,0,none⟩)/\l+((qhF q b0 p.w p.j).length+1)+4<=p.i.l/\p.i.l<=100000000/\byO p.i.q p.i.b p.i.c p.i.l p.i.k/\
  byO (p4R p.i.q p.i.b (p.i.c+(l+((qhF q b0 p.w p.j).length+1))) (p.i.l:Nat)) p.i.b p.i.c p.i.l p.i.k/\
  qmA (p4R p.i.q p.i.b (p.i.c+(l+((qhF q b0 p.w p.j).length+1))) (p.i.l:Nat)) R m d x.b (qbV Q (p.j:Int)) x p.i.b/\p.i.l+qBy d x.its.length<=100000000/\
  ∀ i',qmP (p4R p.i.q p.i.b (p.i.c+(l+((qhF q b0 p.w p.j).length+1))) (p.i.l:Nat)) x.b (qbV Q (p.j:Int)) p.i.b p.i.c p.i.l i'->q4K q R m d b0 Q b c l ⟨i',p.j+1,p.w,p.g⟩ k:=by
 obtain⟨us,v,E,ks,k1,k2,k3,k4,k5,k6,k7,k8,k9,k10⟩:=hK;obtain⟨w,e,hw4,_⟩:=hw.nat;have hn1:=k1.n;obtain⟨o,hg,hcell⟩:=k2.a.kid hj;have hno:=a0d k2 _ _ hg;rw[hn]at hno
 obtain⟨x,rfl⟩:∃ x,o=some x:=by cases o with
  | none=>simp at hno
  | some x=>exact⟨x,rfl⟩
 have hF1:(qhF q b0 p.w (p.j+1)).length=(qhF q b0 p.w p.j).length+5:=by rw[Y8,List.length_append,a3y,hn];simp
 have hF4:=a0u (q:=q) (b0:=b0) p.w (t:=p.j+1) (j:=4) (by omega);have hF0:=a0u (q:=q) (b0:=b0) p.w (t:=0) (j:=p.j) (by omega);rw[a5L]at hF0;generalize hS:(qhF q b0 p.w p.j).length=S at *;obtain⟨us2,v1,v2,v3,v4⟩:=b1m k1 (s:=S+1) (by omega) (p.i.l:Nat)
 have hsum:((ks.take (p.j+1)).map (kBy d)).sum=((ks.take p.j).map (kBy d)).sum+qBy d x.its.length:=by
  rw[List.take_add_one,hg,List.map_append,List.sum_append];simp[kBy]
 have hsum4:((ks.take (p.j+1)).map (kBy d)).sum<=(ks.map (kBy d)).sum:=by
  conv=>rhs;rw[<-List.take_append_drop (p.j+1) ks]
  rw[List.map_append,List.sum_append];omega
 have hnode:=b0Y (d:=d) k3 E;rw[<-k4]at hnode;have hxk:∀ y∈x.fp,y∈k.fp:=λy hy=>by rw[k5];exact List.mem_cons_of_mem _ (List.mem_append_right _ (I8 hg hy))
 have hkx:qmA (p4R p.i.q p.i.b (p.i.c+(l+(S+1))) (p.i.l:Nat)) R m d x.b (qbV Q (p.j:Int)) x p.i.b:=by
  have hD:=(k2.kid _ _ hg).D;have hne:∀ y∈x.fp,y≠b:=λy hy e=>h.bf (e▸hxk y hy)
  refine⟨(k2.kid _ _ hg).same λy hy=>?_,rfl,c1p hg (nd4.1 k2.nd).2.1.2.1,?_,λhb=>?_,λy hy=>h.lt y ?_⟩
  ·obtain⟨g1,g2,g3⟩:=v2.keep y (hD y hy);exact⟨g1,g2,g3 (hne y hy)⟩
  ·have g1:=a8w hg;have g2:=h.le;rw[k4,List.length_append]at g2;omega
  ·rcases k1.nw with g1|g1
   ·exact hne _ hb g1
   ·exact g1 (hD _ hb)
  ·rw[k4];exact List.mem_append_right _ (List.mem_flatMap.2 ⟨some x,List.mem_of_getElem? hg,hy⟩)
 refine⟨x,hcell,by omega,by omega,k1.o,v2.o,hkx,by omega,λi' hi'=>?_⟩;obtain⟨us3,w1,w2,w3⟩:=hi' R m d x hkx (by omega);have hall:=v2.trans w1;have hn3:=w1.n
 have old:∀ pp,pp<p.i.l->bG i' pp=bG ⟨p4R p.i.q p.i.b (p.i.c+(l+(S+1))) (p.i.l:Nat),p.i.b,p.i.c,p.i.l,p.i.k⟩ pp:=λpp hpp=>by
  unfold bG;rw[w1.old pp hpp]
 have old2:∀ pp,pp<p.i.l->(pp<l+(S+1)∨l+(S+1)+4<=pp)->bG i' pp=bG p.i pp:=λpp h1 h2=>(old pp h1).trans (v4 pp h2)
 have far:∀ t,t<4->t≠p.j->(qhF q b0 p.w t).length+(qfl q b0 t).length<=S∨S+5<=(qhF q b0 p.w t).length:=λt ht hne=>by
  rcases Nat.lt_or_ge t p.j with c1|c1
  ·have:=a0u (q:=q) (b0:=b0) p.w (t:=t+1) (j:=p.j) (by omega);rw[Y8,List.length_append,hS]at this;exact .inl this
  ·have:=a0u (q:=q) (b0:=b0) p.w (t:=p.j+1) (j:=t) (by omega);rw[hF1]at this;exact .inr this
 have l4:∀ t,t<4->(qhF q b0 p.w t).length+(qfl q b0 t).length<=(qhF q b0 p.w 4).length:=λt ht=>by
  have:=a0u (q:=q) (b0:=b0) p.w (t:=t+1) (j:=4) (by omega);rw[Y8,List.length_append]at this;exact this
 have flp:∀ t,1<=(qfl q b0 t).length:=λt=>by rw[a3y];split <;> omega
 unfold q4K;dsimp only;refine⟨us2++us3,v,E,ks,hall,k2,k3,k4,k5,λt ht=>?_,λt ht=>?_,by rw[List.length_append];omega,?_,λt y ht hy=>?_⟩
 ·have ht:t<(qhI q b0 p.w (qnL q b0)++[1]).length:=ht;exact(old2 _ (by omega) (by omega)).trans (k6 t ht)
 ·have g1:=flp t;have g2:=l4 t ht;by_cases ce:t=p.j
  ·subst ce;exact(old2 _ (by rw[hS];omega) (by rw[hS];omega)).trans (k7 _ ht)
  ·have g3:=far t ht ce;exact(old2 _ (by omega) (by omega)).trans (k7 t ht)
 ·show (us2++us3).length<=26+4*E.length+((ks.take (p.j+1)).map (kBy d)).sum;rw[hsum,List.length_append];omega
 ·have ht:t<p.j+1:=ht;by_cases ce:t=p.j
  ·subst ce;rw[hg]at hy;simp only[oI9]at hy;subst hy;refine⟨p.i.l,i'.l,?_,by show l+(qhF q b0 p.w 4).length<=p.i.l;omega,Nat.le_refl _,w3⟩;show leN (bG i') (l+(qhF q b0 p.w p.j).length+1) 4=_;rw[hS];refine b1o (λj hj4=>?_) (by omega) (by omega);rw[show l+S+1+j=l+(S+1)+j by omega];exact(old _ (by omega)).trans (v3 j hj4)
  ·obtain⟨a,e',a1,a2,a3,a4⟩:=k10 t y (by omega) hy;have g2:=l4 t (by omega);have g3:=far t (by omega) ce
   have g4:(qfl q b0 t).length=5:=by
    rw[a3y,a0d k2 _ _ hy];simp
   refine⟨a,e',?_,a2,by show e'<=i'.l;omega,a2E a4 λpp p1 p2=>old2 pp (by omega) (by omega)⟩;show leN (bG i') (l+(qhF q b0 p.w t).length+1) 4=_;rw[L0 λj hj=>old2 _ (by omega) (by omega)];exact a1
theorem c4m(h:qmA q R m (d+1) b0 Q k b){p:QC}(hq:q1P q b0 (qnL q b0,p.w))(hK:q4K q R m d b0 Q b c l p k)(hj:4<=p.j) :
  ∃ us,apd q b c l us p.i/\us.length<=qBy (d+1) k.its.length/\a8N (bG p.i) R m (d+1) l p.i.l Q k.its:=by
 obtain⟨us,v,E,ks,k1,k2,k3,k4,k5,k6,k7,k8,k9,k10⟩:=hK;obtain⟨w,e,hw4,_⟩:=hq.2.1.nat;dsimp only at e;rw[e]at hq k6 k7 k8 k10;have hn1:=k1.n;have hnE:=c6g k2;have hpos:=a5m (q:=q) (b0:=b0) (w:=w) (a0d k2) k2.a.kl;rw[hnE]at hpos k6;have hnode:=b0Y (d:=d) k3 E;rw[<-k4]at hnode;have hle:=h.le;have hEl:E.length<=k.its.length:=by rw[k4];simp
 obtain⟨es,e1,e2,e3,e4,e5⟩:=b0r (P:=λt x kk=>kk.its=x.its/\leN (bG p.i) (l+2+w+w*E.length+L6 ks t+1) 4=(kk.a:Nat)/\l+2+w+w*E.length+L6 ks 4<=kk.a/\kk.e<=p.i.l/\a8N (bG p.i) R m d kk.a kk.e (qbV Q (t:Int)) kk.its) (λ_ _ _ hh=>hh.1) ks 0 λt x hx=>by
  have ht4:t<4:=by rw[<-k2.a.kl];exact(List.getElem?_eq_some_iff.1 hx).1
  obtain⟨a,e',a1,a2,a3,a4⟩:=k10 t x (by omega) hx;rw[hpos t (by omega)]at a1;rw[hpos 4 (by omega)]at a2;refine⟨⟨a,e',x.its⟩,rfl,?_,by show _<=a;omega,a3,?_⟩
  ·rw[Nat.zero_add,show l+2+w+w*E.length+L6 ks t+1=l+(2+w+w*E.length+L6 ks t)+1 by omega];exact a1
  ·rw[Nat.zero_add];exact a4
 have hlen:(qhI q b0 (w:Nat) E.length++[1]).length=2+w+w*E.length:=by rw[List.length_append,R7];simp;omega
 refine⟨us,k1,?_,w,E,es,?_,by rw[e2,k4],k2.ok, .inr ⟨by rw[e1,k2.a.kl],?_,?_,λt ht=>?_,λt kk ht=>?_⟩⟩
 ·have:ks.take p.j=ks:=List.take_of_length_le (by rw[k2.a.kl];exact hj);rw[this]at k9;omega
 ·refine b3V (λt ht x hx=>?_) hnE hq (λt x hx=>?_) (by omega) λx hx=>h.lt x (by rw[k4];exact List.mem_append_left _ hx)
  ·rw[k6 t (by omega),List.getD_eq_getElem?_getD,List.getElem?_append_left (by rw[R7];exact ht),hx];rfl
  ·unfold qit;rw[k2.a.s1,k2.a.u.c _ _ hx];rfl
 ·have:=k6 (1+w+w*E.length) (by omega);rw[List.getD_eq_getElem?_getD,List.getElem?_append_right (by rw[R7];exact Nat.le_refl _),R7]at this;rw[show l+1+w+w*E.length=l+(1+w+w*E.length) by omega,this];simp
 ·rw[e3 4];rw[hpos 4 (by omega)]at k8;omega
 ·have hx:=e4 t ht;have ht4:t<4:=by rw[<-k2.a.kl];exact(List.getElem?_eq_some_iff.1 hx).1
  have:=k7 t ht4;rw[hpos t (by omega),a0d k2 _ _ hx]at this;rw[e3 t,show l+2+w+w*E.length+L6 ks t=l+(2+w+w*E.length+L6 ks t) by omega,this];rfl
 ·obtain⟨x,hx,g1,g2,g3,g4,g5⟩:=e5 t kk ht;have ht4:t<4:=by rw[<-k2.a.kl];exact(List.getElem?_eq_some_iff.1 hx).1
  have:=k7 t ht4;rw[hpos t (by omega),a0d k2 _ _ hx]at this;rw[Nat.zero_add]at g2 g5;rw[e3 t,e3 4];refine⟨?_,g2,g3,g4,g5⟩;rw[show l+2+w+w*E.length+L6 ks t=l+(2+w+w*E.length+L6 ks t) by omega,this];rfl
end
open Int (toNat)
open Go.IntKind (wrap)
noncomputable section
def qcH(ts:List Nat)(a0 a1 a2 a3:Nat)(q:RM):z7:=[(0,rwO ts q),(1,⟨true,102, .cells [.flt .f64 a0, .flt .f64 a1, .flt .f64 a2, .flt .f64 a3],0⟩)]
def c4B(ts:List Nat)(a0 a1 a2 a3:Nat)(q:RM)(g:Nat->Int):z7:=[(0,rwO ts q),(1,⟨true,102, .cells [.flt .f64 a0, .flt .f64 a1, .flt .f64 a2, .flt .f64 a3],0⟩),(2,⟨true,206, .ints .i64 4 g,0⟩)]
def q1L(ts:List Nat)(q:RM)(b0 b c l kk a0 a1 a2 a3:Nat):S3:=⟨⟨Nat×Int,λp=>⟨143,[(0, .pb 0 b0 0),(1, .slb 0 b c l kk),(5, .ptr 1 0),(7, .int .u8 p.2),(8, .int .i64 p.1)],qcH ts a0 a1 a2 a3 q,2⟩,q1P q b0,λp=>qnL q b0-p.1⟩,λ_=>[]⟩
def q2L(ts:List Nat)(q:RM)(b0 b c l a0 a1 a2 a3:Nat):S3:=⟨⟨C1,λp=>⟨143,[(0, .pb 0 b0 0),(1, .slb 0 p.i.b p.i.c p.i.l p.i.k),(5, .ptr 1 0),(7, .int .u8 p.w),(10, .int .i64 p.j)],qcH ts a0 a1 a2 a3 p.i.q,2⟩,q2P q b0 b c l,λp=>qnL q b0-p.j⟩,λ_=>[]⟩
def q3L(ts:List Nat)(q:RM)(b0 b c l a0 a1 a2 a3:Nat):S3:=⟨⟨QC,λp=>⟨143,[(0, .pb 0 b0 0),(1, .slb 0 p.i.b p.i.c p.i.l p.i.k),(5, .ptr 1 0),(11, .ptr 2 0),(12, .int .i64 p.j)],c4B ts a0 a1 a2 a3 p.i.q p.g,3⟩,q3P q b0 b c l,λp=>4-p.j⟩,λ_=>[]⟩
def q4L(ts:List Nat)(q:RM)(b0 b c l a0 a1 a2 a3:Nat):S3:=⟨⟨QC,λp=>⟨143,[(0, .pb 0 b0 0),(1, .slb 0 p.i.b p.i.c p.i.l p.i.k),(5, .ptr 1 0),(11, .ptr 2 0),(13, .int .i64 p.j)],c4B ts a0 a1 a2 a3 p.i.q p.g,3⟩,q4P q b0 ⟨a0,a1,a2,a3⟩ b c l,λp=>4-p.j⟩,λ_=>[]⟩
def a6V(K:Nat):List SV->RRd DI
 | [.pb n b0 c0, .slb n1 b c l kk, .agg [.flt .f64 a0, .flt .f64 a1, .flt .f64 a2, .flt .f64 a3]]=>.read n λo0=>(match I6 o0 with
  | some (ts,q)=>.ret ⟨[.pb 0 b0 0, .slb 0 b c l kk, .agg [.flt .f64 a0, .flt .f64 a1, .flt .f64 a2, .flt .f64 a3]],[(0,rwO ts q)],some (n=n1/\0=c0/\(qmO q b0 ⟨a0,a1,a2,a3⟩ b c l kk K)),λi=>qmP q b0 ⟨a0,a1,a2,a3⟩ b c l i,λi=>⟨[],[], .slb 0 i.b i.c i.l i.k,[(0,rwO ts (i.q))],[],none⟩⟩
  | none=>.fail)
 | _=>.fail
def GQc:Ctx:=⟨⟨tys,[]⟩,[(125,A7 b4c),(124,A7 b3B)]⟩
theorem gQc:A5 prog GQc:=⟨⟨C0,FlatsOk.nil⟩,j8.cons (.pure c7t) (j8.cons (.pure c6D) j8.nil),by kernel_rfl⟩
def X12(H:Nat):F6:=⟨GQc,[(118,q7 DI ⟨default⟩ (a6V H)),(121,q7 Unit ⟨()⟩ a8i),(126,q7 DI ⟨default⟩ a5n)],[],[],[(185,0)]⟩
theorem x12(H:Nat)(ih:z4 prog 118 (q7 DI ⟨default⟩ (a6V H))):B4 prog (X12 H):=⟨gQc,y5.cons ih (y5.cons b9U (y5.cons b7E y5.nil))⟩
def c1f(K:Nat):List SV->RRd (DI)
 | [.pb n b0 c0, .slb n1 b c l kk, .agg [.flt .f64 a0, .flt .f64 a1, .flt .f64 a2, .flt .f64 a3]]=>.read n λo0=>(match I6 o0 with
  | some (ts,q)=>.ret ⟨[.pb 0 b0 0, .slb 0 b c l kk, .agg [.flt .f64 a0, .flt .f64 a1, .flt .f64 a2, .flt .f64 a3]],[(0,rwO ts q)],some (n=n1/\0=c0/\(qmO q b0 ⟨a0,a1,a2,a3⟩ b c l kk K)),λi=>qmP q b0 ⟨a0,a1,a2,a3⟩ b c l i,λi=>⟨[],[], .slb 0 i.b i.c i.l i.k,[(0,rwO ts (i.q))],[],none⟩⟩
  | none=>.fail)
 | _=>.fail
theorem b9S(R:Option Ob->SV->Prop)(H:Nat)(ts:List Nat)(q:RM)(b0 b c l kk a0 a1 a2 a3:Nat){T1}(t1:T1=λ(i:QC)=>(pB (pB (pB (DI.q (QC.i i)).3 (DI.b (QC.i i)) (DI.c (QC.i i)+toNat (i.4 (0+toNat (↑(QC.j i):Int)*1))*1) (wrap IntKind.u32 (↑(DI.l (QC.i i)):Int)) 0) (DI.b (QC.i i)) (DI.c (QC.i i)+toNat (i.4 (0
 + toNat (↑(QC.j i):Int)*1))*1) (wrap IntKind.u32 (↑(DI.l (QC.i i)):Int)) 1) (DI.b (QC.i i)) (DI.c (QC.i i)+toNat (i.4 (0+toNat (↑(QC.j i):Int)*1))*1) (wrap IntKind.u32 (↑(DI.l (QC.i i)):Int))
 2)){T2}(t2:T2=(102=102/\0=0/\a0=a0/\a1=a1/\a2=a2/\a3=a3/\True)){T3}(t3:T3=λ(i:QC)=>(↑(QC.j i):Int)){T4}(t4:T4=λ(i:QC)=>(pB (T1 i) (DI.b (QC.i i)) (DI.c (QC.i i)+toNat (i.4 (0+toNat (T3 i)*1))*1)
 (wrap IntKind.u32 (↑(DI.l (QC.i i)):Int)) 3 b0 (2+toNat (T3 i)*1))){T5}(t5:T5=λ(i:QC)=>(p4R (RM.mk (RM.D (DI.q (QC.i i))) (RM.S (DI.q (QC.i i))) (RM.F (DI.q (QC.i i)))) (DI.b (QC.i i)) (DI.c (QC.i i)+toNat (QC.g i (0 +
 toNat (T3 i)*TI.size ty3))*TI.size ty5) (wrap IntKind.u32 (↑(DI.l (QC.i i)):Int)))){T6}(t6:T6=λ(i:C1)=>(DI.q (C1.i i))){T7}(t7:T7=λ(i:QC)=>(DI.q (QC.i i))){T8}(t8:T8=(True/\b0=b0/\0=0)){T9}(t9:T9=λ(i:C1)=>((T6 i).3
 (slB ((T6 i).3 b0 1)) (slC ((T6 i).3 b0 1)+toNat (↑(C1.j i):Int)*1))){T10}(t10:T10=(True/\0=0)){T11}(t11:T11=λ(i:Nat×Int)=>(q.3 (slB (q.3 b0 1)) (slC (q.3 b0 1)+toNat (↑(i.1):Int)*1))){T12}(t12:T12=(Q4.mk a0 a1 a2
 a3)){T13}(t13:T13=λ(i:QC)=>(RM.mk (RM.D (T5 i)) (T7 i).2 (pB (T1 i) (DI.b (QC.i i)) (DI.c (QC.i i)+toNat (i.4 (0+toNat (T3 i)*1))*1) (wrap IntKind.u32 (↑(DI.l (QC.i i)):Int)) 3))){T14}(t14:T14=λ(i:QC)=>((T7 i).3 b0 (2
 + toNat (T3 i)*1))){T15}(t15:T15=(0=0/\0=0/\ts=ts/\q.3=q.3/\q.2=q.2/\RM.D q=RM.D q)){T16}(t16:T16=λ(pq:QC)=>(DI.q (QC.i pq))){T17}(t17:T17=λ(i:QC) (pq:QC)=>(True/\DI.b (QC.i i)=DI.b (QC.i pq)/\DI.c (QC.i i)=DI.c
 (QC.i pq)/\DI.l (QC.i i)=DI.l (QC.i pq)/\DI.k (QC.i i)=DI.k (QC.i pq))){T18}(t18:T18=λ(i:QC)=>(0+toNat (T3 i)*1)){T19}(t19:T19=(True/\b=b/\c=c/\l=l/\kk=kk)){T20}(t20:T20=λ(i:QC) (pq:QC)=>(0=0/\0=0/\ts=ts/\(T7
 i).3=(T16 pq).3/\(T7 i).2=(T16 pq).2/\RM.D (T7 i)=RM.D (T16 pq))){T21}(t21:T21=(↑(slL (q.3 b0 1)):Int)){T22}(t22:T22=λ(i:QC)=>(DI.b (QC.i i))){T23}(t23:T23=λ(i:QC)=>(Q4.mk (qb0 T12 (T3 i)) (qb1 T12 (T3 i)) (qb2 T12 (T3 i)) (qb3 T12
 (T3 i)))){T24}(t24:T24=λ(i:QC)=>(DI.l (QC.i i))){T25}(t25:T25=λ(i:QC) (pq:QC)=>(206=206/\0=0/\4<=4/\∀ (i_4:Nat),i_4<4->i.4 i_4=pq.4 i_4)){T26}(t26:T26=λ(i:C1)=>(↑(C1.j i):Int)){T27}(t27:T27=λ(pq:QC)=>(↑(QC.j pq) :
 Int)){T28}(t28:T28=λ(i:C1)=>((T6 i).3 b0 1)):L5 (X12 H) 1 [(3,q1L ts q b0 b c l kk a0 a1 a2 a3),(11,q2L ts q b0 b c l a0 a1 a2 a3),(20,q3L ts q b0 b c l a0 a1 a2 a3),(28,q4L ts q b0 b c l a0 a1 a2 a3)] [] (l7 f118) (z6 f118.ntmps [.pb 0 b0 0, .slb 0 b c l kk, .agg [.flt .f64 a0, .flt .f64 a1, .flt .f64 a2, .flt .f64 a3]] [(0,rwO ts q)] 1) (A0 (X12 H).G.E.T f118.results.toList λS v=>R (Go.Sx.look S.H 0) v)=(
 (q.1 b0/\1<q.2 b0)/\isSlN (q.3 b0 1)/\(∃(pq:Nat×Int),q1P q b0 pq/\(T8/\T19/\T10/\nbI (wrap IntKind.u32 T21)=pq.2/\0=(↑(pq.1):Int)/\True)/\True/\T15/\True/\T2/\True)/\∀(i:Nat×Int),q1P q b0 i->(q.1 b0/\1 <
 q.2 b0)/\isSlN (q.3 b0 1)/\(decide ((↑(i.1):Int)<T21)=true->(q.1 b0/\1<q.2 b0)/\(Go.Sx.isSl (q.3 b0 1)/\0<=(↑(i.1):Int)/\(↑(i.1):Int)<T21)/\(q.1 (slB (q.3 b0 1))/\slC (q.3 b0 1)+toNat (↑(i.1):Int)*1<q.2 (slB (q.3
 b0 1))/\C4 IntKind.u32 (T11 i))/\(decide (i.2<nbI (q8 (T11 i)))=true->∃(pq:Nat×Int),q1P q b0 pq/\qnL q b0-pq.1<qnL q b0-i.1/\(T8/\T19/\T10/\nbI (q8 (T11 i))=pq.2/\wrap .i64 ((↑(i.1):Int)+1)=(↑(pq.1) :
 Int)/\True)/\True/\T15/\True/\T2/\True)/\(decide (i.2<nbI (q8 (T11 i)))=false->∃(pq:Nat×Int),q1P q b0 pq/\qnL q b0-pq.1<qnL q b0-i.1/\(T8/\T19/\T10/\i.2=pq.2/\wrap .i64 ((↑(i.1):Int)+1)=(↑(pq.1):Int)
 /\True)/\True/\T15/\True/\T2/\True))/\(decide ((↑(i.1):Int)<T21)=false->∀(i_1:ApI),appO (RM.D q) q.2 1 1 b c l kk 1/\(Q0 (RM.D q) q.2 q.3 1 b c l kk 1 [Value.int .u8 (i.2)] i_1->(i_1.4 b0/\1<i_1.5 b0)/\isSlN (i_1.6 b0 1)/\∀
 (i_2:DI),((byO (RM.mk (ApI.D i_1) i_1.5 i_1.6) i_1.1 i_1.2 (l+1) i_1.3/\l+1<=1000000000)/\((0:Int)<=wrap IntKind.u32 (↑(slL (i_1.6 b0 1)):Int)/\wrap IntKind.u32 (↑(slL (i_1.6 b0 1)):Int)<4294967296)/\(i.2=(1 :
 Int)∨i.2=(2:Int)∨i.2=(4:Int)))/\(apd (RM.mk (ApI.D i_1) i_1.5 i_1.6) i_1.1 i_1.2 (l+1) (byL (wrap IntKind.u32 (↑(slL (i_1.6 b0 1)):Int)) (toNat (i.2))) i_2->(∃(pq:C1),q2P q b0 b c l pq/\(T8/\(True/\DI.b i_2=DI.b
 (C1.i pq)/\DI.c i_2=DI.c (C1.i pq)/\DI.l i_2=DI.l (C1.i pq)/\DI.k i_2=DI.k (C1.i pq))/\T10/\i.2=C1.w pq/\0=(↑(C1.j pq):Int)/\True)/\True/\(0=0/\0=0/\ts=ts/\(DI.q i_2).3=(DI.q (C1.i pq)).3/\(DI.q i_2).2=(DI.q (C1.i
 pq)).2/\RM.D (DI.q i_2)=RM.D (DI.q (C1.i pq)))/\True/\T2/\True)/\∀(i:C1),q2P q b0 b c l i->((T6 i).1 b0/\1<(T6 i).2 b0)/\isSlN (T28 i)/\(decide ((T26 i)<(↑(slL (T28 i)):Int))=true->((T6 i).1 b0/\1<(T6 i).2 b0)/\(Go.Sx.isSl
 (T28 i)/\0<=(T26 i)/\(T26 i)<(↑(slL (T28 i)):Int))/\((T6 i).1 (slB (T28 i))/\slC (T28 i)+toNat (T26 i)*1<(T6 i).2 (slB (T28 i))/\C4 IntKind.u32 (T9 i))/\∀(i_3:DI),((byO (RM.mk (RM.D (T6 i)) (T6 i).2 (T6 i).3) (DI.b (C1.i
 i)) (DI.c (C1.i i)) (DI.l (C1.i i)) (DI.k (C1.i i))/\DI.l (C1.i i)<=1000000000)/\((0:Int)<=q8 (T9 i)/\q8 (T9 i)<(4294967296:Int))/\(C1.w i=(1:Int)∨C1.w i=(2:Int)∨C1.w i=(4:Int)))/\(apd (RM.mk (RM.D (T6 i)) (T6 i).2
 (T6 i).3) (DI.b (C1.i i)) (DI.c (C1.i i)) (DI.l (C1.i i)) (byL (q8 (T9 i)) (toNat (C1.w i))) i_3->∃(pq:C1),q2P q b0 b c l pq/\qnL q b0-C1.j pq<qnL q b0-C1.j i/\(T8/\(True/\DI.b i_3=DI.b (C1.i pq)/\DI.c i_3=DI.c (C1.i pq)/\
 DI.l i_3=DI.l (C1.i pq)/\DI.k i_3=DI.k (C1.i pq))/\T10/\C1.w i=C1.w pq/\wrap .i64 ((T26 i)+1)=(↑(C1.j pq):Int)/\True)/\True/\(0=0/\0=0/\ts=ts/\(DI.q i_3).3=(DI.q (C1.i pq)).3/\(DI.q i_3).2=(DI.q (C1.i pq)).2/\
 RM.D (DI.q i_3)=RM.D (DI.q (C1.i pq)))/\True/\T2/\True))/\(decide ((T26 i)<(↑(slL (T28 i)):Int))=false->((T6 i).1 b0/\0<(T6 i).2 b0/\b0o ((T6 i).3 b0 0))/\((!a0f ((T6 i).3 b0 0))=true->∀(i_3:ApI),appO (RM.D (T6 i)) (T6
 i).2 1 1 (DI.b (C1.i i)) (DI.c (C1.i i)) (DI.l (C1.i i)) (DI.k (C1.i i)) 1/\(Q0 (RM.D (T6 i)) (T6 i).2 (T6 i).3 1 (DI.b (C1.i i)) (DI.c (C1.i i)) (DI.l (C1.i i)) (DI.k (C1.i i)) 1 [Value.int .u8 (0:Int)] i_3->R (Option.some (Ob.mk true 0
 (b8.raw ts (ApI.D i_3) i_3.5 i_3.6) 0)) (SV.slb 0 i_3.1 i_3.2 (DI.l (C1.i i)+1) i_3.3)))/\((!a0f ((T6 i).3 b0 0))=false->∀(i_3:ApI),appO (RM.D (T6 i)) (T6 i).2 1 1 (DI.b (C1.i i)) (DI.c (C1.i i)) (DI.l (C1.i i)) (DI.k (C1.i i)) 1/\(Q0
 (RM.D (T6 i)) (T6 i).2 (T6 i).3 1 (DI.b (C1.i i)) (DI.c (C1.i i)) (DI.l (C1.i i)) (DI.k (C1.i i)) 1 [Value.int .u8 (1:Int)] i_3->(∃(pq:QC),q3P q b0 b c l pq/\(T8/\(True/\i_3.1=DI.b (QC.i pq)/\i_3.2=DI.c (QC.i pq)/\DI.l (C1.i i)+1 =
 DI.l (QC.i pq)/\i_3.3=DI.k (QC.i pq))/\T10/\T10/\0=(T27 pq)/\True)/\True/\(0=0/\0=0/\ts=ts/\i_3.6=(T16 pq).3/\i_3.5=(T16 pq).2/\ApI.D i_3=RM.D (T16 pq))/\True/\T2/\True/\(206=206/\0=0/\4<=4/\∀(i:Nat),i<4
 ->List.getD [(0:Int),(0:Int),(0:Int),(0:Int)] i (0:Int)=pq.4 i)/\True)/\∀(i:QC),q3P q b0 b c l i->(decide ((T3 i)<4)=true->(0<=(T3 i)/\(T3 i)<(4:Int))/\((T7 i).1 b0/\2+toNat (T3 i)*1<(T7 i).2 b0)/\a3l
 (T14 i)/\(R8 (T14 i)=true->∀(i_4:ApI),appO (RM.D (T7 i)) (T7 i).2 1 1 (T22 i) (DI.c (QC.i i)) (T24 i) (DI.k (QC.i i)) 1/\(Q0 (RM.D (T7 i)) (T7 i).2 (T7 i).3 1 (T22 i) (DI.c (QC.i i)) (T24 i) (DI.k (QC.i i)) 1 [Value.int .u8 (0:Int)]
 i_4->∃(pq:QC),q3P q b0 b c l pq/\4-QC.j pq<4-QC.j i/\(T8/\(True/\i_4.1=DI.b (QC.i pq)/\i_4.2=DI.c (QC.i pq)/\DI.l (QC.i i)+1=DI.l (QC.i pq)/\i_4.3=DI.k (QC.i pq))/\T10/\T10/\wrap .i64 ((T3 i)+(1:Int))=(T27
 pq)/\True)/\True/\(0=0/\0=0/\ts=ts/\i_4.6=(T16 pq).3/\i_4.5=(T16 pq).2/\ApI.D i_4=RM.D (T16 pq))/\True/\T2/\True/\(206=206/\0=0/\4<=4/\∀(i_5:Nat),i_5<4->i.4 i_5=pq.4 i_5)/\True))/\(R8 (T14 i)=false->∀
 (i_4:ApI),appO (RM.D (T7 i)) (T7 i).2 1 1 (T22 i) (DI.c (QC.i i)) (T24 i) (DI.k (QC.i i)) 1/\(Q0 (RM.D (T7 i)) (T7 i).2 (T7 i).3 1 (T22 i) (DI.c (QC.i i)) (T24 i) (DI.k (QC.i i)) 1 [Value.int .u8 (1:Int)] i_4->((0<=(T3 i)/\(T3 i)<4)/\1
 <=4)/\0+toNat (T3 i)*1+1<=4/\∀(i_5:ApI),appO (ApI.D i_4) i_4.5 1 1 i_4.1 i_4.2 (DI.l (QC.i i)+1) i_4.3 4/\(Q0 (ApI.D i_4) i_4.5 i_4.6 1 i_4.1 i_4.2 (DI.l (QC.i i)+1) i_4.3 4 [Value.int .u8 (0:Int),Value.int .u8 (0:Int),
 Value.int .u8 (0:Int),Value.int .u8 (0:Int)] i_5->∃(pq:QC),q3P q b0 b c l pq/\4-QC.j pq<4-QC.j i/\(T8/\(True/\i_5.1=DI.b (QC.i pq)/\i_5.2=DI.c (QC.i pq)/\DI.l (QC.i i)+1+4=DI.l (QC.i pq)/\i_5.3=DI.k (QC.i pq))/\T10
 /\T10/\wrap .i64 ((T3 i)+1)=(T27 pq)/\True)/\True/\(0=0/\0=0/\ts=ts/\i_5.6=(T16 pq).3/\i_5.5=(T16 pq).2/\ApI.D i_5=RM.D (T16 pq))/\True/\T2/\True/\(206=206/\0=0/\4<=4/\∀(i_6:Nat),i_6<4->upd (QC.g i)
 (T18 i) (↑(DI.l (QC.i i)+1):Int) i_6=pq.4 i_6)/\True))))/\(decide ((T3 i)<4)=false->(∃(pq:QC),q4P q b0 T12 b c l pq/\(T8/\(T17 i pq)/\T10/\T10/\(0:Int)=(T27 pq)/\True)/\True/\(T20 i pq)/\True/\T2/\True/\(T25 i pq)/\
 True)/\∀(i:QC),q4P q b0 T12 b c l i->(decide ((T3 i)<4)=true->(0<=(T3 i)/\(T3 i)<(4:Int))/\((T7 i).1 b0/\2+toNat (T3 i)*1<(T7 i).2 b0)/\a3l (T14 i)/\((!R8 (T14 i))=true->∀(_:Unit),((0<=(T3 i)/\(T3 i)<4)/\
 1<=4)/\0+toNat (T3 i)*1+1<=4/\((0:Int)<=i.4 (T18 i)/\toNat (i.4 (T18 i))<=DI.l (QC.i i)/\toNat (i.4 (T18 i))<DI.k (QC.i i))/\(((0:Int)<=wrap IntKind.u32 (↑(T24 i):Int)/\wrap IntKind.u32 (↑(T24 i) :
 Int)<4294967296)/\(4<=DI.l (QC.i i)-toNat (i.4 (T18 i))/\(T7 i).1 (T22 i)/\DI.c (QC.i i)+toNat (i.4 (T18 i))*1+4<=(RM.mk (RM.D (T7 i)) (RM.S (T7 i)) (RM.F (T7 i))).2 (T22 i))/\C4 .u8 ((RM.mk (RM.D (T7 i)) (RM.S (T7 i))
 (RM.F (T7 i))).3 (T22 i) (DI.c (QC.i i)+toNat (i.4 (T18 i))*1+3)))/\true=true/\(True->∀(i_5:DI),(0<=(T3 i)/\(T3 i)<4)/\((T7 i).1 b0/\2+toNat (T3 i)*1<(T5 i).2 b0)/\((midOk a0 a2/\midOk a1 a3)/\0<=(T3 i)/\(T3 i)
 < 4)/\((0=0/\0=ptC (T4 i)/\qmO (T13 i) (ptB (T4 i)) (T23 i) (T22 i) (DI.c (QC.i i)) (T24 i) (DI.k (QC.i i)) H)/\a1e (T4 i))/\true=true/\(qmP (T13 i) (ptB (T4 i)) (T23 i) (T22 i) (DI.c (QC.i i)) (T24 i) i_5->∃(pq:QC),q4P q b0 T12 b c
 l pq/\4-QC.j pq<4-QC.j i/\(T8/\(True/\DI.b i_5=DI.b (QC.i pq)/\DI.c i_5=DI.c (QC.i pq)/\DI.l i_5=DI.l (QC.i pq)/\DI.k i_5=DI.k (QC.i pq))/\T10/\T10/\wrap .i64 ((T3 i)+1)=(T27 pq)/\True)/\True/\(0=0/\0=0/\
 ts=ts/\(DI.q i_5).3=(T16 pq).3/\(DI.q i_5).2=(T16 pq).2/\RM.D (DI.q i_5)=RM.D (T16 pq))/\True/\T2/\True/\(206=206/\0=0/\4<=4/\∀(i_6:Nat),i_6<4->i.4 i_6=pq.4 i_6)/\True)))/\((!R8 (T14 i))=false->∃(pq:QC),q4P
 q b0 T12 b c l pq/\4-QC.j pq<4-QC.j i/\(T8/\(T17 i pq)/\T10/\T10/\wrap .i64 ((T3 i)+1)=(T27 pq)/\True)/\True/\(T20 i pq)/\True/\T2/\True/\(T25 i pq)/\True))/\(decide ((T3 i)<4)=false->R (Option.some (Ob.mk true 0
 (b8.raw ts (RM.D (T7 i)) (T7 i).2 (T7 i).3) 0)) (SV.slb 0 (T22 i) (DI.c (QC.i i)) (T24 i) (DI.k (QC.i i)))))))))))):=by subst t1 t2 t3 t4 t5 t6 t7 t8 t9 t10 t11 t12 t13 t14 t15 t16 t17 t18 t19 t20 t21 t22 t23 t24 t25 t26 t27 t28;kernel_rfl
theorem c8U(H:Nat)(ih:z4 prog 118 (q7 DI ⟨default⟩ (a6V H))):z4 prog 118 (q7 (DI) ⟨default⟩ (c1f (H+1))):=by
 refine D8 (x12 H ih) func118 rfl (by kernel_rfl) λargs=>?_
 unfold c1f;split;rotate_left;trivial;rename_i n b0 c0 n1 b c l kk a0 a1 a2 a3;intro o0;try dsimp only
 split;rotate_left;trivial;rename_i ts q hm0;intro(ho:n=n1/\0=c0/\(qmO q b0 ⟨a0,a1,a2,a3⟩ b c l kk (H+1)));obtain⟨heq0,heq1,ho⟩:=ho;subst heq0 heq1;refine⟨?_,Nat.succ_pos _,ts,λ(i:DI)=>i.q,λ(i:DI)=>.slb 0 i.b i.c i.l i.k,λ_=>rfl,?_,_,_,(b9S (J3 1 ts (λ(i:DI)=>qmP q b0 ⟨a0,a1,a2,a3⟩ b c l i) (λ(i:DI)=>i.q) (λ(i:DI)=>.slb 0 i.b i.c i.l i.k)) H ts q b0 b c l kk a0 a1 a2 a3 rfl rfl rfl rfl rfl rfl rfl rfl rfl rfl rfl rfl rfl rfl rfl rfl rfl rfl rfl rfl rfl rfl rfl rfl rfl rfl rfl rfl).mpr ?_⟩
 ·refine g9 rfl ⟨λ_=>rfl,?_,⟨trivial,C2 hm0,trivial⟩⟩;simp[l9,w8,A9,y4,y6,nth,a8]
 ·intro i _;rfl
 ·obtain⟨hO,R,m,d,k,hA,hbd,hdK,hd16,hQB⟩:=ho;obtain⟨s1,s2,s3,s4,s5,s6⟩:=hA.sl;have hL:slL (q.F b0 1)=qnL q b0:=rfl
  have hw32:∀ v:Nat,v<=100000000->wrap .u32 ((v:Nat):Int)=((v:Nat):Int):=λv hv=>by
   show ((v:Nat):Int) % 4294967296=_;omega
  have hI:∀ t,q8 (q.F (slB (q.F b0 1)) (slC (q.F b0 1)+t))=qit q b0 t:=λ_=>rfl
  simp only[true_and,and_true,eq_self,tN9,Nat.mul_one,decide_eq_true_eq,decide_eq_false_iff_not,true_implies];simp only[hL,hw32 _ (show qnL q b0<=100000000 by omega),hI];refine⟨⟨s5,by omega⟩,s1,⟨(0,nbI (qnL q b0:Nat)),⟨Nat.zero_le _,b2n _,Int.le_refl _,λt ht=>absurd ht (Nat.not_lt_zero t)⟩,rfl,rfl⟩,?_⟩;rintro⟨j,w⟩ ⟨p1,p2,p3,p4⟩;dsimp only at p1 p2 p3 p4 ⊢;refine⟨⟨s5,by omega⟩,s1,λhlt=>?_,λhge=>?_⟩
  ·obtain⟨i1,i2,i3,i4,i5⟩:=hA.item (apd.refl hO) (t:=j) (by omega);have hwj:IntKind.i64.wrap ((j:Int)+1)=((j+1:Nat):Int):=by rw[p8 (by omega) (by omega)];rfl
   refine⟨⟨s5,by omega⟩,⟨i1,by omega,by omega⟩,⟨i2.1,i2.2,by rw[i3];rfl⟩,λhw=>⟨(j+1,nbI (qit q b0 j)),⟨by show j+1<=_;omega,b2n _,by show _<=nbI (qit q b0 j);omega,λt ht=>?_⟩,by show qnL q b0-(j+1)<qnL q b0-j;omega,rfl,hwj⟩,λhw=>⟨(j+1,w),⟨by show j+1<=_;omega,p2,p3,λt ht=>?_⟩,by show qnL q b0-(j+1)<qnL q b0-j;omega,rfl,hwj⟩⟩
   ·show nbI (qit q b0 t)<=nbI (qit q b0 j);have ht:t<j+1:=ht;rcases Nat.lt_or_ge t j with c1|c1
    ·have:=p4 t c1;omega
    ·have:t=j:=by omega
     subst this;exact Int.le_refl _
   ·show nbI (qit q b0 t)<=w;have ht:t<j+1:=ht;rcases Nat.lt_or_ge t j with c1|c1
    ·exact p4 t c1
    ·have:t=j:=by omega
     subst this;omega
  have hj:j=qnL q b0:=by omega
  subst hj;have hq1:q1P q b0 (qnL q b0,w):=⟨Nat.le_refl _,p2,p3,p4⟩;have hl8:l<=100000000:=by omega
  obtain⟨wn,hwn,hw4,hw1⟩:=p2.nat;refine λi=>⟨K5 hO (by omega) (by omega),λhp=>?_⟩
  have a1:=J6 hO (us:=[w]) rfl (by intro x hx;simp at hx;subst hx;exact p2.r) rfl hp;obtain⟨⟨b1,b2⟩,b3⟩:=hA.off a1;dsimp only at b1 b2 b3;simp only[b3,hL,hw32 _ (show qnL q b0<=100000000 by omega)];refine⟨⟨b1,by omega⟩,s1,λi2=>⟨⟨⟨a1.o,by omega⟩,⟨by omega,by omega⟩,p2⟩,λhp2=>?_⟩⟩;have a2:=a1.trans hp2;refine⟨⟨⟨i2,0,w⟩,⟨?_,hq1,Nat.zero_le _⟩,⟨⟨rfl,rfl,rfl,rfl⟩,rfl,rfl⟩,rfl,rfl,rfl⟩,?_⟩
  ·have:qhI q b0 w 0=[w]++byL (qnL q b0:Nat) w.toNat:=by simp[qhI]
   show apd q b c l (qhI q b0 w 0) i2;rw[this];exact a2
  clear a1 a2 b1 b2 b3 hp hp2 hge;rintro⟨i3,j,w2⟩ ⟨g1,g2,g3⟩;dsimp only at g1 g2 g3 ⊢;obtain⟨⟨b1,b2⟩,b3⟩:=hA.off g1;obtain⟨wn2,rfl,hw24,hw21⟩:=g2.2.1.nat;have hlen:=g1.n;rw[R7]at hlen;have hm:=a5w (n:=j) hw24
  have hqb:26+4*qnL q b0<=qBy d k.its.length:=by
   obtain⟨sp,v,E,ks,_,_,_,e4,_⟩:=hA.its;obtain⟨_,_,_,_,f1,_,_,f4,_⟩:=hA.node;have:qnL q b0<=k.its.length:=by unfold qnL;rw[f1.s1,f1.u.n];exact f4
   have h2:26*1<=26*(1+d*k.its.length):=Nat.mul_le_mul_left _ (by omega);unfold qBy;omega
  simp only[b3,hL];refine⟨⟨b1,by omega⟩,s1,λhlt=>?_,λhge=>?_⟩
  ·obtain⟨i1,i2',i3',i4,i5⟩:=hA.item g1 (t:=j) (by omega);have hwj:IntKind.i64.wrap ((j:Int)+1)=((j+1:Nat):Int):=by rw[p8 (by omega) (by omega)];rfl
   simp only[i3',q8];refine⟨⟨b1,by omega⟩,⟨i1,by omega,by omega⟩,⟨i2'.1,i2'.2,rfl⟩,λi6=>⟨⟨⟨g1.o,by omega⟩,⟨i4,i5⟩,g2.2.1⟩,λhp=>⟨⟨i6,j+1,(wn2:Int)⟩,⟨?_,g2,by show j+1<=_;omega⟩,by show qnL q b0-(j+1)<qnL q b0-j;omega,⟨⟨rfl,rfl,rfl,rfl⟩,rfl,hwj⟩,rfl,rfl,rfl⟩⟩⟩;show apd q b c l (qhI q b0 (wn2:Int) (j+1)) i6;rw[b5H];exact g1.trans hp
  have hj:j=qnL q b0:=by omega
  subst hj;refine⟨⟨b1,by omega,s2⟩,λhs=>λi4=>⟨K5 g1.o (by omega) (by omega),λhp=>?_⟩,λhs=>λi4=>⟨K5 g1.o (by omega) (by omega),λhp=>?_⟩⟩
  ·have a1:=g1.trans (J6 g1.o (us:=[0]) rfl (by decide) rfl hp);have hs':a0f (q.F b0 0)=false:=by simpa using hs
   exact⟨⟨⟨i4.D,i4.S,i4.F⟩,i4.b,i4.c,i3.l+1,i4.k⟩,λR' m' d' k' hA' hbd'=>c3k hA' hs' a1 g2,rfl,⟨trivial,rfl,rfl,rfl,rfl⟩⟩
  have hs':a0f (q.F b0 0)=true:=by simpa using hs
  have a1:=g1.trans (J6 g1.o (us:=[1]) rfl (by decide) rfl hp);rw[<-a5L]at a1;refine⟨⟨⟨⟨⟨i4.D,i4.S,i4.F⟩,i4.b,i4.c,i3.l+1,i4.k⟩,0,(wn2:Int),λ_=>0⟩,⟨hs',a1,g2,Nat.zero_le _,λt ht=>absurd ht (Nat.not_lt_zero t)⟩,⟨⟨rfl,rfl,rfl,rfl⟩,rfl⟩,⟨rfl,rfl,rfl⟩,Nat.le_refl _,λt ht=>?_⟩,?_⟩
  ·match t,ht with
   | 0,_=>rfl
   | 1,_=>rfl
   | 2,_=>rfl
   | 3,_=>rfl
  clear a1 hp b1 b2 b3 g1 hlen hm;obtain⟨e,rfl⟩:=hA.pos hs';rintro⟨i5,j,w3,gm⟩ ⟨_,g1,g3,g4,g5⟩;dsimp only at g1 g3 g4 g5 ⊢;obtain⟨⟨b1,b2⟩,b3⟩:=hA.off g1;have hF4:=c0n (w:=w3) hA hs' g3.2.1;have hFj:=a0u (q:=q) (b0:=b0) w3 g4;have hlen:=g1.n;have hN:∀ t,R8 (q.F b0 (2+t))=a4D q b0 t:=λ_=>rfl
  simp only[b3,hN];refine⟨λhlt=>?_,λhge=>?_⟩
  ·have hwj:IntKind.i64.wrap ((j:Int)+1)=((j+1:Nat):Int):=by rw[p8 (by omega) (by omega)];rfl
   refine⟨⟨by omega,by omega⟩,⟨b1,by omega⟩,s4 j (by omega),λhn i6=>⟨K5 g1.o (by omega) (by omega),λhp=>?_⟩,λhn i6=>⟨K5 g1.o (by omega) (by omega),λhp=>⟨⟨⟨by omega,by omega⟩,by omega⟩,by omega,λi7=>⟨?_,λhp2=>?_⟩⟩⟩⟩
   ·have a1:=g1.trans (J6 g1.o (us:=[0]) rfl (by decide) rfl hp);refine⟨⟨⟨⟨i6.D,i6.S,i6.F⟩,i6.b,i6.c,i5.l+1,i6.k⟩,j+1,w3,gm⟩,⟨hs',?_,g3,by show j+1<=4;omega,λt ht ht2=>?_⟩,by show 4-(j+1)<4-j;omega,⟨⟨rfl,rfl,rfl,rfl⟩,hwj⟩,⟨rfl,rfl,rfl⟩,Nat.le_refl _,λ_ _=>rfl⟩
    ·show apd q b c l (qhF q b0 w3 (j+1)) _;rw[Y8,show qfl q b0 j=[0]from if_pos hn];exact a1
    ·have ht:t<j+1:=ht;by_cases c1:t=j
     ·subst c1;rw[hn]at ht2;exact absurd ht2 (by decide)
     ·exact g5 t (by omega) ht2
   ·have a1:=J6 g1.o (us:=[1]) rfl (by decide) rfl hp;exact K5 a1.o (by show i5.l+1<=1000000000;omega) (by omega)
   ·have a1:=J6 g1.o (us:=[1]) rfl (by decide) rfl hp;have a2:=(g1.trans a1).trans (J6 a1.o (us:=[0,0,0,0]) rfl (by decide) rfl hp2);refine⟨⟨⟨⟨i7.D,i7.S,i7.F⟩,i7.b,i7.c,i5.l+1+4,i7.k⟩,j+1,w3,upd gm (0+j) ((i5.l+1:Nat):Int)⟩,⟨hs',?_,g3,by show j+1<=4;omega,λt ht ht2=>?_⟩,by show 4-(j+1)<4-j;omega,⟨⟨rfl,rfl,rfl,rfl⟩,hwj⟩,⟨rfl,rfl,rfl⟩,Nat.le_refl _,λ_ _=>rfl⟩
    ·show apd q b c l (qhF q b0 w3 (j+1)) _;rw[Y8,show qfl q b0 j=[1]++[0,0,0,0]from if_neg (by rw[hn];decide),<-List.append_assoc];exact a2
    ·have ht:t<j+1:=ht;show upd gm (0+j) ((i5.l+1:Nat):Int) t=_;rw[Nat.zero_add];by_cases c1:t=j
     ·subst c1;unfold upd;simp;omega
     ·have:=g5 t (by omega) ht2;unfold upd;simp[c1];rw[this];rfl
  have hj:j=4:=by omega
  subst hj;refine⟨⟨⟨i5,0,w3,gm⟩,⟨hs',g3,Nat.zero_le _,g5,λR' m' d' k' hA' hbd'=>b6c (p:=⟨i5,4,w3,gm⟩) hA' hs' g1 g3.2.1 rfl rfl rfl⟩,⟨⟨rfl,rfl,rfl,rfl⟩,rfl⟩,⟨rfl,rfl,rfl⟩,Nat.le_refl _,λ_ _=>rfl⟩,?_⟩;clear b1 b2 b3 g1 hlen hge hFj hF4 g5 g4;rintro⟨i8,j,w4,gm4⟩ ⟨_,h1,h2,h3,h4⟩;dsimp only at h1 h2 h3 h4 ⊢;have hK:=h4 R m e k hA hbd;obtain⟨us,_,_,_,u1,_⟩:=id hK;obtain⟨⟨b1,b2⟩,b3⟩:=hA.off u1;dsimp only at b1 b2 b3;simp only[b3,hN];refine⟨λhlt=>⟨⟨by omega,by omega⟩,⟨b1,by omega⟩,s4 j (by omega),λhn=>?_,λhn=>?_⟩,λhge=>?_⟩
  ·have hn':a4D q b0 j=false:=by simpa using hn
   have hjl:j<4:=by omega
   have hwj:IntKind.i64.wrap ((j:Int)+1)=((j+1:Nat):Int):=by rw[p8 (by omega) (by omega)];rfl
   obtain⟨x,x1,x2,x3,x4,x5,x6,x7,x8⟩:=b3J hA hbd h1.2.1 hK hjl hn';have hgm:=h3 j hjl hn';dsimp only at x1 x2 x3 x4 x5 x6 x7 x8;rw[Nat.add_assoc]at hgm;have hgm0:gm4 (0+j)=((l+((qhF q b0 w4 j).length+1):Nat):Int):=by rw[Nat.zero_add];exact hgm
   clear hgm;generalize hM:l+((qhF q b0 w4 j).length+1)=M at *;have hl8':=hw32 i8.l (by omega)
   have hby:C4 .u8 (i8.q.F i8.b (i8.c+M+3)):=by
    have:=(x4.is (M+3) (by omega)).i
    rwa [<-Nat.add_assoc]at this
   have hbne:b0≠i8.b:=λe1=>by
    rcases u1.nw with e2|e2
    ·exact hA.bne (e1.trans e2)
    ·exact e2 (e1▸s5)
   have hpt:pB (pB (pB (pB i8.q.F i8.b (i8.c+M) (i8.l:Nat) 0) i8.b (i8.c+M) (i8.l:Nat) 1) i8.b (i8.c+M) (i8.l:Nat) 2) i8.b (i8.c+M) (i8.l:Nat) 3 b0 (2+j)=.pointer (some ⟨x.b,0,none⟩):=by
    unfold pB;rw[b9 (.inl hbne),b9 (.inl hbne),b9 (.inl hbne),b9 (.inl hbne),b3];exact x1
   have x4S:=x4.S;have x4k:=x4.le;simp only[hgm0,tN9,hl8',hpt,ptC,ptB];refine λ_=>⟨⟨⟨by omega,by omega⟩,by omega⟩,by omega,⟨by omega,by omega,by omega⟩,⟨⟨by omega,by omega⟩,⟨by omega,x4.D,by omega⟩,hby⟩,λi9=>⟨⟨by omega,by omega⟩,⟨b1,by show 2+j<i8.q.S b0;omega⟩,⟨hQB.midOk (by omega),by omega,by omega⟩,⟨⟨trivial,?_⟩,rfl⟩,λhP=>⟨⟨i9,j+1,w4,gm4⟩,⟨hs',h1,by show j+1<=4;omega,h3,λR' m' d' k' hA' hbd'=>?_⟩,by show 4-(j+1)<4-j;omega,⟨⟨rfl,rfl,rfl,rfl⟩,hwj⟩,⟨rfl,rfl,rfl⟩,Nat.le_refl _,λ_ _=>rfl⟩⟩⟩
   ·exact⟨x5,R,m,e,x,x6,x7,by omega,by omega,hQB.sub (by omega) _⟩
   ·obtain⟨y,y1,_,_,_,_,_,_,y8⟩:=b3J hA' hbd' h1.2.1 (h4 R' m' d' k' hA' hbd') hjl hn';dsimp only at y1 y8;rw[x1]at y1;have hxy:x.b=y.b:=by simpa using y1
    rw[hM,<-hxy]at y8;exact y8 i9 hP
  ·have hn':a4D q b0 j=true:=by simpa using hn
   have hwj:IntKind.i64.wrap ((j:Int)+1)=((j+1:Nat):Int):=by rw[p8 (by omega) (by omega)];rfl
   exact⟨⟨i8,j+1,w4,gm4⟩,⟨hs',h1,by show j+1<=4;omega,h3,λR' m' d' k' hA' hbd'=>b9B (h4 R' m' d' k' hA' hbd') (by show j<4;omega) hn' rfl rfl rfl⟩,by show 4-(j+1)<4-j;omega,⟨⟨rfl,rfl,rfl,rfl⟩,hwj⟩,⟨rfl,rfl,rfl⟩,Nat.le_refl _,λ_ _=>rfl⟩
  ·refine⟨i8,λR' m' d' k' hA' hbd'=>?_,rfl,⟨trivial,rfl,rfl,rfl,rfl⟩⟩;obtain⟨e',rfl⟩:=hA'.pos hs';exact c4m hA' h1 (h4 R' m' e' k' hA' hbd') (by show 4<=j;omega)
theorem b4o:z4 prog 118 (q7 DI ⟨default⟩ (a6V 0)):=by
 refine a1E x0 func118 rfl (by kernel_rfl) λargs=>?_
 unfold a6V;split;rotate_left;trivial;rename_i n b0 c0 n1 b c l kk a0 a1 a2 a3;intro o0;try dsimp only
 split;rotate_left;trivial;intro ho;exfalso;obtain⟨_,_,_,R,m,d,k,_,_,h,_⟩:=ho;omega
theorem b3o:∀ H,z4 prog 118 (q7 DI ⟨default⟩ (a6V H))
 | 0=>b4o
 | H+1=>c8U H (b3o H)
end
def W22(x:Nat):Prop:=FI x (wh x)/\(wh x).natAbs<=2 ^ 22
def FL2(g:Nat->Nat)(m:Nat):Prop:=∀ j,j<m->W22 (g j)
theorem W1.w22{x:Nat}(h:W1 x):W22 x:=⟨h.1,h.abs⟩
noncomputable def b2K:List SV->RdM
 | [.ptr s 0]=>.read s λo0=>(match V9 o0.c with
  | some (cl,cw,cv,k,x,y,z,w,p,n)=>.read p λo1=>(match w7 .f64 o1.c with
  | some (m1,g)=>.ret ⟨[.ptr 0 0],[(0,⟨false,150,L8 cl cw cv k x y z w 1 n,0⟩),(1,⟨false,100, .flts .f64 m1 g,0⟩)], .int .i64 (nsg cl n (wz g)),[],[],some (m1=2*n/\n<=1000000/\FL2 g (2*n))⟩
  | none=>.fail)
  | none=>.fail)
 | _=>.fail
theorem b5y(cl cw cv:Bool)(k:Int)(x y z w:Nat)(_:Nm)(n:Nat)(g:Nat->Nat){w9:HC}(e9:w9=⟨[.ptr 0 0],[(0,⟨false,150,L8 cl cw cv k x y z w 1 n,0⟩),(1,⟨false,100, .flts .f64 (2*n) g,0⟩)], .int .i64 (nsg cl n (wz g)),[],[],some (2*n=2*n/\n<=1000000/\FL2 g (2*n))⟩){T1}(t1:T1=(fEq .f64 (g (0 +
 Int.toNat (IntKind.wrap .i64 ((↑n:Int)-1))*2)) (g 0)&&(fEq .f64 (g (0+Int.toNat (IntKind.wrap .i64 ((↑n:Int)-1))*2+1)) (g 1)&&true))){T2}(t2:T2=(↑n:Int)){T3}(t3:T3=(↑(nsg cl n (wz g)):Int)):D6 GPF 2 [] [] (l7 f111) (z6 f111.ntmps w9.args w9.heap 2) (A0 GPF.E.T f111.results.toList λS v=>B3 2 w9 S v)=(
 (cl=true->(decide (T2<3)=true->0=T3/\True)/\(decide (T2<3)=false->(((0:Int)<=IntKind.wrap .i64 (T2-1)/\IntKind.wrap .i64 (T2-1)<T2)/\1<=2*n)/\0+Int.toNat (IntKind.wrap .i64 (T2-1))*2+2<=2*n/\(((0:Int)<=0
 /\0<T2)/\1<=2*n)/\2<=2*n/\true=true/\(T1=true->IntKind.wrap .i64 (T2-1)=T3/\True)/\(T1=false->T2=T3/\True)))/\(cl=false->(decide (T2<2)=true->0=T3/\True)/\(decide (T2<(2:Int))=false->IntKind.wrap .i64
 (T2-1)=T3/\True))):=by subst e9 t1 t2 t3;kernel_rfl
theorem c4O:z8 prog 111 (z5 b2K):=by
 refine q9 gPF func111 rfl (by kernel_rfl) λargs=>?_
 unfold b2K;split;rotate_left;trivial;rename_i s;intro o0;try dsimp only
 split;rotate_left;trivial;rename_i cl cw cv k x y z w p n hm0;intro o1;try dsimp only
 split;rotate_left;trivial;rename_i m1 g hm1;intro(ho:m1=2*n/\n<=1000000/\FL2 g (2*n));obtain⟨hsz1,ho⟩:=ho;subst hsz1;refine⟨?_,_,_,(b5y cl cw cv k x y z w p n g rfl rfl rfl rfl).mpr ?_⟩
 ·refine g9 rfl ⟨?_,⟨trivial,F0 hm0 a8,⟨trivial,(w6 hm1).1,trivial⟩⟩⟩;simp[l9,w8,y4,y6,nth,a8]
 ·obtain⟨hn,hg⟩:=ho;have hw:IntKind.i64.wrap ((n:Int)-1)=n-1:=p8 (by omega) (by omega);rw[hw];refine⟨λhc=>⟨λh=>?_,λh=>?_⟩,λhc=>⟨λh=>?_,λh=>?_⟩⟩
  ·have h:=oT9 h;refine⟨?_,trivial⟩;unfold nsg;rw[if_pos hc,if_pos (by omega)];rfl
  ·have h:=of_decide_eq_false h;have e:0+((n:Int)-1).toNat*2=2*(n-1):=by omega
   rw[e];have e1:fEq .f64 (g (2*(n-1))) (g 0)=decide (wz g (2*(n-1))=wz g 0):=N6 (hg _ (by omega)).1 (hg _ (by omega)).1;have e2:fEq .f64 (g (2*(n-1)+1)) (g 1)=decide (wz g (2*(n-1)+1)=wz g 1):=N6 (hg _ (by omega)).1 (hg _ (by omega)).1;rw[e1,e2];refine⟨by omega,by omega,by omega,by omega,rfl,λh1=>⟨?_,trivial⟩,λh1=>⟨?_,trivial⟩⟩
   ·unfold nsg;rw[if_pos hc,if_neg (by omega),if_pos (by simpa using h1)];omega
   ·unfold nsg;rw[if_pos hc,if_neg (by omega),if_neg (by simpa using h1)]
  ·have h:=oT9 h;refine⟨?_,trivial⟩;unfold nsg;rw[if_neg (by simp[hc])];omega
  ·have h:=of_decide_eq_false h;refine⟨?_,trivial⟩;unfold nsg;rw[if_neg (by simp[hc])];omega
structure BI where
 q:RM
 b:Nat
 j:Nat
def biT:List Nat:=[180,191,177,208,210,178,188,183,185,98,5,200]
noncomputable def c7s(g:Nat->Nat)(n i:Nat):Bx:=⟨zI (.float .f64 (rcF g n i).x0),zI (.float .f64 (rcF g n i).y0),zI (.float .f64 (rcF g n i).x1),zI (.float .f64 (rcF g n i).y1)⟩
noncomputable def a6k(g:Nat->Nat)(n j:Nat):List (Int×Bx):=(List.range j).map λ(i:Nat)=>(((i:Nat):Int),c7s g n i)
def b0g(g:Nat->Nat)(n m:Nat)(p:BI):Prop:=p.j<=m/\∃ fp,isRT p.q p.b 0 fp (a6k g n p.j)
def b0F(g:Nat->Nat)(n m:Nat)(Q:Q4)(p:BI):Prop:=p.j<=m/\∃ k,qiA p.q g n p.b Q 16 k/\k.its.Perm (List.range p.j)
def c4w(m:Nat)(k:Int)(n:Nat)(g:Nat->Nat)(Q:Q4)(r:Nat×(Nat->Int)):Prop :=
 ((5<=r.1/\r.1<=2000000)/\∀ p,p<r.1->0<=r.2 p/\r.2 p<256)/\r.2 0=k/\leN r.2 1 4=(r.1:Int)/\
 (k=1->(m=0->r.1=5)/\(m≠0->∃ h its B,its.Perm (a6k g n m)/\h<=100/\r.2 5=((h:Nat):Int)/\6<=r.1/\a0Z r.2 h 6 r.1 its B))/\
 (k=2->∃ its,its.Perm (List.range m)/\a8N r.2 (rcF g n) n 16 5 r.1 Q its)
def b5M(m:Nat)(k:Int)(n:Nat)(g:Nat->Nat)(Q:Q4):Prop :=
 (k=1∨k=2)/\n<=100/\FL2 g (2*n)/\(k=2->QB 16 Q/\∀ i,i<m->a1W (rcF g n) n Q i)
theorem b9K(cl:Bool)(n:Nat)(z:Nat->Int):nsg cl n z<=n:=by
 unfold nsg
 repeat' split
 all_goals omega
theorem c3U{n i:Nat}(h:i<n):nx n i<n:=by
 unfold nx;split <;> omega
theorem b3F{x y:Nat}(hx:W22 x)(hy:W22 y):W22 (O2 x y):=by unfold O2;split <;> assumption
theorem b3f{x y:Nat}(hx:W22 x)(hy:W22 y):W22 (O4 x y):=by unfold O4;split <;> assumption
theorem W22.fz{x:Nat}(h:W22 x):fz (.float .f64 x) (wh x):=⟨rfl,h.1,h.2⟩
theorem c1Q{g:Nat->Nat}{n i:Nat}(h:FL2 g (2*n))(hi:i<n):W22 (rcF g n i).x0/\W22 (rcF g n i).y0/\W22 (rcF g n i).x1/\W22 (rcF g n i).y1:=by
 have h1:=c3U hi;exact⟨b3F (h _ (by omega)) (h _ (by omega)),b3F (h _ (by omega)) (h _ (by omega)),b3f (h _ (by omega)) (h _ (by omega)),b3f (h _ (by omega)) (h _ (by omega))⟩
theorem b5j(g:Nat->Nat)(n j:Nat):a6k g n (j+1)=a6k g n j++[((j:Int),c7s g n j)]:=by
 unfold a6k;rw[List.range_succ,List.map_append];rfl
theorem a3K(g:Nat->Nat)(n j:Nat):(a6k g n j).length=j:=by simp[a6k]
def nwB(q:RM)(a s:Nat)(f:Nat->Value):RM:=⟨K3 q.D a,D9 q.S a s,C8 q.F a f⟩
theorem a5j{q:RM}{a s:Nat}{f:Nat->Value}(ha:¬q.D a):∀ c,q.D c->(nwB q a s f).D c/\(nwB q a s f).S c=q.S c/\∀ k,(nwB q a s f).F c k=q.F c k:=λc hc=>by
 have hne:c≠a:=λe=>ha (e▸hc)
 exact⟨.inr hc,by simp only[nwB,D9];rw[if_neg hne],λk=>by simp only[nwB,C8];rw[if_neg hne]⟩
theorem a5o(q:RM)(a s:Nat)(f:Nat->Value):(nwB q a s f).D a/\(nwB q a s f).S a=s/\∀ k,(nwB q a s f).F a k=f k:=⟨.inl rfl,by simp[nwB,D9],λk=>by simp[nwB,C8]⟩
theorem b8L(g:Nat->Nat)(n m:Nat){a:Nat}{q:RM}(hD:q.D a)(hS:q.S a=8)(hF:∀ k,q.F a k=rz tys 180 k):b0g g n m ⟨q,a,0⟩:=by
 refine⟨Nat.zero_le _,[], .inl ⟨rfl,rfl,hD,by show 0+8<=q.S a;omega,?_,?_,?_⟩⟩
 ·show q.F a 0=_;rw[hF];rfl
 ·show q.F a (0+1)=_;rw[hF];rfl
 ·show q.F a (0+6)=_;rw[hF];rfl
theorem b6P{g:Nat->Nat}{n m:Nat}{p:BI}(h:b0g g n m p)(hj:p.j<m)(hm:m<=n)(hn:n<=100)(hg:FL2 g (2*n)){a c:Nat}(ha:¬p.q.D a)(hc:¬(c=a∨p.q.D c)){f1 f2:Nat->Value}
  (e1:f1 0=.float .f64 (rcF g n p.j).x0) (e2:f1 1=.float .f64 (rcF g n p.j).y0) (e3:f2 0=.float .f64 (rcF g n p.j).x1) (e4:f2 1=.float .f64 (rcF g n p.j).y1) :
  inO (nwB (nwB p.q a 2 f1) c 2 f2) p.b 0 a 0 2 c 0 2/\∀ q',inP (nwB (nwB p.q a 2 f1) c 2 f2) p.b 0 a 0 c 0 (p.j:Int) q'->b0g g n m ⟨q',p.b,p.j+1⟩:=by
 obtain⟨_,fp,ht⟩:=h;obtain⟨w1,w2,w3,w4⟩:=c1Q hg (by omega:p.j<n);have hc':¬(nwB p.q a 2 f1).D c:=λhh=>hc (hh.elim (λe=>.inl e) .inr)
 have o1:=a5j (s:=2) (f:=f1) ha;have n1:=a5o p.q a 2 f1;have o2:=a5j (s:=2) (f:=f2) hc';have n2:=a5o (nwB p.q a 2 f1) c 2 f2;have n1':=o2 a n1.1;have f10:(nwB (nwB p.q a 2 f1) c 2 f2).F a 0=.float .f64 (rcF g n p.j).x0:=by rw[n1'.2.2,n1.2.2,e1]
 have f11:(nwB (nwB p.q a 2 f1) c 2 f2).F a (0+1)=.float .f64 (rcF g n p.j).y0:=by rw[n1'.2.2,n1.2.2];exact e2
 have f20:(nwB (nwB p.q a 2 f1) c 2 f2).F c 0=.float .f64 (rcF g n p.j).x1:=by rw[n2.2.2,e3]
 have f21:(nwB (nwB p.q a 2 f1) c 2 f2).F c (0+1)=.float .f64 (rcF g n p.j).y1:=by rw[n2.2.2];exact e4
 have ht2:isRT (nwB (nwB p.q a 2 f1) c 2 f2) p.b 0 fp (a6k g n p.j):=(ht.same o1).same o2;refine⟨⟨⟨rfl,rfl⟩,a2Z.mk' n1'.1 (by rw[n1'.2.1,n1.2.1];omega) (by rw[f10];exact w1.fz) (by rw[f11];exact w2.fz),a2Z.mk' n2.1 (by rw[n2.2.1];omega) (by rw[f20];exact w3.fz) (by rw[f21];exact w4.fz),fp,_,ht2,by rw[a3K];omega⟩,λq' hP=>?_⟩;obtain⟨fp',h'⟩:=hP fp _ ht2 (by rw[a3K];omega);refine⟨by show p.j+1<=m;omega,fp',?_⟩;rw[f10,f11,f20,f21]at h';show isRT q' p.b 0 fp' (a6k g n (p.j+1));rw[b5j];exact h'
def b5(k:Int):Nat->Value:=λj=>[Value.int .u8 k, .int .u8 0, .int .u8 0, .int .u8 0, .int .u8 0].getD j (.bool false)
theorem b6k{q:RM}{a:Nat}{k:Int}(hk:0<=k/\k<256):byO (nwB q a 5 (b5 k)) a 0 5 5:=by
 have n1:=a5o q a 5 (b5 k);refine⟨n1.1,Nat.le_refl _,by rw[n1.2.1];omega,λj hj=>?_⟩;rw[n1.2.2]
 match j,hj with
 | 0,_=>exact H8.mk' hk
 | 1,_=>exact H8.mk' (by decide)
 | 2,_=>exact H8.mk' (by decide)
 | 3,_=>exact H8.mk' (by decide)
 | 4,_=>exact H8.mk' (by decide)
theorem b7H{q:RM}{a:Nat}{k:Int}{us:List Int}{i:DI}(hp:apd (nwB q a 5 (b5 k)) a 0 5 us i)(hl:i.l<=2000000):byG (p4R i.q i.b (i.c+1) (i.l:Nat)) i.b i.c 0=k/\leN (byG (p4R i.q i.b (i.c+1) (i.l:Nat)) i.b i.c) 1 4=(i.l:Int)/\
  (∀ p,5<=p->byG (p4R i.q i.b (i.c+1) (i.l:Nat)) i.b i.c p=bG i p)/\∀ p,p<i.l->0<=byG (p4R i.q i.b (i.c+1) (i.l:Nat)) i.b i.c p/\byG (p4R i.q i.b (i.c+1) (i.l:Nat)) i.b i.c p<256:=by
 have off:∀ y,(y<i.c+1∨i.c+1+4<=y)->(p4R i.q i.b (i.c+1) (i.l:Nat)).F i.b y=i.q.F i.b y:=λy hxy=>by
  show pB _ _ _ _ _ i.b y=_;unfold pB;rw[b9 (by omega),b9 (by omega),b9 (by omega),b9 (by omega)]
 have at4:∀ j,j<4->(p4R i.q i.b (i.c+1) (i.l:Nat)).F i.b (i.c+1+j)=.int .u8 (byI (i.l:Nat) j):=λj hj=>by
  show pB _ _ _ _ _ i.b _=_;unfold pB
  match j,hj with
  | 0,_=>rw[b9 (by omega),b9 (by omega),b9 (by omega)];exact A2
  | 1,_=>rw[b9 (by omega),b9 (by omega)];exact A2
  | 2,_=>rw[b9 (by omega)];exact A2
  | 3,_=>exact A2
 refine⟨?_,b1o (λj hj=>?_) (by omega) (by omega),λp hp5=>?_,λp hpl=>?_⟩
 ·unfold byG;rw[off _ (by omega),hp.old 0 (by omega),(a5o q a 5 (b5 k)).2.2];rfl
 ·unfold byG;rw[<-Nat.add_assoc,at4 j hj];rfl
 ·unfold byG bG;rw[off _ (by omega)]
 ·unfold byG;by_cases h1:1<=p/\p<5
  ·have e:=at4 (p-1) (by omega);rw[show i.c+1+(p-1)=i.c+p by omega]at e;rw[e];show 0<=byI (i.l:Nat) (p-1)/\byI (i.l:Nat) (p-1)<256;unfold byI;exact⟨Int.emod_nonneg _ (by decide),Int.emod_lt_of_pos _ (by decide)⟩
  ·rw[off _ (by omega)];exact(hp.o.is p hpl).2
theorem b9e{g:Nat->Nat}{n m:Nat}{Q:Q4}{p:BI}(h:b0g g n m p)(hj:p.j=m)(hm:m<=n)(hn:n<=100){a:Nat}(ha:¬p.q.D a) :
  (∃ fp its,a3f (nwB p.q a 5 (b5 1)) p.b 0 a 5 fp its)/\∀ i,a4s (nwB p.q a 5 (b5 1)) p.b 0 a 0 5 i->(byO i.q i.b i.c i.l i.k/\5<=i.l/\i.l<=2000000)/\c4w m 1 n g Q (i.l,byG (p4R i.q i.b (i.c+1) (i.l:Nat)) i.b i.c):=by
 obtain⟨_,fp,ht⟩:=h;have o1:=a5j (s:=5) (f:=b5 1) ha
 have hpre:a3f (nwB p.q a 5 (b5 1)) p.b 0 a 5 fp (a6k g n p.j):=⟨ht.same o1,λe=>ha (ht.D.2 _ e),λe=>ha (e▸ht.D.1),by rw[a3K];omega,by omega,λx hx=>by
  obtain⟨t,ht1,rfl⟩:=List.mem_map.1 hx;have:=List.mem_range.1 ht1;dsimp only
  omega⟩
 refine⟨⟨fp,_,hpre⟩,λi hi=>?_⟩;obtain⟨us,u1,u2,u3,u4⟩:=hi _ _ hpre;have hn1:=u1.n;obtain⟨e1,e2,e3,e4⟩:=b7H u1 u2;refine⟨⟨u1.o,by omega,u2⟩,⟨⟨by show 5<=i.l;omega,u2⟩,e4⟩,e1,e2,λ_=>⟨λh0=>?_,λh0=>?_⟩,λh2=>absurd h2 (by decide)⟩
 ·have:a6k g n p.j=[]:=by rw[hj,h0];rfl
  have hus:=u3 this;rw[hus]at hn1;exact hn1
 ·obtain⟨hh,its,B,c1,c2,c3,c4,c5⟩:=u4 (λe=>by
   have:=congrArg List.length e;rw[a3K]at this
   simp at this;omega)
  rw[hj]at c1;exact⟨hh,its,B,c1,c2,(e3 5 (by omega)).trans c3,c4,a1D c5 λp' p1 p2=>e3 p' (by omega)⟩
theorem b7z(g:Nat->Nat)(n m:Nat)(Q:Q4){a:Nat}{q:RM}(hD:q.D a)(hS:q.S a=6)(hF:∀ k,q.F a k=rz tys 191 k):b0F g n m Q ⟨q,a,0⟩ :=
 ⟨Nat.zero_le _,⟨a,[a],[]⟩,⟨b0J hD hS hF,rfl,by simp,by simp⟩,by simp⟩
theorem b8v{g:Nat->Nat}{n m:Nat}{Q:Q4}{p:BI}(h:b0F g n m Q p)(hj:p.j<m)(hm:m<=n)(hn:n<=100)(hQ:QB 16 Q)(hi:∀ i,i<m->a1W (rcF g n) n Q i) :
  qiO p.q g n p.b Q (rcF g n p.j) p.j 16/\∀ q',qiP p.q g n p.b Q 16 p.j q'->b0F g n m Q ⟨q',p.b,p.j+1⟩:=by
 obtain⟨_,k,hk,hp⟩:=h;have hl:=hp.length_eq;rw[List.length_range]at hl;refine⟨⟨⟨by omega,hQ,by omega⟩,rfl,hi _ hj,k,hk,by omega⟩,λq' hP=>?_⟩;obtain⟨k',t1,t2,t3,t4,_⟩:=hP k hk;have hl':=t4.length_eq;refine⟨by show p.j+1<=m;omega,k',⟨t1,t2.trans hk.b,t3,by rw[hl'];simp;omega⟩,?_⟩;show k'.its.Perm (List.range (p.j+1));rw[List.range_succ];exact t4.trans ((hp.cons p.j).trans (List.perm_append_singleton p.j _).symm)
theorem b9W{g:Nat->Nat}{n m:Nat}{Q:Q4}{p:BI}(h:b0F g n m Q p)(hj:p.j=m)(hm:m<=n)(hn:n<=100)(hQ:QB 16 Q){a:Nat}(ha:¬p.q.D a) :
  qmO (nwB p.q a 5 (b5 2)) p.b Q a 0 5 5 40/\∀ i,qmP (nwB p.q a 5 (b5 2)) p.b Q a 0 5 i->(byO i.q i.b i.c i.l i.k/\5<=i.l/\i.l<=2000000)/\c4w m 2 n g Q (i.l,byG (p4R i.q i.b (i.c+1) (i.l:Nat)) i.b i.c):=by
 obtain⟨_,k,hk,hp⟩:=h;have hl:=hp.length_eq;rw[List.length_range]at hl;have o1:=a5j (s:=5) (f:=b5 2) ha
 have hA:qmA (nwB p.q a 5 (b5 2)) (rcF g n) n 16 p.b Q k a:=⟨hk.t.same λy hy=>o1 y (hk.t.D y hy),hk.b,hk.nd,hk.le,λe=>ha (hk.t.D _ e),λx hx=>by
  have:=List.mem_range.1 (hp.mem_iff.1 hx)
  omega⟩
 have hB:qBy 16 k.its.length<=50000:=by unfold qBy;omega
 refine⟨⟨b6k (by decide),_,_,_,_,hA,by omega,by omega,by omega,hQ⟩,λi hi=>?_⟩;obtain⟨us,u1,u2,u3⟩:=hi _ _ _ _ hA (by omega);have hn1:=u1.n;obtain⟨e1,e2,e3,e4⟩:=b7H u1 (by omega);refine⟨⟨u1.o,by omega,by omega⟩,⟨⟨by show 5<=i.l;omega,by show i.l<=2000000;omega⟩,e4⟩,e1,e2,λh1=>absurd h1 (by decide),λ_=>⟨k.its,by rw[<-hj];exact hp,a2E u3 λp' p1 p2=>e3 p' (by omega)⟩⟩
noncomputable section
def GBi:Ctx:=⟨⟨tys,FP⟩,[(111,z5 b2K),(112,z5 b0c),(113,A7 a5Z)]⟩
theorem gBi:A5 prog GBi:=⟨⟨C0,b6N⟩,j8.cons c4O (j8.cons c3C (j8.cons (.pure b7b) j8.nil)),by kernel_rfl⟩
def XBi:F6:=⟨GBi,[(114,q7 RM ⟨default⟩ a5N),(116,q7 DI ⟨default⟩ b1F),(115,q7 Unit ⟨()⟩ b6Y),(117,q7 RM ⟨default⟩ (a5I 40)),(118,q7 DI ⟨default⟩ (a6V 40))],[(180,2),(191,2)],[(183,2),(185,2)],[]⟩
theorem xBi:B4 prog XBi:=⟨gBi,y5.cons c0a (y5.cons c6a (y5.cons c9v (y5.cons (b3X 40) (y5.cons (b3o 40) y5.nil))))⟩
def biH(cl cw cv:Bool)(k:Int)(x y z w n:Nat)(g:Nat->Nat)(q:RM):z7:=[(0,⟨true,150,L8 cl cw cv k x y z w 1 n,0⟩),(1,⟨false,100, .flts .f64 (2*n) g,0⟩),(2,rwO biT q)]
def c8X(cl cw cv:Bool)(k:Int)(x y z w n:Nat)(g:Nat->Nat):S3:=⟨⟨BI,λp=>⟨88,[(0, .ptr 0 0),(2, .pb 2 p.b 0),(3, .int .i64 (nsg cl n (wz g))),(4, .int .i64 p.j)],biH cl cw cv k x y z w n g p.q,3⟩,b0g g n (nsg cl n (wz g)),λp=>nsg cl n (wz g)-p.j⟩,λ_=>[]⟩
def c8Z(cl cw cv:Bool)(k:Int)(x y z w n:Nat)(g:Nat->Nat):S3:=⟨⟨BI,λp=>⟨88,[(0, .ptr 0 0),(6, .pb 2 p.b 0),(7, .int .i64 (nsg cl n (wz g))),(8, .int .i64 p.j)],biH cl cw cv k x y z w n g p.q,3⟩,b0F g n (nsg cl n (wz g)) ⟨x,y,z,w⟩,λp=>nsg cl n (wz g)-p.j⟩,λ_=>[]⟩
end
noncomputable def GMi:Ctx:=⟨⟨tys,[]⟩,[(102,z5 a8Z),(97,z5 a3s)]⟩
theorem gMi:A5 prog GMi:=⟨⟨C0,FlatsOk.nil⟩,j8.cons c2c (j8.cons b3q j8.nil),by kernel_rfl⟩
def ppQ(len:Nat)(cl:Bool)(g:Nat->Nat):Q4:=⟨pick (a9 len cl) (rlo g 0 len),pick (a9 len cl) (rlo g 1 len),pick (a9 len cl) (rhi g 0 len),pick (a9 len cl) (rhi g 1 len)⟩
noncomputable section
def Z0(cl cw cv:Bool)(k:Int)(ib:Bool)(d:Nm)(m:Nat)(x y z w:Nat)(p:Nm)(n:Nat):b8:=.cells [.bool cl, .bool cw, .bool cv, .int .u8 k, .opt ib 185 (.slcc d m), .flt .f64 x, .flt .f64 y, .flt .f64 z, .flt .f64 w, .slcc p n]
def ixP(ib:Bool)(mm:Nat)(k:Int)(n:Nat)(g:Nat->Nat)(Q:Q4)(r:Nat×(Nat->Int)):Prop:=(ib=true->c4w mm k n g Q r)/\(ib=false->r.1=0)
def y7(len:Nat)(m k:Int):Bool:=decide (m≠0/\m<=(len:Int))&&decide (k≠0)
def ixK(len:Nat)(m k:Int):Int:=if m≠0/\m<=(len:Int)then k else 0
def b2z:List SV->RRd (Nat×(Nat->Int))
 | [.ptr s 0]=>.read s λo0=>(match a6a o0 150 0 with
  | true=>(match V9 o0.c with
  | some (cl,cw,cv,k,x,y,z,w,p,n)=>.read p λo1=>(match w7 .f64 o1.c with
  | some (m1,g)=>.ret ⟨[.ptr 0 0],[(0,⟨true,150,L8 cl cw cv k x y z w 1 n,0⟩),(1,⟨false,100, .flts .f64 m1 g,0⟩)],some (m1=2*n/\(k=0∨b5M (nsg cl n (wz g)) k n g ⟨x,y,z,w⟩)),λr=>ixP (decide (k≠0)) (nsg cl n (wz g)) k n g ⟨x,y,z,w⟩ r,λr=>⟨[],[], .tup [],[(0,⟨true,150,Z0 cl cw cv k (decide (k≠0)) 2 r.1 x y z w 1 n,0⟩)],[(2,⟨true,5, .ints .u8 r.1 r.2,1⟩)],none⟩⟩
  | none=>.fail)
  | none=>.fail)
  | false=>.fail)
 | _=>.fail
theorem b7K(cl cw cv:Bool)(k:Int)(x y z w:Nat)(_:Nm)(n:Nat)(g:Nat->Nat){T1}(t1:T1=λ(i:BI) (i_1:Nat) (i_2:Nat)=>(RM.mk (K3 (K3 (RM.D (BI.q i)) i_1) i_2) (D9 (D9 (BI.q i).2 i_1 2) i_2 2) (C8 (C8 (BI.q i).3 i_1 λ(j:Nat)=>List.getD [Value.float .f64 (O2 (g (2*toNat (↑(BI.j i):Int))) (g (2 *
 nx n (toNat (↑(BI.j i):Int))))),Value.float .f64 (O2 (g (2*toNat (↑(BI.j i):Int)+1)) (g (2*nx n (toNat (↑(BI.j i):Int))+1)))] j (Value.bool false)) i_2 λ(j:Nat)=>List.getD [Value.float .f64 (O4 (g (2*toNat
 (↑(BI.j i):Int))) (g (2*nx n (toNat (↑(BI.j i):Int))))),Value.float .f64 (O4 (g (2*toNat (↑(BI.j i):Int)+1)) (g (2*nx n (toNat (↑(BI.j i):Int))+1)))] j (Value.bool false)))){T2}(t2:T2=λ(i:BI) (i_2:DI)=>(True->∃
 (pq:Nat×(Nat->Int)),ixP (decide (k≠(0:Int))) (nsg cl n (wz g)) k n g (Q4.mk x y z w) pq/\True/\True/\(150=150/\0=0/\cl=cl/\cw=cw/\cv=cv/\k=k/\(decide (k≠(0:Int))=true/\True/\DI.l i_2=pq.1)/\x=x/\y=y/\z
 = z/\w=w/\(True/\n=n)/\True)/\True/\(5=5/\1=1/\pq.1<=DI.l i_2/\∀ (i:Nat),i<pq.1->byG (p4R (RM.mk (RM.D (DI.q i_2)) (DI.q i_2).2 (DI.q i_2).3) (DI.b i_2) (DI.c i_2+1) (↑(DI.l i_2):Int)) (DI.b i_2) (DI.c i_2) i=pq.2 i)/\
 True)){T3}(t3:T3=λ(i:BI) (i_1:Nat)=>(RM.mk (K3 (RM.D (BI.q i)) i_1) (D9 (BI.q i).2 i_1 5) (C8 (BI.q i).3 i_1 λ(j:Nat)=>List.getD [Value.int .u8 (1:Int),Value.int .u8 (0:Int),Value.int .u8 (0:Int),Value.int .u8 (0:Int),
 Value.int .u8 (0:Int)] j (Value.bool false)))){T4}(t4:T4=(150=150/\0=0/\cl=cl/\cw=cw/\cv=cv/\k=k/\True/\x=x/\y=y/\z=z/\w=w/\(True/\n=n)/\True)){T5}(t5:T5=(↑(nsg cl n (wz g)):Int)){T6}(t6:T6=λ(i:BI)=>(↑(BI.j
 i):Int)){T7}(t7:T7=λ(i:BI) (i_1:Nat)=>(RM.mk (K3 (RM.D (BI.q i)) i_1) (D9 (BI.q i).2 i_1 5) (C8 (BI.q i).3 i_1 λ(j:Nat)=>List.getD [Value.int .u8 (2:Int),Value.int .u8 (0:Int),Value.int .u8 (0:Int),Value.int .u8 (0:Int),
 Value.int .u8 (0:Int)] j (Value.bool false)))){T8}(t8:T8=λ(i_2:DI)=>(2*n=2*n/\byO (RM.mk (RM.D (DI.q i_2)) (DI.q i_2).2 (DI.q i_2).3) (DI.b i_2) (DI.c i_2) (DI.l i_2) (DI.k i_2)/\5<=DI.l i_2/\DI.l i_2<=2000000)){T9}(t9:T9=(Q4.mk x y
 z w)){T10}(t10:T10=(nsg cl n (wz g))){T11}(t11:T11=λ(i:Nat) (pq:BI)=>((True/\0=0)/\(True/\i=BI.b pq/\0=0)/\T5=T5/\0=(↑(BI.j pq):Int)/\True)){T12}(t12:T12=λ(i:BI)=>(RM.mk (RM.D (BI.q i)) (BI.q i).2 (BI.q
 i).3)){T13}(t13:T13=λ(i:BI)=>(2*n=2*n/\0<=(T6 i)/\(T6 i)<(↑n:Int)/\n<=1000000)){T14}(t14:T14=(2*n=2*n/\n<=1000000/\FL2 g (2*n))):L5 XBi 2 [(6,c8X cl cw cv k x y z w n g),(15,c8Z cl cw cv k x y z w n g)] [] (l7 f103) (St.addRaw (z6 f103.ntmps [.ptr 0 0] [(0,⟨true,150,L8 cl cw cv k x y z w 1 n,0⟩),(1,⟨false,100, .flts .f64 (2*n) g,0⟩)] 2) biT) (A0 XBi.G.E.T f103.results.toList λS v=>∃ r:Nat×(Nat->Int),ixP (decide (k≠0)) (nsg cl n (wz g)) k n g ⟨x,y,z,w⟩ r/\B3 2 ⟨[],[], .tup [],[(0,⟨true,150,Z0 cl cw cv k (decide (k≠0)) 2 r.1 x y z w 1 n,0⟩)],[(2,⟨true,5, .ints .u8 r.1 r.2,1⟩)],none⟩ S v)=(
 ((k==(1:Int))=true->∀(i:Nat),¬False->T14/\(∃(pq:BI),b0g g n T10 pq/\(T11 i pq)/\True/\T4/\True/\(2*n<=2*n/\∀(i:Nat),i<2*n->g i=g i)/\True/\(0=0/\0=0/\biT=biT/\I7 (λ(_:Nat)=>False) (λ(_ _
 : Nat)=>Value.bool false) i (Go.Sx.rz tys 180)=(BI.q pq).3/\J9 (λ(_:Nat)=>False) (λ(_:Nat)=>0) i 8=(BI.q pq).2/\K3 (λ(_:Nat)=>False) i=RM.D (BI.q pq))/\True)/\∀(i:BI),b0g g n T10 i->(decide ((T6 i)<T5) =
 true->(T13 i)/\∀(i_1:Nat),¬(BI.q i).1 i_1->∀(i_2:Nat),¬(i_2=i_1∨(BI.q i).1 i_2)->∀(i_3:RM),(2=2/\2=2/\3=3/\inO (T1 i i_1 i_2) (BI.b i) 0 i_1 0 2 i_2 0 2)/\(inP (T1 i i_1 i_2) (BI.b i) 0 i_1 0 i_2 0 (T6 i) i_3->∃(pq :
 BI),b0g g n T10 pq/\nsg cl n (wz g)-BI.j pq<nsg cl n (wz g)-BI.j i/\((True/\0=0)/\(True/\BI.b i=BI.b pq/\0=0)/\T5=T5/\IntKind.wrap .i64 ((T6 i)+1)=(↑(BI.j pq):Int)/\True)/\True/\T4/\True/\(2*n<=2*n/\∀(i :
 Nat),i<2*n->g i=g i)/\True/\(0=0/\0=0/\biT=biT/\i_3.3=(BI.q pq).3/\i_3.2=(BI.q pq).2/\RM.D i_3=RM.D (BI.q pq))/\True))/\(decide ((T6 i)<T5)=false->∀(i_1:Nat),¬(BI.q i).1 i_1->∀(i_2:DI),(2=2/\byO (T3 i
 i_1) i_1 0 5 5/\∃(pq:List Nat),∃(pq_1:List (Int×Bx)),a3f (T3 i i_1) (BI.b i) 0 i_1 5 pq pq_1)/\(a4s (T3 i i_1) (BI.b i) 0 i_1 0 5 i_2->∀(_:Unit),(T8 i_2)/\(T2 i i_2))))/\((k==(1:Int))=false->((k==(2:Int))=true->∀
 (i:Nat),¬False->T14/\(∃(pq:BI),b0F g n T10 T9 pq/\(T11 i pq)/\True/\T4/\True/\(2*n<=2*n/\∀(i:Nat),i<2*n->g i=g i)/\True/\(0=0/\0=0/\biT=biT/\I7 (λ(_:Nat)=>False) (λ(_ _:Nat)=>Value.bool
 false) i (Go.Sx.rz tys 191)=(BI.q pq).3/\J9 (λ(_:Nat)=>False) (λ(_:Nat)=>0) i 6=(BI.q pq).2/\K3 (λ(_:Nat)=>False) i=RM.D (BI.q pq))/\True)/\∀(i:BI),b0F g n T10 T9 i->(decide ((T6 i)<T5)=true->(T13 i)/\∀
 (i_1:RM),(0=0/\2*n=2*n/\((0:Int)<=0/\(0:Int)<=16/\32+a2f (T12 i) (BI.b i)<40)/\(0<=(T6 i)/\(T6 i)<(↑n:Int))/\qiO (T12 i) g n (BI.b i) T9 (Q4.mk (O2 (g (2*toNat (T6 i))) (g (2*nx n (toNat (T6 i)))))
 (O2 (g (2*toNat (T6 i)+1)) (g (2*nx n (toNat (T6 i))+1))) (O4 (g (2*toNat (T6 i))) (g (2*nx n (toNat (T6 i))))) (O4 (g (2*toNat (T6 i)+1)) (g (2*nx n (toNat (T6 i))+1)))) (toNat (T6 i)) 16)/\true
 = true/\(qiP (T12 i) g n (BI.b i) T9 16 (toNat (T6 i)) i_1->∃(pq:BI),b0F g n T10 T9 pq/\nsg cl n (wz g)-BI.j pq<nsg cl n (wz g)-BI.j i/\((True/\0=0)/\(True/\BI.b i=BI.b pq/\0=0)/\T5=T5/\IntKind.wrap .i64 ((T6 i)+(1
 : Int))=(↑(BI.j pq):Int)/\True)/\True/\T4/\True/\(2*n<=2*n/\∀(i:Nat),i<2*n->g i=g i)/\True/\(0=0/\0=0/\biT=biT/\i_1.3=(BI.q pq).3/\i_1.2=(BI.q pq).2/\RM.D i_1=RM.D (BI.q pq))/\True))/\(decide ((T6 i) <
 T5)=false->∀(i_1:Nat),¬(BI.q i).1 i_1->∀(i_2:DI),(2=2/\0=0/\qmO (T7 i i_1) (BI.b i) T9 i_1 0 5 5 40)/\(qmP (T7 i i_1) (BI.b i) T9 i_1 0 5 i_2->∀(_:Unit),(T8 i_2)/\(T2 i i_2))))/\((k==(2:Int))=false->∃(pq:Nat×(Nat
 ->Int)),ixP (decide (k≠(0:Int))) T10 k n g T9 pq/\True/\True/\(150=150/\0=0/\cl=cl/\cw=cw/\cv=cv/\k=k/\decide (k≠(0:Int))=false/\x=x/\y=y/\z=z/\w=w/\(True/\n=n)/\True)/\True/\pq.1=0/\True))):=by subst t1 t2 t3 t4 t5 t6 t7 t8 t9 t10 t11 t12 t13 t14;kernel_rfl
theorem c7V:z4 prog 103 (q7 (Nat×(Nat->Int)) ⟨(0,λ_=>0)⟩ b2z):=by
 refine b0M xBi func103 rfl (by kernel_rfl) biT λargs=>?_
 unfold b2z;split;rotate_left;trivial;rename_i s;intro o0;try dsimp only
 split;rotate_left;trivial;rename_i hrw0;try dsimp only
 split;rotate_left;trivial;rename_i cl cw cv k x y z w p n hm0;intro o1;try dsimp only
 split;rotate_left;trivial;rename_i m1 g hm1;intro(ho:m1=2*n/\(k=0∨b5M (nsg cl n (wz g)) k n g ⟨x,y,z,w⟩));obtain⟨hsz1,ho⟩:=ho;subst hsz1;refine⟨?_,_,_,(b7K cl cw cv k x y z w p n g rfl rfl rfl rfl rfl rfl rfl rfl rfl rfl rfl rfl rfl rfl).mpr ?_⟩
 ·refine g9 rfl ⟨λ_=>rfl,?_,⟨trivial,a0M hrw0 (F0 hm0 a8),⟨trivial,(w6 hm1).1,trivial⟩⟩⟩;simp[l9,w8,y4,y6,nth,a8]
 ·rcases ho with rfl|⟨hk,hn,hg,hq2⟩
  ·simp only[true_and,and_true,eq_self,tN9,decide_eq_true_eq,decide_eq_false_iff_not,true_implies,implies_true,Int.reduceLE,Int.le_refl];refine⟨λh=>absurd h (by decide),λ_=>⟨λh=>absurd h (by decide),λ_=>?_⟩⟩;refine⟨(0,λ_=>0),⟨λh=>absurd h (by decide),λ_=>rfl⟩,?_⟩;exact⟨by simp,rfl⟩
  have hm:=b9K cl n (wz g);simp only[true_and,and_true,eq_self,tN9,decide_eq_true_eq,decide_eq_false_iff_not,true_implies,implies_true,Int.reduceLE,Int.le_refl];generalize nsg cl n (wz g)=m at *;have nf:∀ a:Nat,¬(λ_:Nat=>False) a:=λ_ h=>h
  have hwj:∀ j:Nat,j<m->IntKind.i64.wrap ((j:Int)+1)=((j+1:Nat):Int):=λj hj=>by rw[p8 (by omega) (by omega)];rfl
  refine⟨λh1 a _=>⟨⟨by omega,hg⟩,?_,?_⟩,λh1=>⟨λh2 a _=>⟨⟨by omega,hg⟩,?_,?_⟩,λh2=>?_⟩⟩
  ·rw[Q9 (nf a),Q6 (nf a)];exact⟨⟨⟨K3 (λ_=>False) a,D9 (λ_=>0) a 8,C8 (λ_ _=>.bool false) a (rz tys 180)⟩,a,0⟩,b8L g n m (.inl rfl) (by simp[D9]) (λk=>by simp[C8]),⟨rfl,rfl⟩,Nat.le_refl _,rfl,rfl,rfl⟩
  ·have hk1:k=1:=by simpa using h1
   subst hk1;rintro⟨q,b,j⟩ hb;dsimp only;refine⟨λhlt=>⟨⟨by omega,by have:=hb.1;dsimp only at this;omega,by omega⟩,λa1 ha1 a2 ha2 q'=>?_⟩,λhge a1 ha1 i=>?_⟩
   ·obtain⟨s1,s2⟩:=b6P hb (by show j<m;omega) hm hn hg ha1 ha2 (f1:=λt=>[Value.float .f64 (O2 (g (2*j)) (g (2*nx n j))),Value.float .f64 (O2 (g (2*j+1)) (g (2*nx n j+1)))].getD t (.bool false)) (f2:=λt=>[Value.float .f64 (O4 (g (2*j)) (g (2*nx n j))),Value.float .f64 (O4 (g (2*j+1)) (g (2*nx n j+1)))].getD t (.bool false)) rfl rfl rfl rfl;exact⟨s1,λhP=>⟨_,s2 q' hP,by show m-(j+1)<m-j;omega,⟨rfl,hwj j (by omega)⟩,Nat.le_refl _,rfl,rfl,rfl⟩⟩
   ·obtain⟨s1,s2⟩:=b9e (Q:=⟨x,y,z,w⟩) hb (by have:=hb.1;dsimp only at this;show j=m;omega) hm hn ha1;refine⟨⟨b6k (by decide),s1⟩,λhP _=>?_⟩;obtain⟨s3,s4⟩:=s2 i hP;exact⟨s3,_,⟨λ_=>s4,λh=>absurd h (by decide)⟩,⟨by decide,rfl⟩,Nat.le_refl _,λ_ _=>rfl⟩
  ·rw[Q9 (nf a),Q6 (nf a)];exact⟨⟨⟨K3 (λ_=>False) a,D9 (λ_=>0) a 6,C8 (λ_ _=>.bool false) a (rz tys 191)⟩,a,0⟩,b7z g n m _ (.inl rfl) (by simp[D9]) (λk=>by simp[C8]),⟨rfl,rfl⟩,Nat.le_refl _,rfl,rfl,rfl⟩
  ·have hk1:k=2:=by simpa using h2
   subst hk1;obtain⟨hQ,hit⟩:=hq2 rfl;rintro⟨q,b,j⟩ hb;dsimp only;refine⟨λhlt=>⟨⟨by omega,by have:=hb.1;dsimp only at this;omega,by omega⟩,λq'=>?_⟩,λhge a1 ha1 i=>?_⟩
   ·obtain⟨s1,s2⟩:=b8v hb (by show j<m;omega) hm hn hQ hit;have hsp:=a8L q b;exact⟨⟨by show 32+a2f q b<40;omega,⟨by omega,by omega⟩,s1⟩,λhP=>⟨_,s2 q' hP,by show m-(j+1)<m-j;omega,⟨rfl,hwj j (by omega)⟩,Nat.le_refl _,rfl,rfl,rfl⟩⟩
   ·obtain⟨s1,s2⟩:=b9W (Q:=⟨x,y,z,w⟩) hb (by have:=hb.1;dsimp only at this;show j=m;omega) hm hn hQ ha1;refine⟨s1,λhP _=>?_⟩;obtain⟨s3,s4⟩:=s2 i hP;exact⟨s3,_,⟨λ_=>s4,λh=>absurd h (by decide)⟩,⟨by decide,rfl⟩,Nat.le_refl _,λ_ _=>rfl⟩
  ·exfalso;rcases hk with rfl|rfl
   ·exact absurd h1 (by decide)
   ·exact absurd h2 (by decide)
def XMu:F6:=⟨GMi,[(103,q7 (Nat×(Nat->Int)) ⟨(0,λ_=>0)⟩ b2z)],[],[],[]⟩
theorem xMu:B4 prog XMu:=⟨gMi,y5.cons c7V y5.nil⟩
def D4(len:Nat)(cl:Bool)(g:Nat->Nat)(p:Nm)(k:Int)(ib:Bool)(d:Nm)(m:Nat):List SV :=
 [.bool cl, .bool (a9 len cl&&fGt .f64 (cwF g len len) 0), .bool (a9 len cl && !(dcF g len len).2), .int .u8 k, .opt ib 185 (.slcc d m), .flt .f64 (pick (a9 len cl) (rlo g 0 len)), .flt .f64 (pick (a9 len cl) (rlo g 1 len)), .flt .f64 (pick (a9 len cl) (rhi g 0 len)), .flt .f64 (pick (a9 len cl) (rhi g 1 len)), .slcc p len]
def G7(len:Nat)(cl:Bool)(m k:Int)(g:Nat->Nat):Prop:=len<=1000000/\(a9 len cl=true->ppOk g len)/\(y7 len m k=true->b5M (nsg cl len (wz g)) k len g (ppQ len cl g))
def c4b:List SV->RRd (Nat×(Nat->Int))
 | [.slcc n len, .tt,v, .ptr o 0]=>.read n λo0=>(match w7 .f64 o0.c with
  | some (m0,g)=>.read o λo1=>(match a0z o1.c with
  | some (k,m)=>(match v.toB with
  | some cl=>.ret ⟨[.slcc 0 len, .tt, .bool cl, .ptr 1 0],[(0,⟨false,100, .flts .f64 m0 g,0⟩),(1,⟨false,148,K7 k m,0⟩)],some (m0=2*len/\(G7 len cl m k g)),λr=>ixP (y7 len m k) (nsg cl len (wz g)) k len g (ppQ len cl g) r,λr=>⟨[],[], .agg (D4 len cl g 2 (ixK len m k) (y7 len m k) 3 r.1),[],[(2,⟨true,100, .flts .f64 (2*len) g,2⟩),(3,⟨true,5, .ints .u8 r.1 r.2,1⟩)],none⟩⟩
  | none=>.fail)
  | none=>.fail)
  | none=>.fail)
 | _=>.fail
theorem c4e(len:Nat)(cl:Bool)(m:Int)(k:Int)(g:Nat->Nat){T1}(t1:T1=(cl=cl/\(a9 len cl&&fGt .f64 (cwF g len len) 0)=(a9 len cl&&fGt .f64 (cwF g len len) 0)/\(a9 len cl && !(dcF g len len).2)=(a9 len cl && !(dcF g len len).2)/\(0:Int)=ixK len m k/\y7 len m k=false/\pick
 (a9 len cl) (rlo g 0 len)=pick (a9 len cl) (rlo g 0 len)/\pick (a9 len cl) (rlo g 1 len)=pick (a9 len cl) (rlo g 1 len)/\pick (a9 len cl) (rhi g 0 len)=pick (a9 len cl) (rhi g 0 len)/\pick (a9 len cl) (rhi g 1 len) =
 pick (a9 len cl) (rhi g 1 len)/\(True/\toNat (↑len:Int)=len)/\True)){T2}(t2:T2=(↑len:Int)){T3}(t3:T3=(a9 len cl)){T4}(t4:T4=(Q4.mk (pick T3 (rlo g 0 len)) (pick T3 (rlo g 1 len)) (pick T3 (rhi g 0 len)) (pick T3 (rhi g 1
 len)))){T5}(t5:T5=(100=100/\2=2/\2*len<=toNat T2*2/\∀ (i:Nat),i<2*len->g i=g i)){T6}(t6:T6=(a9 len cl&&fGt .f64 (cwF g len len) 0)):L5 XMu 2 [] [] (l7 f92) (z6 f92.ntmps [.slcc 0 len, .tt, .bool cl, .ptr 1 0] [(0,⟨false,100, .flts .f64 (2*len) g,0⟩),(1,⟨false,148,K7 k m,0⟩)] 2) (A0 XMu.G.E.T f92.results.toList λS v=>∃ r:Nat×(Nat->Int),ixP (y7 len m k) (nsg cl len (wz g)) k len g (ppQ len cl g) r/\B3 2 ⟨[],[], .agg (D4 len cl g 2 (ixK len m k) (y7 len m k) 3 r.1),[],[(2,⟨true,100, .flts .f64 (2*len) g,2⟩),(3,⟨true,5, .ints .u8 r.1 r.2,1⟩)],none⟩ S v)=(
 (T2=T2/\0<=T2/\T2<=9223372036854775807/\T2*16<=(140737488355328:Int))/\(len=toNat T2/\toNat T2*2=toNat T2*2/\2*len=toNat T2*2)/\(2*len=2*len/\len<=1000000/\(a9 len cl=true->ppOk g len))/\
 ((m != (0:Int))=true->(decide (m<=T2)=true->∀(i:Nat×(Nat->Int)),(toNat T2*2=2*toNat T2/\(k=(0:Int)∨b5M (nsg cl (toNat T2) (wz g)) k (toNat T2) g T4))/\(ixP (decide (k≠(0:Int))) (nsg cl (toNat T2)
 (wz g)) k (toNat T2) g T4 i->∃(pq:Nat×(Nat->Int)),ixP (y7 len m k) (nsg cl len (wz g)) k len g (ppQ len cl g) pq/\(cl=cl/\T6=T6/\(a9 len cl && !Prod.snd (dcF g len len))=(a9 len cl && !(dcF g len len).2)/\k=ixK len m k
 /\(decide (k≠(0:Int))=y7 len m k/\True/\i.1=pq.1)/\pick T3 (rlo g 0 len)=pick T3 (rlo g 0 len)/\pick T3 (rlo g 1 len)=pick T3 (rlo g 1 len)/\pick T3 (rhi g 0 len)=pick T3 (rhi g 0 len)/\pick T3 (rhi g 1 len)=pick T3 (rhi g 1
 len)/\(True/\toNat T2=len)/\True)/\True/\(100=100/\2=2/\2*len<=toNat T2*2/\∀(i:Nat),i<2*len->g i=g i)/\True/\(5=5/\1=1/\pq.1<=i.1/\∀(i_1:Nat),i_1<pq.1->i.2 i_1=pq.2 i_1)/\True))/\(decide (m<=
 T2)=false->∃(pq:Nat×(Nat->Int)),ixP (y7 len m k) (nsg cl len (wz g)) k len g (ppQ len cl g) pq/\T1/\True/\T5/\True/\pq.1=0/\True))/\((m != (0:Int))=false->∃(pq:Nat×(Nat->Int)),ixP (y7 len m k) (nsg cl len (wz g)) k
 len g (ppQ len cl g) pq/\T1/\True/\T5/\True/\pq.1=0/\True)):=by subst t1 t2 t3 t4 t5 t6;kernel_rfl
theorem mkU:z4 prog 92 (q7 (Nat×(Nat->Int)) ⟨(0,λ_=>0)⟩ c4b):=by
 refine J5 xMu func92 rfl (by kernel_rfl) λargs=>?_
 unfold c4b;split;rotate_left;trivial;rename_i n len v o;intro o0;try dsimp only
 split;rotate_left;trivial;rename_i m0 g hm0;intro o1;try dsimp only
 split;rotate_left;trivial;rename_i k m hm1;try dsimp only
 split;rotate_left;trivial;rename_i cl hcl;intro(ho:m0=2*len/\(G7 len cl m k g));obtain⟨hsz0,ho⟩:=ho;subst hsz0;refine⟨?_,_,_,(c4e len cl m k g rfl rfl rfl rfl rfl rfl).mpr ?_⟩
 ·refine g9 rfl ⟨λ_=>rfl,?_,⟨trivial,(w6 hm0).1,⟨trivial,H1 hm1,trivial⟩⟩⟩;simp[l9,w8,y4,y6,nth,a8,E0 hcl]
 ·obtain⟨hl,hpp,hb⟩:=ho;simp only[true_and,and_true,eq_self,tN9,decide_eq_true_eq,decide_eq_false_iff_not,implies_true];have e2:2*len=len*2:=by omega
  have hyes:(m != 0)=true->m<=(len:Int)->y7 len m k=decide (k≠0):=λh0 h1=>by
   have hm:m≠0/\m<=(len:Int):=⟨by simpa using h0,h1⟩;unfold y7;rw[decide_eq_true hm,Bool.true_and]
  refine⟨⟨by omega,by omega,by omega⟩,e2,⟨hl,hpp⟩,λh0=>⟨λh1 r=>⟨⟨e2.symm,?_⟩,λhP=>⟨r,?_,⟨?_,?_,rfl⟩,by omega,Nat.le_refl _,λ_ _=>rfl⟩⟩,λh1=>?_⟩,λh0=>?_⟩
  ·by_cases hk:k=0
   ·exact .inl hk
   ·exact .inr (hb (by rw[hyes h0 h1];exact decide_eq_true hk))
  ·rw[hyes h0 h1];exact hP
  ·have hm:m≠0/\m<=(len:Int):=⟨by simpa using h0,h1⟩;unfold ixK;rw[if_pos hm]
  ·exact(hyes h0 h1).symm
  ·have hno:¬(m≠0/\m<=(len:Int)):=λh=>h1 h.2
   have hf:y7 len m k=false:=by unfold y7;rw[decide_eq_false hno,Bool.false_and]
   exact⟨(0,λ_=>0),⟨λh=>by rw[hf]at h;exact absurd h (by decide),λ_=>rfl⟩,⟨by unfold ixK;rw[if_neg hno],hf⟩,by omega,rfl⟩
  ·have hno:¬(m≠0/\m<=(len:Int)):=λh=>by simp[h.1]at h0
   have hf:y7 len m k=false:=by unfold y7;rw[decide_eq_false hno,Bool.false_and]
   exact⟨(0,λ_=>0),⟨λh=>by rw[hf]at h;exact absurd h (by decide),λ_=>rfl⟩,⟨by unfold ixK;rw[if_neg hno],hf⟩,by omega,rfl⟩
def XLu:F6:=⟨G0,[(92,q7 (Nat×(Nat->Int)) ⟨(0,λ_=>0)⟩ c4b)],[],[],[]⟩
theorem xLu:B4 prog XLu:=⟨g0,y5.cons mkU y5.nil⟩
def a4A:List SV->RRd (Nat×(Nat->Int))
 | [.slcc n len, .ptr o 0]=>.read n λo0=>(match w7 .f64 o0.c with
  | some (m0,g)=>.read o λo1=>(match a0z o1.c with
  | some (k,m)=>.ret ⟨[.slcc 0 len, .ptr 1 0],[(0,⟨false,100, .flts .f64 m0 g,0⟩),(1,⟨false,148,K7 k m,0⟩)],some (m0=2*len/\(G7 len false m k g)),λr=>ixP (y7 len m k) (nsg false len (wz g)) k len g (ppQ len false g) r,λr=>⟨[],[], .ptr 2 0,[],[(2,⟨true,152, .cells (D4 len false g 3 (ixK len m k) (y7 len m k) 4 r.1),0⟩),(3,⟨true,100, .flts .f64 (2*len) g,2⟩),(4,⟨true,5, .ints .u8 r.1 r.2,1⟩)],none⟩⟩
  | none=>.fail)
  | none=>.fail)
 | _=>.fail
theorem b1q(len:Nat)(m:Int)(k:Int)(g:Nat->Nat){T1}(t1:T1=(a9 len false)){T2}(t2:T2=(a9 len false&&fGt .f64 (cwF g len len) 0)):L5 XLu 2 [] [] (l7 f73) (z6 f73.ntmps [.slcc 0 len, .ptr 1 0] [(0,⟨false,100, .flts .f64 (2*len) g,0⟩),(1,⟨false,148,K7 k m,0⟩)] 2) (A0 XLu.G.E.T f73.results.toList λS v=>∃ r:Nat×(Nat->Int),ixP (y7 len m k) (nsg false len (wz g)) k len g (ppQ len false g) r/\B3 2 ⟨[],[], .ptr 2 0,[],[(2,⟨true,152, .cells (D4 len false g 3 (ixK len m k) (y7 len m k) 4 r.1),0⟩),(3,⟨true,100, .flts .f64 (2*len) g,2⟩),(4,⟨true,5, .ints .u8 r.1 r.2,1⟩)],none⟩ S v)=(
 ∀(i:Nat×(Nat->Int)),(2*len=2*len/\G7 len false m k g)/\(ixP (y7 len m k) (nsg false len (wz g)) k len g (ppQ len false g) i->∃(pq:Nat×(Nat->Int)),ixP (y7 len m k) (nsg false len (wz g)) k len g (ppQ len false g) pq/\
 (True/\0=0)/\True/\(152=152/\0=0/\false=false/\T2=T2/\(a9 len false && !(dcF g len len).2)=(a9 len false && !(dcF g len len).2)/\ixK len m k=ixK len m k/\(y7 len m k=y7 len m k/\True/\i.1=pq.1)/\pick T1 (rlo g
 0 len)=pick T1 (rlo g 0 len)/\pick T1 (rlo g 1 len)=pick T1 (rlo g 1 len)/\pick T1 (rhi g 0 len)=pick T1 (rhi g 0 len)/\pick T1 (rhi g 1 len)=pick T1 (rhi g 1 len)/\(True/\len=len)/\True)/\True/\(100=100/\2=2/\2*len<=2 *
 len/\∀(i:Nat),i<2*len->g i=g i)/\True/\(5=5/\1=1/\pq.1<=i.1/\∀(i_1:Nat),i_1<pq.1->i.2 i_1=pq.2 i_1)/\True)):=by subst t1 t2;kernel_rfl
theorem b6A:z4 prog 73 (q7 (Nat×(Nat->Int)) ⟨(0,λ_=>0)⟩ a4A):=by
 refine J5 xLu func73 rfl (by kernel_rfl) λargs=>?_
 unfold a4A;split;rotate_left;trivial;rename_i n len o;intro o0;try dsimp only
 split;rotate_left;trivial;rename_i m0 g hm0;intro o1;try dsimp only
 split;rotate_left;trivial;rename_i k m hm1;intro(ho:m0=2*len/\(G7 len false m k g));obtain⟨hsz0,ho⟩:=ho;subst hsz0;refine⟨?_,_,_,(b1q len m k g rfl rfl).mpr ?_⟩
 ·refine g9 rfl ⟨λ_=>rfl,?_,⟨trivial,(w6 hm0).1,⟨trivial,H1 hm1,trivial⟩⟩⟩;simp[l9,w8,y4,y6,nth,a8]
 ·simp only[true_and,and_true,eq_self,implies_true];exact λr=>⟨ho,λhP=>⟨r,hP,rfl,Nat.le_refl _,Nat.le_refl _,λ_ _=>rfl⟩⟩
def a4I:List SV->RRd (Nat×(Nat->Int))
 | [.slcc n len, .ptr o 0]=>.read n λo0=>(match w7 .f64 o0.c with
  | some (m0,g)=>.read o λo1=>(match a0z o1.c with
  | some (k,m)=>.ret ⟨[.slcc 0 len, .ptr 1 0],[(0,⟨false,100, .flts .f64 m0 g,0⟩),(1,⟨false,148,K7 k m,0⟩)],some (m0=2*len/\(G7 len true m k g)),λr=>ixP (y7 len m k) (nsg true len (wz g)) k len g (ppQ len true g) r,λr=>⟨[],[], .ifc 157 (.ptr 2 0),[],[(2,⟨true,150, .cells (D4 len true g 3 (ixK len m k) (y7 len m k) 4 r.1),0⟩),(3,⟨true,100, .flts .f64 (2*len) g,2⟩),(4,⟨true,5, .ints .u8 r.1 r.2,1⟩)],none⟩⟩
  | none=>.fail)
  | none=>.fail)
 | _=>.fail
theorem b0E(len:Nat)(m:Int)(k:Int)(g:Nat->Nat){T1}(t1:T1=(a9 len true)){T2}(t2:T2=(a9 len true&&fGt .f64 (cwF g len len) 0)):L5 XLu 2 [] [] (l7 f101) (z6 f101.ntmps [.slcc 0 len, .ptr 1 0] [(0,⟨false,100, .flts .f64 (2*len) g,0⟩),(1,⟨false,148,K7 k m,0⟩)] 2) (A0 XLu.G.E.T f101.results.toList λS v=>∃ r:Nat×(Nat->Int),ixP (y7 len m k) (nsg true len (wz g)) k len g (ppQ len true g) r/\B3 2 ⟨[],[], .ifc 157 (.ptr 2 0),[],[(2,⟨true,150, .cells (D4 len true g 3 (ixK len m k) (y7 len m k) 4 r.1),0⟩),(3,⟨true,100, .flts .f64 (2*len) g,2⟩),(4,⟨true,5, .ints .u8 r.1 r.2,1⟩)],none⟩ S v)=(
 ∀(i:Nat×(Nat->Int)),(2*len=2*len/\G7 len true m k g)/\(ixP (y7 len m k) (nsg true len (wz g)) k len g (ppQ len true g) i->∃(pq:Nat×(Nat->Int)),ixP (y7 len m k) (nsg true len (wz g)) k len g (ppQ len true g) pq/\(True/\0
 = 0)/\True/\(150=150/\0=0/\true=true/\T2=T2/\(a9 len true && !(dcF g len len).2)=(a9 len true && !(dcF g len len).2)/\ixK len m k=ixK len m k/\(y7 len m k=y7 len m k/\True/\i.1=pq.1)/\pick T1 (rlo g 0 len)=pick
 T1 (rlo g 0 len)/\pick T1 (rlo g 1 len)=pick T1 (rlo g 1 len)/\pick T1 (rhi g 0 len)=pick T1 (rhi g 0 len)/\pick T1 (rhi g 1 len)=pick T1 (rhi g 1 len)/\(True/\len=len)/\True)/\True/\(100=100/\2=2/\2*len<=2*len/\∀(i :
 Nat),i<2*len->g i=g i)/\True/\(5=5/\1=1/\pq.1<=i.1/\∀(i_1:Nat),i_1<pq.1->i.2 i_1=pq.2 i_1)/\True)):=by subst t1 t2;kernel_rfl
theorem b8t:z4 prog 101 (q7 (Nat×(Nat->Int)) ⟨(0,λ_=>0)⟩ a4I):=by
 refine J5 xLu func101 rfl (by kernel_rfl) λargs=>?_
 unfold a4I;split;rotate_left;trivial;rename_i n len o;intro o0;try dsimp only
 split;rotate_left;trivial;rename_i m0 g hm0;intro o1;try dsimp only
 split;rotate_left;trivial;rename_i k m hm1;intro(ho:m0=2*len/\(G7 len true m k g));obtain⟨hsz0,ho⟩:=ho;subst hsz0;refine⟨?_,_,_,(b0E len m k g rfl rfl).mpr ?_⟩
 ·refine g9 rfl ⟨λ_=>rfl,?_,⟨trivial,(w6 hm0).1,⟨trivial,H1 hm1,trivial⟩⟩⟩;simp[l9,w8,y4,y6,nth,a8]
 ·simp only[true_and,and_true,eq_self,implies_true];exact λr=>⟨ho,λhP=>⟨r,hP,rfl,Nat.le_refl _,Nat.le_refl _,λ_ _=>rfl⟩⟩
end
noncomputable section
set_option maxHeartbeats 4000000
abbrev IxA:=Nat->Nat×(Nat->Int)
def ixN(len:Nat)(mm km:Int)(g:Nat->Nat)(r:Nat×(Nat->Int)):Prop:=ixP (y7 len mm km) (nsg true len (wz g)) km len g (ppQ len true g) r
def mkA(l:List (Nat×(Nat->Int))):IxA:=λn=>l.getD n (0,λ_=>0)
def c3a:F6:=⟨G0,[(101,q7 (Nat×(Nat->Int)) ⟨(0,λ_=>0)⟩ a4I)],[],[],[]⟩
theorem c8B:B4 prog c3a:=⟨g0,y5.cons b8t y5.nil⟩
def b6j:List SV->RRd (IxA)
 | [.slcc n len, .slcc h k1, .ptr o 0]=>.read n λo0=>(match w7 .f64 o0.c with
  | some (m0,g)=>.read h λo1=>(match a7g o1.c with
  | some (k,q0,l0,q1,l1,q2,l2,q3,l3)=>.read q0 λo2=>(match w7 .f64 o2.c with
  | some (m2,g0)=>.read q1 λo3=>(match w7 .f64 o3.c with
  | some (m3,g1)=>.read q2 λo4=>(match w7 .f64 o4.c with
  | some (m4,g2)=>.read q3 λo5=>(match w7 .f64 o5.c with
  | some (m5,g3)=>.read o λo6=>(match a0z o6.c with
  | some (km,mm)=>.ret ⟨[.slcc 0 len, .slcc 1 k, .ptr 6 0],[(0,⟨false,100, .flts .f64 m0 g,0⟩),(1,⟨false,118, .upto k [.slcc 2 l0, .slcc 3 l1, .slcc 4 l2, .slcc 5 l3],0⟩),(2,⟨false,100, .flts .f64 m2 g0,0⟩),(3,⟨false,100, .flts .f64 m3 g1,0⟩),(4,⟨false,100, .flts .f64 m4 g2,0⟩),(5,⟨false,100, .flts .f64 m5 g3,0⟩),(6,⟨false,148,K7 km mm,0⟩)],some (k=k1/\m0=2*len/\m2=2*l0/\m3=2*l1/\m4=2*l2/\m5=2*l3/\(hab k l0 l1 l2 l3/\0<=mm/\G7 len true mm km g/\G7 l0 true mm km g0/\G7 l1 true mm km g1/\G7 l2 true mm km g2/\G7 l3 true mm km g3)),λR=>(ixN len mm km g (R 0)/\ixN l0 mm km g0 (R 1)/\ixN l1 mm km g1 (R 2)/\ixN l2 mm km g2 (R 3)/\ixN l3 mm km g3 (R 4)),λR=>⟨[],[], .ptr 7 0,[],[(7,⟨true,137, .cells [.ifc 157 (.ptr 9 0), .slcc 8 k],0⟩),(8,⟨true,106, .upto k [.ifc 157 (.ptr 12 0), .ifc 157 (.ptr 15 0), .ifc 157 (.ptr 18 0), .ifc 157 (.ptr 21 0)],1⟩),(9,⟨true,150, .cells (D4 len true g 10 (ixK len mm km) (y7 len mm km) 11 (R 0).1),0⟩),(10,⟨true,100, .flts .f64 (2*len) g,2⟩),(11,⟨true,5, .ints .u8 (R 0).1 (R 0).2,1⟩),(12,⟨true,150, .upto (z0 k 0 10) (D4 l0 true g0 13 (ixK l0 mm km) (y7 l0 mm km) 14 (R 1).1),0⟩),(13,⟨true,100, .flts .f64 (2*l0) g0,2⟩),(14,⟨true,5, .ints .u8 (R 1).1 (R 1).2,1⟩),(15,⟨true,150, .upto (z0 k 1 10) (D4 l1 true g1 16 (ixK l1 mm km) (y7 l1 mm km) 17 (R 2).1),0⟩),(16,⟨true,100, .flts .f64 (2*l1) g1,2⟩),(17,⟨true,5, .ints .u8 (R 2).1 (R 2).2,1⟩),(18,⟨true,150, .upto (z0 k 2 10) (D4 l2 true g2 19 (ixK l2 mm km) (y7 l2 mm km) 20 (R 3).1),0⟩),(19,⟨true,100, .flts .f64 (2*l2) g2,2⟩),(20,⟨true,5, .ints .u8 (R 3).1 (R 3).2,1⟩),(21,⟨true,150, .upto (z0 k 3 10) (D4 l3 true g3 22 (ixK l3 mm km) (y7 l3 mm km) 23 (R 4).1),0⟩),(22,⟨true,100, .flts .f64 (2*l3) g3,2⟩),(23,⟨true,5, .ints .u8 (R 4).1 (R 4).2,1⟩)],none⟩⟩
  | none=>.fail)
  | none=>.fail)
  | none=>.fail)
  | none=>.fail)
  | none=>.fail)
  | none=>.fail)
  | none=>.fail)
 | _=>.fail
theorem b9l(len:Nat)(km mm:Int)(k l0 l1 l2 l3:Nat)(_ _ _ _:Nm)(g:Nat->Nat)(g0:Nat->Nat)(g1:Nat->Nat)(g2:Nat->Nat)(g3:Nat->Nat){T1}(t1:T1=λ(i:Nat->Nat×(Nat->Int)) (pq:Nat->Nat×(Nat->Int))=>(150=150/\0=0/\true=true/\(a9 len true&&fGt .f64 (cwF g len len) 0)=(a9 len true&&fGt .f64 (cwF g len len) 0)/\(a9 len true && !(dcF g len len).2) =
 (a9 len true && !(dcF g len len).2)/\ixK len mm km=ixK len mm km/\(y7 len mm km=y7 len mm km/\True/\(i 0).1=(pq 0).1)/\pick (a9 len true) (rlo g 0 len)=pick (a9 len true) (rlo g 0 len)/\pick (a9 len true) (rlo g 1 len)
 = pick (a9 len true) (rlo g 1 len)/\pick (a9 len true) (rhi g 0 len)=pick (a9 len true) (rhi g 0 len)/\pick (a9 len true) (rhi g 1 len)=pick (a9 len true) (rhi g 1 len)/\(True/\len=len)/\True)){T2}(t2:T2=λ(i:Nat->Nat×
 (Nat->Int)) (pq:IxA)=>(150=150/\0=0/\true=true/\(a9 len true&&fGt .f64 (cwF g len len) 0)=(a9 len true&&fGt .f64 (cwF g len len) 0)/\(a9 len true && !(dcF g len len).2)=(a9 len true && !(dcF g len len).2)/\ixK len mm
 km=ixK len mm km/\(y7 len mm km=y7 len mm km/\True/\(i 0).1=(pq 0).1)/\pick (a9 len true) (rlo g 0 len)=pick (a9 len true) (rlo g 0 len)/\pick (a9 len true) (rlo g 1 len)=pick (a9 len true) (rlo g 1 len)/\pick (a9
 len true) (rhi g 0 len)=pick (a9 len true) (rhi g 0 len)/\pick (a9 len true) (rhi g 1 len)=pick (a9 len true) (rhi g 1 len)/\(True/\len=len)/\True)){T3}(t3:T3=λ(i:Nat->Nat×(Nat->Int)) (pq:IxA)=>(150=150/\0=0/\true =
 true/\(a9 l0 true&&fGt .f64 (cwF g0 l0 l0) 0)=(a9 l0 true&&fGt .f64 (cwF g0 l0 l0) 0)/\(a9 l0 true && !(dcF g0 l0 l0).2)=(a9 l0 true && !(dcF g0 l0 l0).2)/\ixK l0 mm km=ixK l0 mm km/\(y7 l0 mm km=y7 l0 mm km/\True/\
 (i 1).1=(pq 1).1)/\pick (a9 l0 true) (rlo g0 0 l0)=pick (a9 l0 true) (rlo g0 0 l0)/\pick (a9 l0 true) (rlo g0 1 l0)=pick (a9 l0 true) (rlo g0 1 l0)/\pick (a9 l0 true) (rhi g0 0 l0)=pick (a9 l0 true) (rhi g0 0 l0)/\pick
 (a9 l0 true) (rhi g0 1 l0)=pick (a9 l0 true) (rhi g0 1 l0)/\(True/\l0=l0)/\z0 k 0 10=10)){T4}(t4:T4=λ(i:Nat->Nat×(Nat->Int)) (pq:IxA)=>(150=150/\0=0/\true=true/\(a9 l1 true&&fGt .f64 (cwF g1 l1 l1) 0)=(a9
 l1 true&&fGt .f64 (cwF g1 l1 l1) 0)/\(a9 l1 true && !(dcF g1 l1 l1).2)=(a9 l1 true && !(dcF g1 l1 l1).2)/\ixK l1 mm km=ixK l1 mm km/\(y7 l1 mm km=y7 l1 mm km/\True/\(i 2).1=(pq 2).1)/\pick (a9 l1 true) (rlo g1 0 l1) =
 pick (a9 l1 true) (rlo g1 0 l1)/\pick (a9 l1 true) (rlo g1 1 l1)=pick (a9 l1 true) (rlo g1 1 l1)/\pick (a9 l1 true) (rhi g1 0 l1)=pick (a9 l1 true) (rhi g1 0 l1)/\pick (a9 l1 true) (rhi g1 1 l1)=pick (a9 l1 true) (rhi
 g1 1 l1)/\(True/\l1=l1)/\z0 k 1 10=10)){T5}(t5:T5=λ(i:Nat->Nat×(Nat->Int)) (pq:Nat->Nat×(Nat->Int))=>(150=150/\0=0/\true=true/\(a9 l0 true&&fGt .f64 (cwF g0 l0 l0) 0)=(a9 l0 true&&fGt .f64 (cwF g0 l0 l0) 0)/\
 (a9 l0 true && !(dcF g0 l0 l0).2)=(a9 l0 true && !(dcF g0 l0 l0).2)/\ixK l0 mm km=ixK l0 mm km/\(y7 l0 mm km=y7 l0 mm km/\True/\(i 1).1=(pq 1).1)/\pick (a9 l0 true) (rlo g0 0 l0)=pick (a9 l0 true) (rlo g0 0 l0)/\pick
 (a9 l0 true) (rlo g0 1 l0)=pick (a9 l0 true) (rlo g0 1 l0)/\pick (a9 l0 true) (rhi g0 0 l0)=pick (a9 l0 true) (rhi g0 0 l0)/\pick (a9 l0 true) (rhi g0 1 l0)=pick (a9 l0 true) (rhi g0 1 l0)/\(True/\l0=l0)/\
 True)){T6}(t6:T6=λ(i:Nat->Nat×(Nat->Int))=>(100=100/\2=2/\2*len<=2*len/\∀ (i:Nat),i<2*len->g i=g i)){T7}(t7:T7=λ(i:Nat->Nat×(Nat->Int)) (pq:IxA)=>(150=150/\0=0/\true=true/\(a9 len true&&fGt .f64 (cwF
 g len len) 0)=(a9 len true&&fGt .f64 (cwF g len len) 0)/\(a9 len true && !(dcF g len len).2)=(a9 len true && !Prod.snd (dcF g len len))/\ixK len mm km=ixK len mm km/\(y7 len mm km=y7 len mm km/\True/\(i 0).1=(pq 0).1)/\
 pick (a9 len true) (rlo g 0 len)=pick (a9 len true) (rlo g 0 len)/\pick (a9 len true) (rlo g 1 len)=pick (a9 len true) (rlo g 1 len)/\pick (a9 len true) (rhi g 0 len)=pick (a9 len true) (rhi g 0 len)/\pick (a9 len true)
 (rhi g 1 len)=pick (a9 len true) (rhi g 1 len)/\(True/\len=len)/\True)){T8}(t8:T8=λ(pq:IxA)=>(ixN len mm km g (pq 0)/\ixN l0 mm km g0 (pq 1)/\ixN l1 mm km g1 (pq 2)/\ixN l2 mm km g2 (pq 3)/\ixN l3 mm km g3 (pq 4))){T9}(t9:T9=fun
 (i:Nat->Nat×(Nat->Int)) (pq:IxA)=>(150=150/\0=0/\true=true/\(a9 l2 true&&fGt .f64 (cwF g2 l2 l2) 0)=(a9 l2 true&&fGt .f64 (cwF g2 l2 l2) 0)/\(a9 l2 true && !(dcF g2 l2 l2).2)=(a9 l2 true && !(dcF g2 l2 l2).2)/\ixK
 l2 mm km=ixK l2 mm km/\(y7 l2 mm km=y7 l2 mm km/\True/\(i 3).1=(pq 3).1)/\pick (a9 l2 true) (rlo g2 0 l2)=pick (a9 l2 true) (rlo g2 0 l2)/\pick (a9 l2 true) (rlo g2 1 l2)=pick (a9 l2 true) (rlo g2 1 l2)/\pick (a9
 l2 true) (rhi g2 0 l2)=pick (a9 l2 true) (rhi g2 0 l2)/\pick (a9 l2 true) (rhi g2 1 l2)=pick (a9 l2 true) (rhi g2 1 l2)/\(True/\l2=l2)/\z0 k 2 10=10)){T10}(t10:T10=(k=k/\(0<k->True/\l0=l0)/\(1<k->True/\l1=l1)/\
 (2<k->True/\l2=l2)/\(3<k->True/\l3=l3)/\True)){T11}(t11:T11=(137=137/\0=0/\(True/\0=0)/\(True/\k=k)/\True)){T12}(t12:T12=λ(i:Nat->Nat×(Nat->Int))=>(100=100/\2=2/\2*l0<=2*l0/\∀ (i:Nat),i<2*l0->g0
 i=g0 i)){T13}(t13:T13=λ(i:Nat->Nat×(Nat->Int))=>(100=100/\2=2/\2*l1<=2*l1/\∀ (i:Nat),i<2*l1->g1 i=g1 i)){T14}(t14:T14=λ(i:Nat->Nat×(Nat->Int)) (pq:IxA)=>(5=5/\1=1/\(pq 0).1<=(i 0).1/\∀ (i_1:Nat),i_1 <
 (pq 0).1->(i 0).2 i_1=(pq 0).2 i_1)){T15}(t15:T15=(↑k:Int)){T16}(t16:T16=(a9 l1 true)){T17}(t17:T17=λ(i:Nat->Nat×(Nat->Int)) (pq:Nat->Nat×(Nat->Int))=>(5=5/\1=1/\(pq 0).1<=(i 0).1/\∀ (i_2:Nat),i_2<(pq 0).1->(i 0).2
 i_2=(pq 0).2 i_2)){T18}(t18:T18=(True/\0=0)){T19}(t19:T19=λ(i:Nat->Nat×(Nat->Int))=>(100=100/\2=2/\2*l2<=2*l2/\∀ (i:Nat),i<2*l2->g2 i=g2 i)){T20}(t20:T20=(a9 l1 true&&fGt .f64 (cwF g1 l1 l1)
 0)){T21}(t21:T21=(a9 len true)){T22}(t22:T22=(a9 l0 true)){T23}(t23:T23=(a9 l2 true)){T24}(t24:T24=(a9 l3 true)){T25}(t25:T25=(0<k->True/\0=0)){T26}(t26:T26=λ(i:Nat->Nat×(Nat->Int)) (pq:IxA)=>(5=5/\1=1/\(pq 1).1<=(i
 1).1/\∀ (i_1:Nat),i_1<(pq 1).1->(i 1).2 i_1=(pq 1).2 i_1)){T27}(t27:T27=λ(i:Nat->Nat×(Nat->Int)) (pq:IxA)=>(5=5/\1=1/\(pq 2).1<=(i 2).1/\∀ (i_1:Nat),i_1<(pq 2).1->(i 2).2 i_1=(pq 2).2 i_1)){T28}(t28:T28=λ(i:Nat->
 Nat×(Nat->Int))=>(2*l0<=2*l0/\∀ (i:Nat),i<2*l0->g0 i=g0 i)){T29}(t29:T29=λ(i:Nat->Nat×(Nat->Int))=>(2*l1<=2*l1/\∀ (i:Nat),i<2*l1->g1 i=g1 i)){T30}(t30:T30=λ(i:Nat->Nat×(Nat->Int))=>(2*l2<=2*l2/\
 ∀ (i:Nat),i<2*l2->g2 i=g2 i)){T31}(t31:T31=λ(i:Nat->Nat×(Nat->Int))=>(2*l3<=2*l3/\∀ (i:Nat),i<2*l3->g3 i=g3 i)){T32}(t32:T32=(106=106/\1=1/\k=k/\T25/\(1<k->True/\0=0)/\(2<k->True/\0=0)/\(3<k
 ->True/\0=0)/\True)){T33}(t33:T33=(a9 l1 true && !(dcF g1 l1 l1).2)){T34}(t34:T34=(a9 len true&&fGt .f64 (cwF g len len) 0)){T35}(t35:T35=(a9 l0 true&&fGt .f64 (cwF g0 l0 l0) 0)){T36}(t36:T36=(a9 l2 true&&fGt .f64 (cwF g2 l2
 l2) 0)){T37}(t37:T37=(a9 l3 true&&fGt .f64 (cwF g3 l3 l3) 0)){T38}(t38:T38=(km=km/\mm=mm/\True)){T39}(t39:T39=(a9 len true && !(dcF g len len).2)){T40}(t40:T40=(a9 l3 true && !(dcF g3 l3 l3).2)){T41}(t41:T41=(1<k->True/\0 =
 0)){T42}(t42:T42=(a9 l0 true && !(dcF g0 l0 l0).2)){T43}(t43:T43=(a9 l2 true && !(dcF g2 l2 l2).2)){T44}(t44:T44=λ(i:Nat×(Nat->Int))=>(100=100/\2=2/\2*len<=2*len/\∀ (i:Nat),i<2*len->g i=g i)){T45}(t45:T45=λ(i:Nat
 ->Nat×(Nat->Int)) (pq:IxA)=>(5=5/\1=1/\(pq 3).1<=(i 3).1/\∀ (i_1:Nat),i_1<(pq 3).1->(i 3).2 i_1=(pq 3).2 i_1)){T46}(t46:T46=(True/\k=k)){T47}(t47:T47=λ(i:Nat->Nat×(Nat->Int))=>(100=100/\2=2/\2*l3<=2*l3/\∀ (i
 : Nat),i<2*l3->g3 i=g3 i)){T48}(t48:T48=(rlo g1 0 l1)){T49}(t49:T49=(rlo g1 1 l1)){T50}(t50:T50=(rhi g1 0 l1)){T51}(t51:T51=(rhi g1 1 l1)):L5 c3a 7 [(6, .unr [⟨IxA,λR=>⟨44,[(1, .slcc 1 k),(2, .ptr 6 0),(7, .ptr 7 0),(26, .int .i64 k),(27, .int .i64 0)],[(1,⟨false,118, .upto k [.slcc 2 l0, .slcc 3 l1, .slcc 4 l2, .slcc 5 l3],0⟩),(2,⟨false,100, .flts .f64 (2*l0) g0,0⟩),(3,⟨false,100, .flts .f64 (2*l1) g1,0⟩),(4,⟨false,100, .flts .f64 (2*l2) g2,0⟩),(5,⟨false,100, .flts .f64 (2*l3) g3,0⟩),(6,⟨false,148,K7 km mm,0⟩),(7,⟨true,137, .cells [.ifc 157 (.ptr 9 0), .slcc 8 k],0⟩),(8,⟨true,106, .upto k [.nili, .nili, .nili, .nili],1⟩),(9,⟨true,150, .cells (D4 len true g 10 (ixK len mm km) (y7 len mm km) 11 (R 0).1),0⟩),(10,⟨true,100, .flts .f64 (2*len) g,2⟩),(11,⟨true,5, .ints .u8 (R 0).1 (R 0).2,1⟩)],12⟩,λR=>0<=k/\ixN len mm km g (R 0),λ_=>0⟩,⟨IxA,λR=>⟨44,[(1, .slcc 1 k),(2, .ptr 6 0),(7, .ptr 7 0),(26, .int .i64 k),(27, .int .i64 1)],[(1,⟨false,118, .upto k [.slcc 2 l0, .slcc 3 l1, .slcc 4 l2, .slcc 5 l3],0⟩),(2,⟨false,100, .flts .f64 (2*l0) g0,0⟩),(3,⟨false,100, .flts .f64 (2*l1) g1,0⟩),(4,⟨false,100, .flts .f64 (2*l2) g2,0⟩),(5,⟨false,100, .flts .f64 (2*l3) g3,0⟩),(6,⟨false,148,K7 km mm,0⟩),(7,⟨true,137, .cells [.ifc 157 (.ptr 9 0), .slcc 8 k],0⟩),(8,⟨true,106, .upto k [.ifc 157 (.ptr 12 0), .nili, .nili, .nili],1⟩),(9,⟨true,150, .cells (D4 len true g 10 (ixK len mm km) (y7 len mm km) 11 (R 0).1),0⟩),(10,⟨true,100, .flts .f64 (2*len) g,2⟩),(11,⟨true,5, .ints .u8 (R 0).1 (R 0).2,1⟩),(12,⟨true,150, .cells (D4 l0 true g0 13 (ixK l0 mm km) (y7 l0 mm km) 14 (R 1).1),0⟩),(13,⟨true,100, .flts .f64 (2*l0) g0,2⟩),(14,⟨true,5, .ints .u8 (R 1).1 (R 1).2,1⟩)],15⟩,λR=>1<=k/\ixN len mm km g (R 0)/\ixN l0 mm km g0 (R 1),λ_=>0⟩,⟨IxA,λR=>⟨44,[(1, .slcc 1 k),(2, .ptr 6 0),(7, .ptr 7 0),(26, .int .i64 k),(27, .int .i64 2)],[(1,⟨false,118, .upto k [.slcc 2 l0, .slcc 3 l1, .slcc 4 l2, .slcc 5 l3],0⟩),(2,⟨false,100, .flts .f64 (2*l0) g0,0⟩),(3,⟨false,100, .flts .f64 (2*l1) g1,0⟩),(4,⟨false,100, .flts .f64 (2*l2) g2,0⟩),(5,⟨false,100, .flts .f64 (2*l3) g3,0⟩),(6,⟨false,148,K7 km mm,0⟩),(7,⟨true,137, .cells [.ifc 157 (.ptr 9 0), .slcc 8 k],0⟩),(8,⟨true,106, .upto k [.ifc 157 (.ptr 12 0), .ifc 157 (.ptr 15 0), .nili, .nili],1⟩),(9,⟨true,150, .cells (D4 len true g 10 (ixK len mm km) (y7 len mm km) 11 (R 0).1),0⟩),(10,⟨true,100, .flts .f64 (2*len) g,2⟩),(11,⟨true,5, .ints .u8 (R 0).1 (R 0).2,1⟩),(12,⟨true,150, .cells (D4 l0 true g0 13 (ixK l0 mm km) (y7 l0 mm km) 14 (R 1).1),0⟩),(13,⟨true,100, .flts .f64 (2*l0) g0,2⟩),(14,⟨true,5, .ints .u8 (R 1).1 (R 1).2,1⟩),(15,⟨true,150, .cells (D4 l1 true g1 16 (ixK l1 mm km) (y7 l1 mm km) 17 (R 2).1),0⟩),(16,⟨true,100, .flts .f64 (2*l1) g1,2⟩),(17,⟨true,5, .ints .u8 (R 2).1 (R 2).2,1⟩)],18⟩,λR=>2<=k/\ixN len mm km g (R 0)/\ixN l0 mm km g0 (R 1)/\ixN l1 mm km g1 (R 2),λ_=>0⟩,⟨IxA,λR=>⟨44,[(1, .slcc 1 k),(2, .ptr 6 0),(7, .ptr 7 0),(26, .int .i64 k),(27, .int .i64 3)],[(1,⟨false,118, .upto k [.slcc 2 l0, .slcc 3 l1, .slcc 4 l2, .slcc 5 l3],0⟩),(2,⟨false,100, .flts .f64 (2*l0) g0,0⟩),(3,⟨false,100, .flts .f64 (2*l1) g1,0⟩),(4,⟨false,100, .flts .f64 (2*l2) g2,0⟩),(5,⟨false,100, .flts .f64 (2*l3) g3,0⟩),(6,⟨false,148,K7 km mm,0⟩),(7,⟨true,137, .cells [.ifc 157 (.ptr 9 0), .slcc 8 k],0⟩),(8,⟨true,106, .upto k [.ifc 157 (.ptr 12 0), .ifc 157 (.ptr 15 0), .ifc 157 (.ptr 18 0), .nili],1⟩),(9,⟨true,150, .cells (D4 len true g 10 (ixK len mm km) (y7 len mm km) 11 (R 0).1),0⟩),(10,⟨true,100, .flts .f64 (2*len) g,2⟩),(11,⟨true,5, .ints .u8 (R 0).1 (R 0).2,1⟩),(12,⟨true,150, .cells (D4 l0 true g0 13 (ixK l0 mm km) (y7 l0 mm km) 14 (R 1).1),0⟩),(13,⟨true,100, .flts .f64 (2*l0) g0,2⟩),(14,⟨true,5, .ints .u8 (R 1).1 (R 1).2,1⟩),(15,⟨true,150, .cells (D4 l1 true g1 16 (ixK l1 mm km) (y7 l1 mm km) 17 (R 2).1),0⟩),(16,⟨true,100, .flts .f64 (2*l1) g1,2⟩),(17,⟨true,5, .ints .u8 (R 2).1 (R 2).2,1⟩),(18,⟨true,150, .cells (D4 l2 true g2 19 (ixK l2 mm km) (y7 l2 mm km) 20 (R 3).1),0⟩),(19,⟨true,100, .flts .f64 (2*l2) g2,2⟩),(20,⟨true,5, .ints .u8 (R 3).1 (R 3).2,1⟩)],21⟩,λR=>3<=k/\ixN len mm km g (R 0)/\ixN l0 mm km g0 (R 1)/\ixN l1 mm km g1 (R 2)/\ixN l2 mm km g2 (R 3),λ_=>0⟩,⟨IxA,λR=>⟨44,[(1, .slcc 1 k),(2, .ptr 6 0),(7, .ptr 7 0),(26, .int .i64 k),(27, .int .i64 4)],[(1,⟨false,118, .upto k [.slcc 2 l0, .slcc 3 l1, .slcc 4 l2, .slcc 5 l3],0⟩),(2,⟨false,100, .flts .f64 (2*l0) g0,0⟩),(3,⟨false,100, .flts .f64 (2*l1) g1,0⟩),(4,⟨false,100, .flts .f64 (2*l2) g2,0⟩),(5,⟨false,100, .flts .f64 (2*l3) g3,0⟩),(6,⟨false,148,K7 km mm,0⟩),(7,⟨true,137, .cells [.ifc 157 (.ptr 9 0), .slcc 8 k],0⟩),(8,⟨true,106, .upto k [.ifc 157 (.ptr 12 0), .ifc 157 (.ptr 15 0), .ifc 157 (.ptr 18 0), .ifc 157 (.ptr 21 0)],1⟩),(9,⟨true,150, .cells (D4 len true g 10 (ixK len mm km) (y7 len mm km) 11 (R 0).1),0⟩),(10,⟨true,100, .flts .f64 (2*len) g,2⟩),(11,⟨true,5, .ints .u8 (R 0).1 (R 0).2,1⟩),(12,⟨true,150, .cells (D4 l0 true g0 13 (ixK l0 mm km) (y7 l0 mm km) 14 (R 1).1),0⟩),(13,⟨true,100, .flts .f64 (2*l0) g0,2⟩),(14,⟨true,5, .ints .u8 (R 1).1 (R 1).2,1⟩),(15,⟨true,150, .cells (D4 l1 true g1 16 (ixK l1 mm km) (y7 l1 mm km) 17 (R 2).1),0⟩),(16,⟨true,100, .flts .f64 (2*l1) g1,2⟩),(17,⟨true,5, .ints .u8 (R 2).1 (R 2).2,1⟩),(18,⟨true,150, .cells (D4 l2 true g2 19 (ixK l2 mm km) (y7 l2 mm km) 20 (R 3).1),0⟩),(19,⟨true,100, .flts .f64 (2*l2) g2,2⟩),(20,⟨true,5, .ints .u8 (R 3).1 (R 3).2,1⟩),(21,⟨true,150, .cells (D4 l3 true g3 22 (ixK l3 mm km) (y7 l3 mm km) 23 (R 4).1),0⟩),(22,⟨true,100, .flts .f64 (2*l3) g3,2⟩),(23,⟨true,5, .ints .u8 (R 4).1 (R 4).2,1⟩)],24⟩,λR=>4<=k/\ixN len mm km g (R 0)/\ixN l0 mm km g0 (R 1)/\ixN l1 mm km g1 (R 2)/\ixN l2 mm km g2 (R 3)/\ixN l3 mm km g3 (R 4),λ_=>0⟩])] [] (l7 f91) (z6 f91.ntmps [.slcc 0 len, .slcc 1 k, .ptr 6 0] [(0,⟨false,100, .flts .f64 (2*len) g,0⟩),(1,⟨false,118, .upto k [.slcc 2 l0, .slcc 3 l1, .slcc 4 l2, .slcc 5 l3],0⟩),(2,⟨false,100, .flts .f64 (2*l0) g0,0⟩),(3,⟨false,100, .flts .f64 (2*l1) g1,0⟩),(4,⟨false,100, .flts .f64 (2*l2) g2,0⟩),(5,⟨false,100, .flts .f64 (2*l3) g3,0⟩),(6,⟨false,148,K7 km mm,0⟩)] 7) (A0 c3a.G.E.T f91.results.toList λS v=>∃ R:IxA,(ixN len mm km g (R 0)/\ixN l0 mm km g0 (R 1)/\ixN l1 mm km g1 (R 2)/\ixN l2 mm km g2 (R 3)/\ixN l3 mm km g3 (R 4))/\B3 7 ⟨[],[], .ptr 7 0,[],[(7,⟨true,137, .cells [.ifc 157 (.ptr 9 0), .slcc 8 k],0⟩),(8,⟨true,106, .upto k [.ifc 157 (.ptr 12 0), .ifc 157 (.ptr 15 0), .ifc 157 (.ptr 18 0), .ifc 157 (.ptr 21 0)],1⟩),(9,⟨true,150, .cells (D4 len true g 10 (ixK len mm km) (y7 len mm km) 11 (R 0).1),0⟩),(10,⟨true,100, .flts .f64 (2*len) g,2⟩),(11,⟨true,5, .ints .u8 (R 0).1 (R 0).2,1⟩),(12,⟨true,150, .upto (z0 k 0 10) (D4 l0 true g0 13 (ixK l0 mm km) (y7 l0 mm km) 14 (R 1).1),0⟩),(13,⟨true,100, .flts .f64 (2*l0) g0,2⟩),(14,⟨true,5, .ints .u8 (R 1).1 (R 1).2,1⟩),(15,⟨true,150, .upto (z0 k 1 10) (D4 l1 true g1 16 (ixK l1 mm km) (y7 l1 mm km) 17 (R 2).1),0⟩),(16,⟨true,100, .flts .f64 (2*l1) g1,2⟩),(17,⟨true,5, .ints .u8 (R 2).1 (R 2).2,1⟩),(18,⟨true,150, .upto (z0 k 2 10) (D4 l2 true g2 19 (ixK l2 mm km) (y7 l2 mm km) 20 (R 3).1),0⟩),(19,⟨true,100, .flts .f64 (2*l2) g2,2⟩),(20,⟨true,5, .ints .u8 (R 3).1 (R 3).2,1⟩),(21,⟨true,150, .upto (z0 k 3 10) (D4 l3 true g3 22 (ixK l3 mm km) (y7 l3 mm km) 23 (R 4).1),0⟩),(22,⟨true,100, .flts .f64 (2*l3) g3,2⟩),(23,⟨true,5, .ints .u8 (R 4).1 (R 4).2,1⟩)],none⟩ S v)=(
 ∀(i:Nat×(Nat->Int)),(2*len=2*len/\G7 len true mm km g)/\(ixP (y7 len mm km) (nsg true len (wz g)) km len g (ppQ len true g) i->(decide (0<T15)=true->(T15=T15/\0<=T15/\T15<=9223372036854775807/\T15*16<=
 (140737488355328:Int))/\(∃(pq:Nat->Nat×(Nat->Int)),(0<=k/\ixN len mm km g (pq 0))/\(T46/\T18/\T18/\T15=T15/\(0:Int)=0/\True)/\True/\T10/\True/\(2*l0<=2*l0/\∀(i:Nat),i<2*l0->g0 i=g0 i)/\True/\(2*l1<=2
 * l1/\∀(i:Nat),i<2*l1->g1 i=g1 i)/\True/\(2*l2<=2*l2/\∀(i:Nat),i<2*l2->g2 i=g2 i)/\True/\(2*l3<=2*l3/\∀(i:Nat),i<2*l3->g3 i=g3 i)/\True/\T38/\True/\(137=137/\0=0/\T18/\(True/\Int.toNat T15
 = k)/\True)/\True/\(106=106/\1=1/\k<=Int.toNat T15/\(0<k->True)/\(1<k->True)/\(2<k->True)/\(3<k->True)/\k<=4)/\True/\(150=150/\0=0/\true=true/\T34=T34/\T39=T39/\ixK len mm km=ixK len mm km/\(y7 len mm
 km=y7 len mm km/\True/\i.1=(pq 0).1)/\pick T21 (rlo g 0 len)=pick T21 (rlo g 0 len)/\pick T21 (rlo g 1 len)=pick T21 (rlo g 1 len)/\pick T21 (rhi g 0 len)=pick T21 (rhi g 0 len)/\pick T21 (rhi g 1 len)=pick T21 (rhi g 1 len)/\
 (True/\len=len)/\True)/\True/\(T44 i)/\True/\(5=5/\1=1/\(pq 0).1<=i.1/\∀(i_1:Nat),i_1<(pq 0).1->i.2 i_1=(pq 0).2 i_1)/\True)/\(∀(i:Nat->Nat×(Nat->Int)),0<=k/\ixN len mm km g (i 0)->(decide (0<T15)=true->∀
 (i_1:Nat×(Nat->Int)),(((0:Int)<=0/\0<T15)/\1<=k)/\1<=k/\(2*l0=2*l0/\G7 l0 true mm km g0)/\(((0:Int)<=0/\0<T15)/\1<=k)/\1<=k/\true=true/\(ixP (y7 l0 mm km) (nsg true l0 (wz g0)) km l0 g0 (ppQ l0 true g0) i_1
 ->∃(pq:Nat->Nat×(Nat->Int)),(1<=k/\ixN len mm km g (pq 0)/\ixN l0 mm km g0 (pq 1))/\(T46/\T18/\T18/\T15=T15/\(1:Int)=1/\True)/\True/\T10/\True/\(T28 i)/\True/\(T29 i)/\True/\(T30 i)/\True/\(T31 i)/\True/\T38/\True
 /\T11/\True/\(106=106/\1=1/\k=k/\T25/\(1<k->True)/\(2<k->True)/\(3<k->True)/\True)/\True/\(T1 i pq)/\True/\(T6 i)/\True/\(T17 i pq)/\True/\(150=150/\0=0/\true=true/\T35=T35/\T42=T42/\ixK l0 mm km=ixK
 l0 mm km/\(y7 l0 mm km=y7 l0 mm km/\True/\i_1.1=(pq 1).1)/\pick T22 (rlo g0 0 l0)=pick T22 (rlo g0 0 l0)/\pick T22 (rlo g0 1 l0)=pick T22 (rlo g0 1 l0)/\pick T22 (rhi g0 0 l0)=pick T22 (rhi g0 0 l0)/\pick T22 (rhi g0 1 l0)=pick
 T22 (rhi g0 1 l0)/\(True/\l0=l0)/\True)/\True/\(T12 i)/\True/\(5=5/\1=1/\(pq 1).1<=i_1.1/\∀(i:Nat),i<(pq 1).1->i_1.2 i=(pq 1).2 i)/\True))/\(decide (0<T15)=false->∃(pq:IxA),(T8 pq)/\T18/\True/\T11/\True/\(106
 = 106/\1=1/\k=k/\(0<k->False)/\(1<k->False)/\(2<k->False)/\(3<k->False)/\True)/\True/\(T7 i pq)/\True/\(T6 i)/\True/\(T14 i pq)/\True/\z0 k 0 10=0/\True/\2*l0=0/\True/\(pq 1).1=0/\True/\z0 k 1 10=0/\
 True/\2*l1=0/\True/\(pq 2).1=0/\True/\z0 k 2 10=0/\True/\2*l2=0/\True/\(pq 3).1=0/\True/\z0 k 3 10=0/\True/\2*l3=0/\True/\(pq 4).1=0/\True))/\(∀(i:Nat->Nat×(Nat->Int)),1<=k/\ixN len mm km g (i 0)/\
 ixN l0 mm km g0 (i 1)->(decide (1<T15)=true->∀(i_1:Nat×(Nat->Int)),(((0:Int)<=1/\1<T15)/\1<=k)/\2<=k/\(2*l1=2*l1/\G7 l1 true mm km g1)/\(((0:Int)<=1/\1<T15)/\1<=k)/\2<=k/\true=true/\(ixP (y7 l1 mm km)
 (nsg true l1 (wz g1)) km l1 g1 (ppQ l1 true g1) i_1->∃(pq:Nat->Nat×(Nat->Int)),(2<=k/\ixN len mm km g (pq 0)/\ixN l0 mm km g0 (pq 1)/\ixN l1 mm km g1 (pq 2))/\(T46/\T18/\T18/\T15=T15/\(2:Int)=2/\True)/\True/\T10/\True/\
 (T28 i)/\True/\(T29 i)/\True/\(T30 i)/\True/\(T31 i)/\True/\T38/\True/\T11/\True/\(106=106/\1=1/\k=k/\T25/\T41/\(2<k->True)/\(3<k->True)/\True)/\True/\(T1 i pq)/\True/\(T6 i)/\True/\(T17 i pq)/\True/\(T5 i pq)/\
 True/\(T12 i)/\True/\(5=5/\1=1/\(pq 1).1<=Prod.fst (i 1)/\∀(i_2:Nat),i_2<(pq 1).1->(i 1).2 i_2=(pq 1).2 i_2)/\True/\(150=150/\0=0/\true=true/\T20=T20/\T33=T33/\ixK l1 mm km=ixK l1 mm km/\(y7 l1 mm km=y7
 l1 mm km/\True/\i_1.1=(pq 2).1)/\pick T16 T48=pick T16 T48/\pick T16 T49=pick T16 T49/\pick T16 T50=pick T16 T50/\pick T16 T51=pick T16 T51/\(True/\l1=l1)/\True)/\True/\(T13 i)/\True/\(5=5/\1=1/\(pq 2).1<=i_1.1/\∀ (i
 : Nat),i<(pq 2).1->i_1.2 i=(pq 2).2 i)/\True))/\(decide (1<T15)=false->∃(pq:IxA),(T8 pq)/\T18/\True/\T11/\True/\(106=106/\1=1/\k=k/\T25/\(1<k->False)/\(2<k->False)/\(3<k->False)/\True)/\True/\(T7 i pq)/\
 True/\(T6 i)/\True/\(T14 i pq)/\True/\(150=150/\0=0/\true=true/\T35=T35/\(a9 l0 true && !Prod.snd (dcF g0 l0 l0))=T42/\ixK l0 mm km=ixK l0 mm km/\(y7 l0 mm km=y7 l0 mm km/\True/\(i 1).1=(pq 1).1)/\pick T22 (rlo g0
 0 l0)=pick T22 (rlo g0 0 l0)/\pick T22 (rlo g0 1 l0)=pick T22 (rlo g0 1 l0)/\pick T22 (rhi g0 0 l0)=pick T22 (rhi g0 0 l0)/\pick T22 (rhi g0 1 l0)=pick T22 (rhi g0 1 l0)/\(True/\l0=l0)/\z0 k 0 10=10)/\True/\(T12 i)/\True/\(5 =
 5/\1=1/\(pq 1).1<=(i 1).1/\∀(i_1:Nat),i_1<Prod.fst (pq 1)->(i 1).2 i_1=(pq 1).2 i_1)/\True/\z0 k 1 10=0/\True/\2*l1=0/\True/\(pq 2).1=0/\True/\z0 k 2 10=0/\True/\2*l2=0/\True/\(pq 3).1=0/\True/\z0 k
 3 10=0/\True/\2*l3=0/\True/\(pq 4).1=0/\True))/\(∀(i:Nat->Nat×(Nat->Int)),2<=k/\ixN len mm km g (i 0)/\ixN l0 mm km g0 (i 1)/\ixN l1 mm km g1 (i 2)->(decide (2<T15)=true->∀(i_1:Nat×(Nat->Int)),(((0:Int)<=2/\
 2<T15)/\1<=k)/\3<=k/\(2*l2=2*l2/\G7 l2 true mm km g2)/\(((0:Int)<=2/\2<T15)/\1<=k)/\3<=k/\true=true/\(ixP (y7 l2 mm km) (nsg true l2 (wz g2)) km l2 g2 (ppQ l2 true g2) i_1->∃(pq:Nat->Nat×(Nat->Int)),(3<=k/\
 ixN len mm km g (pq 0)/\ixN l0 mm km g0 (pq 1)/\ixN l1 mm km g1 (pq 2)/\ixN l2 mm km g2 (pq 3))/\(T46/\T18/\T18/\T15=T15/\(3:Int)=3/\True)/\True/\T10/\True/\(T28 i)/\True/\(T29 i)/\True/\(T30 i)/\True/\(T31 i)/\True/\T38/\
 True/\T11/\True/\(106=106/\1=1/\k=k/\T25/\T41/\(2<k->True/\0=0)/\(3<k->True)/\True)/\True/\(T1 i pq)/\True/\(T6 i)/\True/\(T17 i pq)/\True/\(T5 i pq)/\True/\(T12 i)/\True/\(5=5/\1=1/\(pq 1).1<=(i 1).1/\∀
 (i_2:Nat),i_2<(pq 1).1->(i 1).2 i_2=(pq 1).2 i_2)/\True/\(150=150/\0=0/\true=true/\T20=T20/\(a9 l1 true && !Prod.snd (dcF g1 l1 l1))=T33/\ixK l1 mm km=ixK l1 mm km/\(y7 l1 mm km=y7 l1 mm km/\True/\(i 2).1=(pq
 2).1)/\pick T16 T48=pick T16 T48/\pick T16 T49=pick T16 T49/\pick T16 T50=pick T16 T50/\pick T16 T51=pick T16 T51/\(True/\l1=l1)/\True)/\True/\(T13 i)/\True/\(5=5/\1=1/\(pq 2).1<=(i 2).1/\∀(i_2:Nat),i_2<(pq 2).1->
 (i 2).2 i_2=(pq 2).2 i_2)/\True/\(150=150/\0=0/\true=true/\T36=T36/\T43=T43/\ixK l2 mm km=ixK l2 mm km/\(y7 l2 mm km=y7 l2 mm km/\True/\i_1.1=(pq 3).1)/\pick T23 (rlo g2 0 l2)=pick T23 (rlo g2 0 l2)/\pick T23 (rlo
 g2 1 l2)=pick T23 (rlo g2 1 l2)/\pick T23 (rhi g2 0 l2)=pick T23 (rhi g2 0 l2)/\pick T23 (rhi g2 1 l2)=pick T23 (rhi g2 1 l2)/\(True/\l2=l2)/\True)/\True/\(T19 i)/\True/\(5=5/\1=1/\(pq 3).1<=i_1.1/\∀(i:Nat),i<(pq 3).1->
 i_1.2 i=(pq 3).2 i)/\True))/\(decide (2<T15)=false->∃(pq:IxA),(T8 pq)/\T18/\True/\T11/\True/\(106=106/\1=1/\k=k/\T25/\T41/\(2<k->False)/\(3<k->False)/\True)/\True/\(T2 i pq)/\True/\(T6 i)/\True/\(T14 i pq)/\
 True/\(T3 i pq)/\True/\(T12 i)/\True/\(T26 i pq)/\True/\(T4 i pq)/\True/\(T13 i)/\True/\(T27 i pq)/\True/\z0 k 2 10=0/\True/\2*l2=0/\True/\(pq 3).1=0/\True/\z0 k 3 10=0/\True/\2*l3=0/\True/\(pq 4).1=0/\
 True))/\(∀(i:Nat->Nat×(Nat->Int)),3<=k/\ixN len mm km g (i 0)/\ixN l0 mm km g0 (i 1)/\ixN l1 mm km g1 (i 2)/\ixN l2 mm km g2 (i 3)->(decide (3<T15)=true->∀(i_1:Nat×(Nat->Int)),(((0:Int)<=3/\3<T15)/\1<=k)/\4<=k/\
 (2*l3=2*l3/\G7 l3 true mm km g3)/\(((0:Int)<=3/\3<T15)/\1<=k)/\4<=k/\true=true/\(ixP (y7 l3 mm km) (nsg true l3 (wz g3)) km l3 g3 (ppQ l3 true g3) i_1->∃(pq:Nat->Nat×(Nat->Int)),(4<=k/\ixN len mm km g (pq 0)/\ixN
 l0 mm km g0 (pq 1)/\ixN l1 mm km g1 (pq 2)/\ixN l2 mm km g2 (pq 3)/\ixN l3 mm km g3 (pq 4))/\(T46/\T18/\T18/\T15=T15/\(4:Int)=4/\True)/\True/\T10/\True/\(T28 i)/\True/\(T29 i)/\True/\(T30 i)/\True/\(T31 i)/\True/\T38/\True
 /\T11/\True/\T32/\True/\(T1 i pq)/\True/\(T6 i)/\True/\(T17 i pq)/\True/\(T5 i pq)/\True/\(T12 i)/\True/\(5=5/\1=1/\(pq 1).1<=(i 1).1/\∀(i_2:Nat),i_2<(pq 1).1->(i 1).2 i_2=(pq 1).2 i_2)/\True/\(150=150/\0=0/\
 true=true/\T20=T20/\T33=T33/\ixK l1 mm km=ixK l1 mm km/\(y7 l1 mm km=y7 l1 mm km/\True/\(i 2).1=(pq 2).1)/\pick T16 T48=pick T16 T48/\pick T16 T49=pick T16 T49/\pick T16 T50=pick T16 T50/\pick T16 T51=pick T16 T51/\
 (True/\l1=l1)/\True)/\True/\(T13 i)/\True/\(5=5/\1=1/\(pq 2).1<=(i 2).1/\∀(i_2:Nat),i_2<(pq 2).1->(i 2).2 i_2=(pq 2).2 i_2)/\True/\(150=150/\0=0/\true=true/\T36=T36/\(a9 l2 true && !Prod.snd (dcF g2 l2 l2)) =
 T43/\ixK l2 mm km=ixK l2 mm km/\(y7 l2 mm km=y7 l2 mm km/\True/\(i 3).1=(pq 3).1)/\pick T23 (rlo g2 0 l2)=pick T23 (rlo g2 0 l2)/\pick T23 (rlo g2 1 l2)=pick T23 (rlo g2 1 l2)/\pick T23 (rhi g2 0 l2)=pick T23 (rhi g2 0 l2)/\
 pick T23 (rhi g2 1 l2)=pick T23 (rhi g2 1 l2)/\(True/\l2=l2)/\True)/\True/\(T19 i)/\True/\(5=5/\1=1/\(pq 3).1<=(i 3).1/\∀(i_2:Nat),i_2<(pq 3).1->(i 3).2 i_2=(pq 3).2 i_2)/\True/\(150=150/\0=0/\true=true/\T37 =
 T37/\T40=T40/\ixK l3 mm km=ixK l3 mm km/\(y7 l3 mm km=y7 l3 mm km/\True/\i_1.1=(pq 4).1)/\pick T24 (rlo g3 0 l3)=pick T24 (rlo g3 0 l3)/\pick T24 (rlo g3 1 l3)=pick T24 (rlo g3 1 l3)/\pick T24 (rhi g3 0 l3)=pick T24 (rhi g3
 0 l3)/\pick T24 (rhi g3 1 l3)=pick T24 (rhi g3 1 l3)/\(True/\l3=l3)/\True)/\True/\(T47 i)/\True/\(5=5/\1=1/\(pq 4).1<=i_1.1/\∀(i:Nat),i<(pq 4).1->i_1.2 i=(pq 4).2 i)/\True))/\(decide (3<T15)=false->∃(pq:IxA),
 (T8 pq)/\T18/\True/\T11/\True/\(106=106/\1=1/\k=k/\T25/\T41/\(2<k->True/\0=0)/\(3<k->False)/\True)/\True/\(T2 i pq)/\True/\(T6 i)/\True/\(T14 i pq)/\True/\(T3 i pq)/\True/\(T12 i)/\True/\(T26 i pq)/\True/\(T4
 i pq)/\True/\(T13 i)/\True/\(T27 i pq)/\True/\(T9 i pq)/\True/\(T19 i)/\True/\(T45 i pq)/\True/\z0 k 3 10=0/\True/\2*l3=0/\True/\(pq 4).1=0/\True))/\(∀(i:Nat->Nat×(Nat->Int)),4<=k/\ixN len mm km g (i 0)/\ixN l0
 mm km g0 (i 1)/\ixN l1 mm km g1 (i 2)/\ixN l2 mm km g2 (i 3)/\ixN l3 mm km g3 (i 4)->(decide (4<T15)=true->∀(_:Nat×(Nat->Int)),False)/\(decide (4<T15)=false->∃(pq:IxA),(T8 pq)/\T18/\True/\T11/\True/\T32/\True/\(T2 i
 pq)/\True/\(T6 i)/\True/\(T14 i pq)/\True/\(T3 i pq)/\True/\(T12 i)/\True/\(T26 i pq)/\True/\(T4 i pq)/\True/\(T13 i)/\True/\(T27 i pq)/\True/\(T9 i pq)/\True/\(T19 i)/\True/\(T45 i pq)/\True/\(150=150/\0=0/\true=true
 /\T37=T37/\T40=T40/\ixK l3 mm km=ixK l3 mm km/\(y7 l3 mm km=y7 l3 mm km/\True/\(i 4).1=(pq 4).1)/\pick T24 (rlo g3 0 l3)=pick T24 (rlo g3 0 l3)/\pick T24 (rlo g3 1 l3)=pick T24 (rlo g3 1 l3)/\pick T24 (rhi g3 0 l3)=pick
 T24 (rhi g3 0 l3)/\pick T24 (rhi g3 1 l3)=pick T24 (rhi g3 1 l3)/\(True/\l3=l3)/\z0 k 3 10=10)/\True/\(T47 i)/\True/\(5=5/\1=1/\(pq 4).1<=(i 4).1/\∀(i_1:Nat),i_1<(pq 4).1->(i 4).2 i_1=(pq 4).2 i_1)/\True))/\True)/\
 (decide (0<T15)=false->∃(pq:IxA),(T8 pq)/\T18/\True/\(137=137/\0=0/\T18/\k=0/\True)/\True/\k=0/\True/\(150=150/\0=0/\true=true/\T34=T34/\T39=T39/\ixK len mm km=ixK len mm km/\(y7 len mm km=y7 len mm
 km/\True/\i.1=(pq 0).1)/\pick T21 (rlo g 0 len)=pick T21 (rlo g 0 len)/\pick T21 (rlo g 1 len)=pick T21 (rlo g 1 len)/\pick T21 (rhi g 0 len)=pick T21 (rhi g 0 len)/\pick T21 (rhi g 1 len)=pick T21 (rhi g 1 len)/\(True/\len=len)/\
 True)/\True/\(T44 i)/\True/\(5=5/\1=1/\(pq 0).1<=i.1/\∀(i_1:Nat),i_1<(pq 0).1->i.2 i_1=(pq 0).2 i_1)/\True/\z0 k 0 10=0/\True/\2*l0=0/\True/\(pq 1).1=0/\True/\z0 k 1 10=0/\True/\2*l1=0/\True/\(pq
 2).1=0/\True/\z0 k 2 10=0/\True/\2*l2=0/\True/\(pq 3).1=0/\True/\z0 k 3 10=0/\True/\2*l3=0/\True/\(pq 4).1=0/\True))):=by subst t1 t2 t3 t4 t5 t6 t7 t8 t9 t10 t11 t12 t13 t14 t15 t16 t17 t18 t19 t20 t21 t22 t23 t24 t25 t26 t27 t28 t29 t30 t31 t32 t33 t34 t35 t36 t37 t38 t39 t40 t41 t42 t43 t44 t45 t46 t47 t48 t49 t50 t51;kernel_rfl
theorem c9X:z4 prog 91 (q7 (IxA) ⟨λ_=>(0,λ_=>0)⟩ b6j):=by
 refine J5 c8B func91 rfl (by kernel_rfl) λargs=>?_
 unfold b6j;split;rotate_left;trivial;rename_i n len h k1 o;intro o0;try dsimp only
 split;rotate_left;trivial;rename_i m0 g hm0;intro o1;try dsimp only
 split;rotate_left;trivial;rename_i k q0 l0 q1 l1 q2 l2 q3 l3 hm1;intro o2;try dsimp only
 split;rotate_left;trivial;rename_i m2 g0 hm2;intro o3;try dsimp only
 split;rotate_left;trivial;rename_i m3 g1 hm3;intro o4;try dsimp only
 split;rotate_left;trivial;rename_i m4 g2 hm4;intro o5;try dsimp only
 split;rotate_left;trivial;rename_i m5 g3 hm5;intro o6;try dsimp only
 split;rotate_left;trivial;rename_i km mm hm6;intro(ho:k=k1/\m0=2*len/\m2=2*l0/\m3=2*l1/\m4=2*l2/\m5=2*l3/\(hab k l0 l1 l2 l3/\0<=mm/\G7 len true mm km g/\G7 l0 true mm km g0/\G7 l1 true mm km g1/\G7 l2 true mm km g2/\G7 l3 true mm km g3));obtain⟨heq0,hsz0,hsz2,hsz3,hsz4,hsz5,ho⟩:=ho;subst heq0 hsz0;subst hsz2 hsz3;subst hsz4 hsz5
 refine⟨?_,_,_,(b9l len km mm k l0 l1 l2 l3 q0 q1 q2 q3 g g0 g1 g2 g3 rfl rfl rfl rfl rfl rfl rfl rfl rfl rfl rfl rfl rfl rfl rfl rfl rfl rfl rfl rfl rfl rfl rfl rfl rfl rfl rfl rfl rfl rfl rfl rfl rfl rfl rfl rfl rfl rfl rfl rfl rfl rfl rfl rfl rfl rfl rfl rfl rfl rfl rfl).mpr ?_⟩
 ·refine g9 rfl ⟨λ_=>rfl,?_,⟨trivial,(w6 hm0).1,⟨trivial,P9 hm1 a8 a8 a8 a8,⟨trivial,(w6 hm2).1,⟨trivial,(w6 hm3).1,⟨trivial,(w6 hm4).1,⟨trivial,(w6 hm5).1,⟨trivial,H1 hm6,trivial⟩⟩⟩⟩⟩⟩⟩⟩;simp[l9,w8,y4,y6,nth,a8]
 ·obtain⟨⟨h4,a0,a1,a2,a3⟩,hm,h1,c0,c1,c2,c3⟩:=ho
  have z:∀ g:Nat->Nat,ixN 0 mm km g (0,λ_=>0):=λg=>⟨λh=>by
   have:y7 0 mm km=false:=by
    unfold y7;rw[decide_eq_false (show ¬(mm≠0/\mm<=((0:Nat):Int)) by omega),Bool.false_and]
   rw[this]at h
   exact absurd h (by decide),λ_=>rfl⟩
  have e:∀(l:Nat)(g:Nat->Nat)(r:Nat×(Nat->Int)),ixP (y7 l mm km) (nsg true l (wz g)) km l g (ppQ l true g) r=ixN l mm km g r:=λ_ _ _=>rfl
  simp only[e,h1,c0,c1,c2,c3,true_and,and_true,implies_true,eq_self,Nat.le_refl,and_self];have hk5:k=0∨k=1∨k=2∨k=3∨k=4:=by omega
  clear h4;rcases hk5 with rfl|rfl|rfl|rfl|rfl
  ·simp +contextual at a0 a1 a2 a3;subst a0 a1 a2 a3;simp +contextual [z0];exact λa b h=>⟨mkA [(a,b)],⟨h,z g0,z g1,z g2,z g3⟩,rfl,⟨Nat.le_refl _,λ_ _=>rfl⟩,rfl,rfl,rfl,rfl⟩
  ·simp +contextual at a0 a1 a2 a3;subst a1 a2 a3;simp +contextual [z0];exact λa b h=>⟨⟨mkA [(a,b)],h,rfl,Nat.le_refl _,λ_ _=>rfl⟩,λi h0 a b h=>⟨mkA [i 0,(a,b)],⟨h0,h⟩,rfl,⟨Nat.le_refl _,λ_ _=>rfl⟩,rfl,Nat.le_refl _,λ_ _=>rfl⟩,λi h0 h1=>⟨mkA [i 0,i 1],⟨h0,h1,z g1,z g2,z g3⟩,rfl,⟨Nat.le_refl _,λ_ _=>rfl⟩,rfl,⟨Nat.le_refl _,λ_ _=>rfl⟩,rfl,rfl,rfl⟩⟩
  ·simp +contextual at a0 a1 a2 a3;subst a2 a3;simp +contextual [z0];exact λa b h=>⟨⟨mkA [(a,b)],h,rfl,Nat.le_refl _,λ_ _=>rfl⟩,λi h0 a b h=>⟨mkA [i 0,(a,b)],⟨h0,h⟩,rfl,⟨Nat.le_refl _,λ_ _=>rfl⟩,rfl,Nat.le_refl _,λ_ _=>rfl⟩,λi h0 h1 a b h=>⟨mkA [i 0,i 1,(a,b)],⟨h0,h1,h⟩,rfl,⟨Nat.le_refl _,λ_ _=>rfl⟩,rfl,⟨Nat.le_refl _,λ_ _=>rfl⟩,rfl,Nat.le_refl _,λ_ _=>rfl⟩,λi h0 h1 h2=>⟨mkA [i 0,i 1,i 2],⟨h0,h1,h2,z g2,z g3⟩,rfl,⟨Nat.le_refl _,λ_ _=>rfl⟩,rfl,⟨Nat.le_refl _,λ_ _=>rfl⟩,rfl,⟨Nat.le_refl _,λ_ _=>rfl⟩,rfl,rfl⟩⟩
  ·simp +contextual at a0 a1 a2 a3;subst a3;simp +contextual [z0]
   exact λa b h=>⟨⟨mkA [(a,b)],h,rfl,Nat.le_refl _,λ_ _=>rfl⟩,λi h0 a b h=>⟨mkA [i 0,(a,b)],⟨h0,h⟩,rfl,⟨Nat.le_refl _,λ_ _=>rfl⟩,rfl,Nat.le_refl _,λ_ _=>rfl⟩,λi h0 h1 a b h=>⟨mkA [i 0,i 1,(a,b)],⟨h0,h1,h⟩,rfl,⟨Nat.le_refl _,λ_ _=>rfl⟩,rfl,⟨Nat.le_refl _,λ_ _=>rfl⟩,rfl,Nat.le_refl _,λ_ _=>rfl⟩,λi h0 h1 h2 a b h=>⟨mkA [i 0,i 1,i 2,(a,b)],⟨h0,h1,h2,h⟩,rfl,⟨Nat.le_refl _,λ_ _=>rfl⟩,rfl,⟨Nat.le_refl _,λ_ _=>rfl⟩,rfl,⟨Nat.le_refl _,λ_ _=>rfl⟩,rfl,Nat.le_refl _,λ_ _=>rfl⟩,λi h0 h1 h2 h3=>⟨mkA [i 0,i 1,i 2,i 3],⟨h0,h1,h2,h3,z g3⟩,rfl,⟨Nat.le_refl _,λ_ _=>rfl⟩,rfl,⟨Nat.le_refl _,λ_ _=>rfl⟩,rfl,⟨Nat.le_refl _,λ_ _=>rfl⟩,rfl,⟨Nat.le_refl _,λ_ _=>rfl⟩,rfl⟩⟩
  ·simp +contextual [z0]
   exact λa b h=>⟨⟨mkA [(a,b)],h,rfl,Nat.le_refl _,λ_ _=>rfl⟩,λi h0 a b h=>⟨mkA [i 0,(a,b)],⟨h0,h⟩,rfl,⟨Nat.le_refl _,λ_ _=>rfl⟩,rfl,Nat.le_refl _,λ_ _=>rfl⟩,λi h0 h1 a b h=>⟨mkA [i 0,i 1,(a,b)],⟨h0,h1,h⟩,rfl,⟨Nat.le_refl _,λ_ _=>rfl⟩,rfl,⟨Nat.le_refl _,λ_ _=>rfl⟩,rfl,Nat.le_refl _,λ_ _=>rfl⟩,λi h0 h1 h2 a b h=>⟨mkA [i 0,i 1,i 2,(a,b)],⟨h0,h1,h2,h⟩,rfl,⟨Nat.le_refl _,λ_ _=>rfl⟩,rfl,⟨Nat.le_refl _,λ_ _=>rfl⟩,rfl,⟨Nat.le_refl _,λ_ _=>rfl⟩,rfl,Nat.le_refl _,λ_ _=>rfl⟩,λi h0 h1 h2 h3 a b h=>⟨mkA [i 0,i 1,i 2,i 3,(a,b)],⟨h0,h1,h2,h3,h⟩,rfl,⟨Nat.le_refl _,λ_ _=>rfl⟩,rfl,⟨Nat.le_refl _,λ_ _=>rfl⟩,rfl,⟨Nat.le_refl _,λ_ _=>rfl⟩,rfl,⟨Nat.le_refl _,λ_ _=>rfl⟩,rfl,Nat.le_refl _,λ_ _=>rfl⟩,λi h0 h1 h2 h3 h4=>⟨mkA [i 0,i 1,i 2,i 3,i 4],⟨h0,h1,h2,h3,h4⟩,rfl,⟨Nat.le_refl _,λ_ _=>rfl⟩,rfl,⟨Nat.le_refl _,λ_ _=>rfl⟩,rfl,⟨Nat.le_refl _,λ_ _=>rfl⟩,rfl,⟨Nat.le_refl _,λ_ _=>rfl⟩,rfl,Nat.le_refl _,λ_ _=>rfl⟩⟩
def c4I:Ctx:=⟨⟨tys,[]⟩,[(74,z5 b6I)]⟩
theorem c8W:A5 prog c4I:=⟨⟨C0,FlatsOk.nil⟩,j8.cons pts j8.nil,by kernel_rfl⟩
def c2R:F6:=⟨c4I,[(91,q7 IxA ⟨λ_=>(0,λ_=>0)⟩ b6j)],[],[],[]⟩
theorem c8o:B4 prog c2R:=⟨c8W,y5.cons c9X y5.nil⟩
def b6R:List SV->RRd (IxA)
 | [.agg [.int .i64 3, .slcc n len, .slcc h k1], .ptr o 0]=>.read n λo0=>(match j9 .i64 o0.c with
  | some (m0,g)=>.read h λo1=>(match a7g o1.c with
  | some (k,q0,l0,q1,l1,q2,l2,q3,l3)=>.read q0 λo2=>(match j9 .i64 o2.c with
  | some (m2,g0)=>.read q1 λo3=>(match j9 .i64 o3.c with
  | some (m3,g1)=>.read q2 λo4=>(match j9 .i64 o4.c with
  | some (m4,g2)=>.read q3 λo5=>(match j9 .i64 o5.c with
  | some (m5,g3)=>.read o λo6=>(match a0z o6.c with
  | some (km,mm)=>.ret ⟨[.agg [.int .i64 3, .slcc 0 len, .slcc 1 k], .ptr 6 0],[(0,⟨false,23, .ints .i64 m0 g,0⟩),(1,⟨false,25, .upto k [.slcc 2 l0, .slcc 3 l1, .slcc 4 l2, .slcc 5 l3],0⟩),(2,⟨false,23, .ints .i64 m2 g0,0⟩),(3,⟨false,23, .ints .i64 m3 g1,0⟩),(4,⟨false,23, .ints .i64 m4 g2,0⟩),(5,⟨false,23, .ints .i64 m5 g3,0⟩),(6,⟨false,148,K7 km mm,0⟩)],some (k=k1/\m0=2*len/\m2=2*l0/\m3=2*l1/\m4=2*l2/\m5=2*l3/\(hab k l0 l1 l2 l3/\0<=mm/\G7 len true mm km (fI g)/\G7 l0 true mm km (fI g0)/\G7 l1 true mm km (fI g1)/\G7 l2 true mm km (fI g2)/\G7 l3 true mm km (fI g3))),λR=>(ixN len mm km (fI g) (R 0)/\ixN l0 mm km (fI g0) (R 1)/\ixN l1 mm km (fI g1) (R 2)/\ixN l2 mm km (fI g2) (R 3)/\ixN l3 mm km (fI g3) (R 4)),λR=>⟨[],[], .ifc 121 (.ptr 7 0),[],[(7,⟨true,137, .cells [.ifc 157 (.ptr 9 0), .slcc 8 k],0⟩),(8,⟨true,106, .upto k [.ifc 157 (.ptr 12 0), .ifc 157 (.ptr 15 0), .ifc 157 (.ptr 18 0), .ifc 157 (.ptr 21 0)],1⟩),(9,⟨true,150, .cells (D4 len true (fI g) 10 (ixK len mm km) (y7 len mm km) 11 (R 0).1),0⟩),(10,⟨true,100, .flts .f64 (2*len) (fI g),2⟩),(11,⟨true,5, .ints .u8 (R 0).1 (R 0).2,1⟩),(12,⟨true,150, .upto (z0 k 0 10) (D4 l0 true (fI g0) 13 (ixK l0 mm km) (y7 l0 mm km) 14 (R 1).1),0⟩),(13,⟨true,100, .flts .f64 (2*l0) (fI g0),2⟩),(14,⟨true,5, .ints .u8 (R 1).1 (R 1).2,1⟩),(15,⟨true,150, .upto (z0 k 1 10) (D4 l1 true (fI g1) 16 (ixK l1 mm km) (y7 l1 mm km) 17 (R 2).1),0⟩),(16,⟨true,100, .flts .f64 (2*l1) (fI g1),2⟩),(17,⟨true,5, .ints .u8 (R 2).1 (R 2).2,1⟩),(18,⟨true,150, .upto (z0 k 2 10) (D4 l2 true (fI g2) 19 (ixK l2 mm km) (y7 l2 mm km) 20 (R 3).1),0⟩),(19,⟨true,100, .flts .f64 (2*l2) (fI g2),2⟩),(20,⟨true,5, .ints .u8 (R 3).1 (R 3).2,1⟩),(21,⟨true,150, .upto (z0 k 3 10) (D4 l3 true (fI g3) 22 (ixK l3 mm km) (y7 l3 mm km) 23 (R 4).1),0⟩),(22,⟨true,100, .flts .f64 (2*l3) (fI g3),2⟩),(23,⟨true,5, .ints .u8 (R 4).1 (R 4).2,1⟩)],none⟩⟩
  | none=>.fail)
  | none=>.fail)
  | none=>.fail)
  | none=>.fail)
  | none=>.fail)
  | none=>.fail)
  | none=>.fail)
 | _=>.fail
theorem c0x(len:Nat)(km mm:Int)(k l0 l1 l2 l3:Nat)(_ _ _ _:Nm)(g:Nat->Int)(g0:Nat->Int)(g1:Nat->Int)(g2:Nat->Int)(g3:Nat->Int){T1}(t1:T1=(k=k/\(0<k->True/\l0=l0)/\(1<k->True/\l1=l1)/\(2<k->True/\l2=l2)/\(3<k->True/\l3=l3)/\True)){T2}(t2:T2=(2*len<=2*len/\∀ (i:Nat),i<2*len->g i=g i)){T3}(t3:T3=(39=39/\0=0/\(3:Int)=3/\
 (True/\len=len)/\(True/\k=k)/\True)){T4}(t4:T4=(True/\0=0)){T5}(t5:T5=(100=100/\2=2/\2*l0<=2*l0/\∀ (i:Nat),i<2*l0->fI g0 i=fI g0 i)){T6}(t6:T6=((3:Int)=3/\(True/\len=len)/\(True/\k=k)/\
 True)){T7}(t7:T7=(2*l0<=2*l0/\∀ (i:Nat),i<2*l0->g0 i=g0 i)){T8}(t8:T8=(2*l1<=2*l1/\∀ (i:Nat),i<2*l1->g1 i=g1 i)){T9}(t9:T9=(2*l2<=2*l2/\∀ (i:Nat),i<2*l2->g2 i=g2 i)){T10}(t10:T10=(2*l3<=2*l3/\∀
 (i:Nat),i<2*l3->g3 i=g3 i)){T11}(t11:T11=(km=km/\mm=mm/\True)){T12}(t12:T12=(↑k:Int)){T13}(t13:T13=(2*l0<=2*l0/\∀ (i:Nat),i<2*l0->fI g0 i=fI g0 i)){T14}(t14:T14=(100=100/\2=2/\2*l1<=2*l1/\∀ (i:Nat),i
 < 2*l1->fI g1 i=fI g1 i)){T15}(t15:T15=(2*l1<=2*l1/\∀ (i:Nat),i<2*l1->fI g1 i=fI g1 i)){T16}(t16:T16=(True/\l0=l0)){T17}(t17:T17=(100=100/\2=2/\2*l2<=2*l2/\∀ (i:Nat),i<2*l2->fI g2 i=fI g2
 i)){T18}(t18:T18=(a9 len true)){T19}(t19:T19=(a9 l0 true)){T20}(t20:T20=(a9 l1 true)){T21}(t21:T21=(a9 l2 true)){T22}(t22:T22=(a9 l3 true)){T23}(t23:T23=(True/\l1=l1)){T24}(t24:T24=(2*l2<=2*l2/\∀ (i:Nat),i<2*l2->fI g2
 i=fI g2 i)){T25}(t25:T25=(True/\k=k)){T26}(t26:T26=(a9 len true&&fGt .f64 (cwF (fI g) len len) 0)){T27}(t27:T27=(a9 l0 true&&fGt .f64 (cwF (fI g0) l0 l0) 0)){T28}(t28:T28=(a9 l1 true&&fGt .f64 (cwF (fI g1) l1 l1)
 0)){T29}(t29:T29=(a9 l2 true&&fGt .f64 (cwF (fI g2) l2 l2) 0)){T30}(t30:T30=(a9 l3 true&&fGt .f64 (cwF (fI g3) l3 l3) 0)):L5 c2R 7 [(9, .unr [⟨Nat,λ_=>⟨53,[(1, .ptr 6 0),(2, .ptr 7 0),(5, .nils),(30, .slcc 1 k),(31, .int .i64 k),(32, .int .i64 0)],[(0,⟨false,23, .ints .i64 (2*len) g,0⟩),(1,⟨false,25, .upto k [.slcc 2 l0, .slcc 3 l1, .slcc 4 l2, .slcc 5 l3],0⟩),(2,⟨false,23, .ints .i64 (2*l0) g0,0⟩),(3,⟨false,23, .ints .i64 (2*l1) g1,0⟩),(4,⟨false,23, .ints .i64 (2*l2) g2,0⟩),(5,⟨false,23, .ints .i64 (2*l3) g3,0⟩),(6,⟨false,148,K7 km mm,0⟩),(7,⟨true,39, .cells [.int .i64 3, .slcc 0 len, .slcc 1 k],0⟩)],8⟩,λ_=>0<=k,λ_=>0⟩,⟨Nat,λ_=>⟨53,[(1, .ptr 6 0),(2, .ptr 7 0),(5, .slcc 8 1),(30, .slcc 1 k),(31, .int .i64 k),(32, .int .i64 1)],[(0,⟨false,23, .ints .i64 (2*len) g,0⟩),(1,⟨false,25, .upto k [.slcc 2 l0, .slcc 3 l1, .slcc 4 l2, .slcc 5 l3],0⟩),(2,⟨false,23, .ints .i64 (2*l0) g0,0⟩),(3,⟨false,23, .ints .i64 (2*l1) g1,0⟩),(4,⟨false,23, .ints .i64 (2*l2) g2,0⟩),(5,⟨false,23, .ints .i64 (2*l3) g3,0⟩),(6,⟨false,148,K7 km mm,0⟩),(7,⟨true,39, .cells [.int .i64 3, .slcc 0 len, .slcc 1 k],0⟩),(8,⟨true,118, .cells [.slcc 9 l0],1⟩),(9,⟨true,100, .flts .f64 (2*l0) (fI g0),2⟩)],10⟩,λ_=>1<=k,λ_=>0⟩,⟨Nat,λ_=>⟨53,[(1, .ptr 6 0),(2, .ptr 7 0),(5, .slcc 8 2),(30, .slcc 1 k),(31, .int .i64 k),(32, .int .i64 2)],[(0,⟨false,23, .ints .i64 (2*len) g,0⟩),(1,⟨false,25, .upto k [.slcc 2 l0, .slcc 3 l1, .slcc 4 l2, .slcc 5 l3],0⟩),(2,⟨false,23, .ints .i64 (2*l0) g0,0⟩),(3,⟨false,23, .ints .i64 (2*l1) g1,0⟩),(4,⟨false,23, .ints .i64 (2*l2) g2,0⟩),(5,⟨false,23, .ints .i64 (2*l3) g3,0⟩),(6,⟨false,148,K7 km mm,0⟩),(7,⟨true,39, .cells [.int .i64 3, .slcc 0 len, .slcc 1 k],0⟩),(8,⟨true,118, .cells [.slcc 9 l0, .slcc 10 l1],1⟩),(9,⟨true,100, .flts .f64 (2*l0) (fI g0),2⟩),(10,⟨true,100, .flts .f64 (2*l1) (fI g1),2⟩)],11⟩,λ_=>2<=k,λ_=>0⟩,⟨Nat,λ_=>⟨53,[(1, .ptr 6 0),(2, .ptr 7 0),(5, .slcc 8 3),(30, .slcc 1 k),(31, .int .i64 k),(32, .int .i64 3)],[(0,⟨false,23, .ints .i64 (2*len) g,0⟩),(1,⟨false,25, .upto k [.slcc 2 l0, .slcc 3 l1, .slcc 4 l2, .slcc 5 l3],0⟩),(2,⟨false,23, .ints .i64 (2*l0) g0,0⟩),(3,⟨false,23, .ints .i64 (2*l1) g1,0⟩),(4,⟨false,23, .ints .i64 (2*l2) g2,0⟩),(5,⟨false,23, .ints .i64 (2*l3) g3,0⟩),(6,⟨false,148,K7 km mm,0⟩),(7,⟨true,39, .cells [.int .i64 3, .slcc 0 len, .slcc 1 k],0⟩),(8,⟨true,118, .cells [.slcc 9 l0, .slcc 10 l1, .slcc 11 l2],1⟩),(9,⟨true,100, .flts .f64 (2*l0) (fI g0),2⟩),(10,⟨true,100, .flts .f64 (2*l1) (fI g1),2⟩),(11,⟨true,100, .flts .f64 (2*l2) (fI g2),2⟩)],12⟩,λ_=>3<=k,λ_=>0⟩,⟨Nat,λ_=>⟨53,[(1, .ptr 6 0),(2, .ptr 7 0),(5, .slcc 8 4),(30, .slcc 1 k),(31, .int .i64 k),(32, .int .i64 4)],[(0,⟨false,23, .ints .i64 (2*len) g,0⟩),(1,⟨false,25, .upto k [.slcc 2 l0, .slcc 3 l1, .slcc 4 l2, .slcc 5 l3],0⟩),(2,⟨false,23, .ints .i64 (2*l0) g0,0⟩),(3,⟨false,23, .ints .i64 (2*l1) g1,0⟩),(4,⟨false,23, .ints .i64 (2*l2) g2,0⟩),(5,⟨false,23, .ints .i64 (2*l3) g3,0⟩),(6,⟨false,148,K7 km mm,0⟩),(7,⟨true,39, .cells [.int .i64 3, .slcc 0 len, .slcc 1 k],0⟩),(8,⟨true,118, .cells [.slcc 9 l0, .slcc 10 l1, .slcc 11 l2, .slcc 12 l3],1⟩),(9,⟨true,100, .flts .f64 (2*l0) (fI g0),2⟩),(10,⟨true,100, .flts .f64 (2*l1) (fI g1),2⟩),(11,⟨true,100, .flts .f64 (2*l2) (fI g2),2⟩),(12,⟨true,100, .flts .f64 (2*l3) (fI g3),2⟩)],13⟩,λ_=>4<=k,λ_=>0⟩])] [(13,⟨Nat,λ_=>⟨53,[(1, .ptr 6 0),(2, .ptr 7 0),(5, .slcc 8 k)],[(0,⟨false,23, .ints .i64 (2*len) g,0⟩),(6,⟨false,148,K7 km mm,0⟩),(7,⟨false,39, .cells [.int .i64 3, .slcc 0 len, .slcc 1 k],0⟩),(8,⟨false,118, .upto k [.slcc 9 l0, .slcc 10 l1, .slcc 11 l2, .slcc 12 l3],0⟩),(9,⟨false,100, .flts .f64 (2*l0) (fI g0),0⟩),(10,⟨false,100, .flts .f64 (2*l1) (fI g1),0⟩),(11,⟨false,100, .flts .f64 (2*l2) (fI g2),0⟩),(12,⟨false,100, .flts .f64 (2*l3) (fI g3),0⟩)],13⟩,λ_=>True,λ_=>0⟩)] (l7 f63) (z6 f63.ntmps [.agg [.int .i64 3, .slcc 0 len, .slcc 1 k], .ptr 6 0] [(0,⟨false,23, .ints .i64 (2*len) g,0⟩),(1,⟨false,25, .upto k [.slcc 2 l0, .slcc 3 l1, .slcc 4 l2, .slcc 5 l3],0⟩),(2,⟨false,23, .ints .i64 (2*l0) g0,0⟩),(3,⟨false,23, .ints .i64 (2*l1) g1,0⟩),(4,⟨false,23, .ints .i64 (2*l2) g2,0⟩),(5,⟨false,23, .ints .i64 (2*l3) g3,0⟩),(6,⟨false,148,K7 km mm,0⟩)] 7) (A0 c2R.G.E.T f63.results.toList λS v=>∃ R:IxA,(ixN len mm km (fI g) (R 0)/\ixN l0 mm km (fI g0) (R 1)/\ixN l1 mm km (fI g1) (R 2)/\ixN l2 mm km (fI g2) (R 3)/\ixN l3 mm km (fI g3) (R 4))/\B3 7 ⟨[],[], .ifc 121 (.ptr 7 0),[],[(7,⟨true,137, .cells [.ifc 157 (.ptr 9 0), .slcc 8 k],0⟩),(8,⟨true,106, .upto k [.ifc 157 (.ptr 12 0), .ifc 157 (.ptr 15 0), .ifc 157 (.ptr 18 0), .ifc 157 (.ptr 21 0)],1⟩),(9,⟨true,150, .cells (D4 len true (fI g) 10 (ixK len mm km) (y7 len mm km) 11 (R 0).1),0⟩),(10,⟨true,100, .flts .f64 (2*len) (fI g),2⟩),(11,⟨true,5, .ints .u8 (R 0).1 (R 0).2,1⟩),(12,⟨true,150, .upto (z0 k 0 10) (D4 l0 true (fI g0) 13 (ixK l0 mm km) (y7 l0 mm km) 14 (R 1).1),0⟩),(13,⟨true,100, .flts .f64 (2*l0) (fI g0),2⟩),(14,⟨true,5, .ints .u8 (R 1).1 (R 1).2,1⟩),(15,⟨true,150, .upto (z0 k 1 10) (D4 l1 true (fI g1) 16 (ixK l1 mm km) (y7 l1 mm km) 17 (R 2).1),0⟩),(16,⟨true,100, .flts .f64 (2*l1) (fI g1),2⟩),(17,⟨true,5, .ints .u8 (R 2).1 (R 2).2,1⟩),(18,⟨true,150, .upto (z0 k 2 10) (D4 l2 true (fI g2) 19 (ixK l2 mm km) (y7 l2 mm km) 20 (R 3).1),0⟩),(19,⟨true,100, .flts .f64 (2*l2) (fI g2),2⟩),(20,⟨true,5, .ints .u8 (R 3).1 (R 3).2,1⟩),(21,⟨true,150, .upto (z0 k 3 10) (D4 l3 true (fI g3) 22 (ixK l3 mm km) (y7 l3 mm km) 23 (R 4).1),0⟩),(22,⟨true,100, .flts .f64 (2*l3) (fI g3),2⟩),(23,⟨true,5, .ints .u8 (R 4).1 (R 4).2,1⟩)],none⟩ S v)=(
 (false=true->False)/\(false=false->(false=true->(2*len=2*len/\len<=1000000)/\False)/\(false=false->(true=true->((∃(_:Nat),0<=k/\(T4/\T4/\True/\T25/\T12=T12/\(0:Int)=0/\True)/\True/\T2/\True/\T1/\True/\
 T7/\True/\T8/\True/\T9/\True/\T10/\True/\T11/\True/\T3/\True)/\(∀(_:Nat),0<=k->(decide (0<T12)=true->(((0:Int)<=0/\0<T12)/\1<=k)/\1<=k/\(2*l0=2*l0/\l0<=1000000)/\∃(_:Nat),1<=k/\(T4/\T4/\(True/\1 =
 1)/\T25/\T12=T12/\(1:Int)=1/\True)/\True/\T2/\True/\T1/\True/\T7/\True/\T8/\True/\T9/\True/\T10/\True/\T11/\True/\T3/\True/\(118=118/\1=1/\T16/\True)/\True/\T5/\True)/\(decide (0<T12)=false->∃(_:Nat),
 True/\(T4/\T4/\k=0/\True)/\True/\T2/\True/\T11/\True/\T6/\True/\k=0/\True/\2*l0=0/\True/\2*l1=0/\True/\2*l2=0/\True/\2*l3=0/\True))/\(∀(_:Nat),1<=k->(decide (1<T12)=true->(((0:Int)<=1/\1<T12)
 /\1<=k)/\2<=k/\(2*l1=2*l1/\l1<=1000000)/\(1=1/\48<=140737488355328/\2<=9223372036854775807)/\∃(_:Nat),2<=k/\(T4/\T4/\(True/\2=2)/\T25/\T12=T12/\(2:Int)=2/\True)/\True/\T2/\True/\T1/\True/\T7/\True/\T8
 /\True/\T9/\True/\T10/\True/\T11/\True/\T3/\True/\(118=118/\1=1/\T16/\T23/\True)/\True/\T5/\True/\T14/\True)/\(decide (1<T12)=false->∃(_:Nat),True/\(T4/\T4/\(True/\1=k)/\True)/\True/\T2/\True/\T11/\True/\
 T6/\True/\(T16/\k=1)/\True/\T13/\True/\2*l1=0/\True/\2*l2=0/\True/\2*l3=0/\True))/\(∀(_:Nat),2<=k->(decide (2<T12)=true->(((0:Int)<=2/\2<T12)/\1<=k)/\3<=k/\(2*l2=2*l2/\l2<=1000000)/\(2=2/\
 72<=140737488355328/\3<=9223372036854775807)/\∃(_:Nat),3<=k/\(T4/\T4/\(True/\3=3)/\T25/\T12=T12/\(3:Int)=3/\True)/\True/\T2/\True/\T1/\True/\T7/\True/\T8/\True/\T9/\True/\T10/\True/\T11/\True/\T3/\True/\(118
 = 118/\1=1/\T16/\T23/\(True/\l2=l2)/\True)/\True/\T5/\True/\T14/\True/\T17/\True)/\(decide (2<T12)=false->∃(_:Nat),True/\(T4/\T4/\(True/\2=k)/\True)/\True/\T2/\True/\T11/\True/\T6/\True/\(T16/\T23/\k=2)/\
 True/\T13/\True/\T15/\True/\2*l2=0/\True/\2*l3=0/\True))/\(∀(_:Nat),3<=k->(decide (3<T12)=true->(((0:Int)<=3/\3<T12)/\1<=k)/\4<=k/\(2*l3=2*l3/\l3<=1000000)/\(3=3/\96<=140737488355328/\4<=
 9223372036854775807)/\∃(_:Nat),4<=k/\(T4/\T4/\(True/\4=4)/\T25/\T12=T12/\(4:Int)=4/\True)/\True/\T2/\True/\T1/\True/\T7/\True/\T8/\True/\T9/\True/\T10/\True/\T11/\True/\T3/\True/\(118=118/\1=1/\T16/\T23
 /\(True/\l2=l2)/\(True/\l3=l3)/\True)/\True/\T5/\True/\T14/\True/\T17/\True/\(100=100/\2=2/\2*l3<=2*l3/\∀(i:Nat),i<2*l3->fI g3 i=fI g3 i)/\True)/\(decide (3<T12)=false->∃(_:Nat),True/\(T4/\T4/\
 (True/\3=k)/\True)/\True/\T2/\True/\T11/\True/\T6/\True/\(T16/\T23/\(True/\l2=l2)/\k=3)/\True/\T13/\True/\T15/\True/\T24/\True/\2*l3=0/\True))/\(∀(_:Nat),4<=k->(decide (4<T12)=true->(((0:Int)<=4/\4 <
 T12)/\1<=k)/\False)/\(decide (4<T12)=false->∃(_:Nat),True/\(T4/\T4/\(True/\4=k)/\True)/\True/\T2/\True/\T11/\True/\T6/\True/\(T16/\T23/\(True/\l2=l2)/\(True/\l3=l3)/\k=4)/\True/\T13/\True/\T15/\True/\T24
 /\True/\(2*l3<=2*l3/\∀(i:Nat),i<2*l3->fI g3 i=fI g3 i)/\True))/\True)/\∀(_:Nat),True->(2*len=2*len/\len<=1000000)/\∀(i:Nat->Nat×(Nat->Int)),(k=k/\2*len=2*len/\2*l0=2*l0/\2*l1=2*l1/\2
 * l2=2*l2/\2*l3=2*l3/\hab k l0 l1 l2 l3/\(0:Int)<=mm/\G7 len true mm km (fI g)/\G7 l0 true mm km (fI g0)/\G7 l1 true mm km (fI g1)/\G7 l2 true mm km (fI g2)/\G7 l3 true mm km (fI g3))/\(ixN len mm km (fI g) (i 0)/\ixN
 l0 mm km (fI g0) (i 1)/\ixN l1 mm km (fI g1) (i 2)/\ixN l2 mm km (fI g2) (i 3)/\ixN l3 mm km (fI g3) (i 4)->∃(pq:IxA),(ixN len mm km (fI g) (pq 0)/\ixN l0 mm km (fI g0) (pq 1)/\ixN l1 mm km (fI g1) (pq 2)/\ixN l2 mm km (fI g2) (pq 3)/\ixN
 l3 mm km (fI g3) (pq 4))/\T4/\True/\(137=137/\0=0/\T4/\T25/\True)/\True/\(106=106/\1=1/\k=k/\(0<k->True/\0=0)/\(1<k->True/\0=0)/\(2<k->True/\0=0)/\(3<k->True/\0=0)/\True)/\True/\(150=150/\0=0/\
 true=true/\T26=T26/\(a9 len true && !(dcF (fI g) len len).2)=(a9 len true && !(dcF (fI g) len len).2)/\ixK len mm km=ixK len mm km/\(y7 len mm km=y7 len mm km/\True/\(i 0).1=(pq 0).1)/\pick T18 (rlo (fI g) 0 len)=pick
 T18 (rlo (fI g) 0 len)/\pick T18 (rlo (fI g) 1 len)=pick T18 (rlo (fI g) 1 len)/\pick T18 (rhi (fI g) 0 len)=pick T18 (rhi (fI g) 0 len)/\pick T18 (rhi (fI g) 1 len)=pick T18 (rhi (fI g) 1 len)/\(True/\len=len)/\True)/\True/\(100 =
 100/\2=2/\2*len<=2*len/\∀(i:Nat),i<2*len->fI g i=fI g i)/\True/\(5=5/\1=1/\(pq 0).1<=(i 0).1/\∀(i_1:Nat),i_1<(pq 0).1->(i 0).2 i_1=(pq 0).2 i_1)/\True/\(150=150/\0=0/\z0 k 0 10=z0 k 0 10/\(0 <
 z0 k 0 10->true=true)/\(1<z0 k 0 10->T27=T27)/\(2<z0 k 0 10->(a9 l0 true && !(dcF (fI g0) l0 l0).2)=(a9 l0 true && !(dcF (fI g0) l0 l0).2))/\(3<z0 k 0 10->ixK l0 mm km=ixK l0 mm km)/\(4<z0 k 0 10->y7 l0 mm
 km=y7 l0 mm km/\True/\(i 1).1=(pq 1).1)/\(5<z0 k 0 10->pick T19 (rlo (fI g0) 0 l0)=pick T19 (rlo (fI g0) 0 l0))/\(6<z0 k 0 10->pick T19 (rlo (fI g0) 1 l0)=pick T19 (rlo (fI g0) 1 l0))/\(7<z0 k 0 10->pick T19 (rhi (fI g0)
 0 l0)=pick T19 (rhi (fI g0) 0 l0))/\(8<z0 k 0 10->pick T19 (rhi (fI g0) 1 l0)=pick T19 (rhi (fI g0) 1 l0))/\(9<z0 k 0 10->True/\l0=l0)/\True)/\True/\(100=100/\2=2/\2*l0<=2*l0/\∀(i:Nat),i<2*l0->fI g0 i=fI
 g0 i)/\True/\(5=5/\1=1/\(pq 1).1<=(i 1).1/\∀(i_1:Nat),i_1<(pq 1).1->(i 1).2 i_1=(pq 1).2 i_1)/\True/\(150=150/\0=0/\z0 k 1 10=z0 k 1 10/\(0<z0 k 1 10->true=true)/\(1<z0 k 1 10->T28=T28)/\(2<z0 k 1
 10->(a9 l1 true && !(dcF (fI g1) l1 l1).2)=(a9 l1 true && !(dcF (fI g1) l1 l1).2))/\(3<z0 k 1 10->ixK l1 mm km=ixK l1 mm km)/\(4<z0 k 1 10->y7 l1 mm km=y7 l1 mm km/\True/\(i 2).1=(pq 2).1)/\(5<z0 k 1 10->pick
 T20 (rlo (fI g1) 0 l1)=pick T20 (rlo (fI g1) 0 l1))/\(6<z0 k 1 10->pick T20 (rlo (fI g1) 1 l1)=pick T20 (rlo (fI g1) 1 l1))/\(7<z0 k 1 10->pick T20 (rhi (fI g1) 0 l1)=pick T20 (rhi (fI g1) 0 l1))/\(8<z0 k 1 10->pick T20 (rhi
 (fI g1) 1 l1)=pick T20 (rhi (fI g1) 1 l1))/\(9<z0 k 1 10->True/\l1=l1)/\True)/\True/\(100=100/\2=2/\2*l1<=2*l1/\∀(i:Nat),i<2*l1->fI g1 i=fI g1 i)/\True/\(5=5/\1=1/\(pq 2).1<=(i 2).1/\∀(i_1:Nat),i_1 <
 (pq 2).1->(i 2).2 i_1=(pq 2).2 i_1)/\True/\(150=150/\0=0/\z0 k 2 10=z0 k 2 10/\(0<z0 k 2 10->true=true)/\(1<z0 k 2 10->T29=T29)/\(2<z0 k 2 10->(a9 l2 true && !(dcF (fI g2) l2 l2).2)=(a9 l2 true && !(dcF
 (fI g2) l2 l2).2))/\(3<z0 k 2 10->ixK l2 mm km=ixK l2 mm km)/\(4<z0 k 2 10->y7 l2 mm km=y7 l2 mm km/\True/\(i 3).1=(pq 3).1)/\(5<z0 k 2 10->pick T21 (rlo (fI g2) 0 l2)=pick T21 (rlo (fI g2) 0 l2))/\(6<z0 k 2 10->
 pick T21 (rlo (fI g2) 1 l2)=pick T21 (rlo (fI g2) 1 l2))/\(7<z0 k 2 10->pick T21 (rhi (fI g2) 0 l2)=pick T21 (rhi (fI g2) 0 l2))/\(8<z0 k 2 10->pick T21 (rhi (fI g2) 1 l2)=pick T21 (rhi (fI g2) 1 l2))/\(9<z0 k 2 10->True/\l2
 = l2)/\True)/\True/\(100=100/\2=2/\2*l2<=2*l2/\∀(i:Nat),i<2*l2->fI g2 i=fI g2 i)/\True/\(5=5/\1=1/\(pq 3).1<=(i 3).1/\∀(i_1:Nat),i_1<(pq 3).1->(i 3).2 i_1=(pq 3).2 i_1)/\True/\(150=150/\0=0/\z0 k
 3 10=z0 k 3 10/\(0<z0 k 3 10->true=true)/\(1<z0 k 3 10->T30=T30)/\(2<z0 k 3 10->(a9 l3 true && !(dcF (fI g3) l3 l3).2)=(a9 l3 true && !(dcF (fI g3) l3 l3).2))/\(3<z0 k 3 10->ixK l3 mm km=ixK l3 mm km)/\(4 <
 z0 k 3 10->y7 l3 mm km=y7 l3 mm km/\True/\(i 4).1=(pq 4).1)/\(5<z0 k 3 10->pick T22 (rlo (fI g3) 0 l3)=pick T22 (rlo (fI g3) 0 l3))/\(6<z0 k 3 10->pick T22 (rlo (fI g3) 1 l3)=pick T22 (rlo (fI g3) 1 l3))/\(7<z0 k 3
 10->pick T22 (rhi (fI g3) 0 l3)=pick T22 (rhi (fI g3) 0 l3))/\(8<z0 k 3 10->pick T22 (rhi (fI g3) 1 l3)=pick T22 (rhi (fI g3) 1 l3))/\(9<z0 k 3 10->True/\l3=l3)/\True)/\True/\(100=100/\2=2/\2*l3<=2*l3/\∀(i:Nat),
 i<2*l3->fI g3 i=fI g3 i)/\True/\(5=5/\1=1/\(pq 4).1<=(i 4).1/\∀(i_1:Nat),i_1<(pq 4).1->(i 4).2 i_1=(pq 4).2 i_1)/\True))/\(true=false->False)))):=by subst t1 t2 t3 t4 t5 t6 t7 t8 t9 t10 t11 t12 t13 t14 t15 t16 t17 t18 t19 t20 t21 t22 t23 t24 t25 t26 t27 t28 t29 t30;kernel_rfl
theorem c8G:z4 prog 63 (q7 (IxA) ⟨λ_=>(0,λ_=>0)⟩ b6R):=by
 refine J5 c8o func63 rfl (by kernel_rfl) λargs=>?_
 unfold b6R;split;rotate_left;trivial;rename_i n len h k1 o;intro o0;try dsimp only
 split;rotate_left;trivial;rename_i m0 g hm0;intro o1;try dsimp only
 split;rotate_left;trivial;rename_i k q0 l0 q1 l1 q2 l2 q3 l3 hm1;intro o2;try dsimp only
 split;rotate_left;trivial;rename_i m2 g0 hm2;intro o3;try dsimp only
 split;rotate_left;trivial;rename_i m3 g1 hm3;intro o4;try dsimp only
 split;rotate_left;trivial;rename_i m4 g2 hm4;intro o5;try dsimp only
 split;rotate_left;trivial;rename_i m5 g3 hm5;intro o6;try dsimp only
 split;rotate_left;trivial;rename_i km mm hm6;intro(ho:k=k1/\m0=2*len/\m2=2*l0/\m3=2*l1/\m4=2*l2/\m5=2*l3/\(hab k l0 l1 l2 l3/\0<=mm/\G7 len true mm km (fI g)/\G7 l0 true mm km (fI g0)/\G7 l1 true mm km (fI g1)/\G7 l2 true mm km (fI g2)/\G7 l3 true mm km (fI g3)));obtain⟨heq0,hsz0,hsz2,hsz3,hsz4,hsz5,ho⟩:=ho;subst heq0 hsz0;subst hsz2 hsz3;subst hsz4 hsz5;refine⟨?_,_,_,(c0x len km mm k l0 l1 l2 l3 q0 q1 q2 q3 g g0 g1 g2 g3 rfl rfl rfl rfl rfl rfl rfl rfl rfl rfl rfl rfl rfl rfl rfl rfl rfl rfl rfl rfl rfl rfl rfl rfl rfl rfl rfl rfl rfl rfl).mpr ?_⟩
 ·refine g9 rfl ⟨λ_=>rfl,?_,⟨trivial,(j5 hm0).1,⟨trivial,P9 hm1 a8 a8 a8 a8,⟨trivial,(j5 hm2).1,⟨trivial,(j5 hm3).1,⟨trivial,(j5 hm4).1,⟨trivial,(j5 hm5).1,⟨trivial,H1 hm6,trivial⟩⟩⟩⟩⟩⟩⟩⟩;simp[l9,w8,A1,y4,y6,nth,a8]
 ·obtain⟨ha,hm,h1,c0,c1,c2,c3⟩:=ho;have ha':=ha;obtain⟨h4,a0,a1,a2,a3⟩:=ha;have hl:len<=1000000:=h1.1;have hl0:l0<=1000000:=c0.1;have hl1:l1<=1000000:=c1.1;have hl2:l2<=1000000:=c2.1;have hl3:l3<=1000000:=c3.1;simp only[hl,hl0,hl1,hl2,hl3,h1,c0,c1,c2,c3,hm,true_and,and_true,implies_true,true_implies,eq_self,Nat.le_refl,and_self];have hk5:k=0∨k=1∨k=2∨k=3∨k=4:=by omega
  clear h4;rcases hk5 with rfl|rfl|rfl|rfl|rfl
  all_goals simp_all +contextual [hab,z0]
  all_goals exact λi h0 h1 h2 h3 h4=>⟨i,⟨h0,h1,h2,h3,h4⟩,by simp⟩
end
set_option maxHeartbeats 1000000
def c3d:b8->Option (Nm×Nm×Nat)
 | .cells [.ifc 157 (.ptr s 0), .slcc h k]=>some (s,h,k)
 | _=>none
theorem b5l{σ:Sig}{c:b8}{s h p q:Nm}{k:Nat}(hh:c3d c=some (s,h,k))(s0:E9 (σ p) s)(s1:E9 (σ q) h):H2 σ c (.cells [.ifc 157 (.ptr p 0), .slcc q k]):=by
 unfold c3d at hh;split at hh
 ·simp only[oI9,pI9]at hh;obtain⟨rfl,rfl,rfl⟩:=hh;show l9 σ _ _;simp[l9,w8,s0,s1]
 ·cases hh
def rgU:b8->Option (Nat×Nm×Nm×Nm×Nm)
 | .upto k [.ifc 157 (.ptr e0 0), .ifc 157 (.ptr e1 0), .ifc 157 (.ptr e2 0), .ifc 157 (.ptr e3 0)]=>some (k,e0,e1,e2,e3)
 | _=>none
theorem b7v{σ:Sig}{c:b8}{k:Nat}{e0 e1 e2 e3 p0 p1 p2 p3:Nm}(h:rgU c=some (k,e0,e1,e2,e3))(s0:E9 (σ p0) e0)(s1:E9 (σ p1) e1)(s2:E9 (σ p2) e2)(s3:E9 (σ p3) e3) :
  H2 σ c (.upto k [.ifc 157 (.ptr p0 0), .ifc 157 (.ptr p1 0), .ifc 157 (.ptr p2 0), .ifc 157 (.ptr p3 0)]):=by
 unfold rgU at h;split at h
 ·simp only[oI9,pI9]at h;obtain⟨rfl,rfl,rfl,rfl,rfl⟩:=h;exact⟨rfl,by simp[a3U,w8,s0,s1,s2,s3]⟩
 ·cases h
set_option maxHeartbeats 4000000
set_option maxHeartbeats 1000000
def b9O:b8->Option Nm
 | .cells [.ifc 157 (.ptr s 0),_]=>some s
 | .gen 1 f=>match f 0 with
  | .ifc 157 (.ptr s 0)=>some s
  | _=>none
 | _=>none
def b6z(p:Nm):b8:=.gen 1 λ_=>.ifc 157 (.ptr p 0)
theorem a7Z{σ:Sig}{c:b8}{s p:Nm}(h:b9O c=some s)(hs:E9 (σ p) s):H2 σ c (b6z p):=by
 unfold b9O at h;split at h
 ·simp only[oI9]at h;subst h;show 1<=2/\∀ i,i<1->_;refine⟨by decide,λi hi=>?_⟩;have:i=0:=by omega
  subst this;show w8 σ (.ifc 157 (.ptr _ 0)) (.ifc 157 (.ptr p 0));simp[w8,hs]
 ·rename_i f;split at h
  ·rename_i s' hf;simp only[oI9]at h;subst h;refine⟨Nat.le_refl 1,λi hi=>?_⟩;have hi':i<1:=hi;have:i=0:=by omega
   subst this;show w8 σ (f 0) (.ifc 157 (.ptr p 0));rw[hf];simp[w8,hs]
  ·cases h
 ·cases h
noncomputable section
def a4X:b8->Option (Bool×Bool×Bool×Int×Bool×Nm×Nat×Nat×Nat×Nat×Nat×Nm×Nat)
 | .cells [a,b,c, .int .u8 k, .opt ib 185 (.slcc d m), .flt .f64 x, .flt .f64 y, .flt .f64 z, .flt .f64 w, .slcc p n]=>match a.toB with
  | some a=>match b.toB with
   | some b=>match c.toB with
    | some c=>some (a,b,c,k,ib,d,m,x,y,z,w,p,n)
    | none=>none
   | none=>none
  | none=>none
 | _=>none
theorem S2{σ:Sig}{c:b8}{cl cw cv:Bool}{k:Int}{ib:Bool}{d e:Nm}{m:Nat}{x y z w:Nat}{p q:Nm}{n:Nat}(h:a4X c=some (cl,cw,cv,k,ib,d,m,x,y,z,w,p,n))(hd:E9 (σ e) d)(hs:E9 (σ q) p):H2 σ c (Z0 cl cw cv k ib e m x y z w q n):=by
 unfold a4X at h;split at h
 ·split at h
  ·rename_i ha;split at h
   ·rename_i hb;split at h
    ·rename_i hc;simp only[oI9,pI9]at h;obtain⟨rfl,rfl,rfl,rfl,rfl,rfl,rfl,rfl,rfl,rfl,rfl,rfl,rfl⟩:=h;show l9 σ _ _;simp[l9,w8,A1,A9,E0 ha,E0 hb,E0 hc,hs,hd]
    ·cases h
   ·cases h
  ·cases h
 ·cases h
def c5D(n:Nat)(g:Nat->Nat)(_:Nat)(_:Nat->Int):Fam:=⟨Nat,λi =>
 ⟨18,[(8, .slcc 1 n),(9, .int .i64 n),(10, .int .i64 i)],[(1,⟨false,100, .flts .f64 (2*n) g,0⟩)],3⟩,λi=>i<=n/\p7 i g=true,λi=>n-i⟩
def a3S:List SV->RdM
 | [.ptr s 0]=>.read s λo0=>(match a4X o0.c with
  | some (cl,cw,cv,k,ib,dd,im,x,y,z,w,p,n)=>.read p λo1=>(match w7 .f64 o1.c with
  | some (m1,g)=>.read dd λo2=>(match j9 .u8 o2.c with
  | some (m2,gB)=>.ret ⟨[.ptr 0 0],[(0,⟨false,150,Z0 cl cw cv k ib 2 im x y z w 1 n,0⟩),(1,⟨false,100, .flts .f64 m1 g,0⟩),(2,⟨false,5, .ints .u8 m2 gB,0⟩)], .agg [.flt .f64 x, .flt .f64 y, .flt .f64 z, .flt .f64 w],[],[],some (m1=2*n/\m2=1*im/\True)⟩
  | none=>.fail)
  | none=>.fail)
  | none=>.fail)
 | _=>.fail
theorem b1T(cl cw cv:Bool)(k:Int)(ib:Bool)(_:Nm)(im:Nat)(x y z w:Nat)(_:Nm)(n:Nat)(g:Nat->Nat)(gB:Nat->Int){w9:HC}(e9:w9=⟨[.ptr 0 0],[(0,⟨false,150,Z0 cl cw cv k ib 2 im x y z w 1 n,0⟩),(1,⟨false,100, .flts .f64 (2*n) g,0⟩),(2,⟨false,5, .ints .u8 (1*im) gB,0⟩)], .agg [.flt .f64 x, .flt .f64 y, .flt .f64 z, .flt .f64 w],[],[],some (2
 * n=2*n/\1*im=1*im/\True)⟩):D6 G0 3 [] [] (l7 f164) (z6 f164.ntmps w9.args w9.heap 3) (A0 G0.E.T f164.results.toList λS v=>B3 3 w9 S v)=(
 (x=x/\y=y/\z=z/\w=w/\True)/\True):=by subst e9;kernel_rfl
theorem b3h:z8 prog 164 (z5 a3S):=by
 refine q9 g0 func164 rfl (by kernel_rfl) λargs=>?_
 unfold a3S;split;rotate_left;trivial;rename_i s;intro o0;try dsimp only
 split;rotate_left;trivial;rename_i cl cw cv k ib dd im x y z w p n hm0;intro o1;try dsimp only
 split;rotate_left;trivial;rename_i m1 g hm1;intro o2;try dsimp only
 split;rotate_left;trivial;rename_i m2 gB hm2;intro(ho:m1=2*n/\m2=1*im/\True);obtain⟨hsz1,hsz2,ho⟩:=ho;subst hsz1 hsz2;refine⟨?_,_,_,(b1T cl cw cv k ib dd im x y z w p n g gB rfl).mpr ?_⟩
 ·refine g9 rfl ⟨?_,⟨trivial,S2 hm0 a8 a8,⟨trivial,(w6 hm1).1,⟨trivial,(j5 hm2).1,trivial⟩⟩⟩⟩;simp[l9,w8,y4,y6,nth,a8]
 ·simp
def a3H:List SV->RdM
 | [.ptr s 0]=>.read s λo0=>(match a4X o0.c with
  | some (cl,cw,cv,k,ib,dd,im,x,y,z,w,p,n)=>.read p λo1=>(match w7 .f64 o1.c with
  | some (m1,g)=>.read dd λo2=>(match j9 .u8 o2.c with
  | some (m2,gB)=>.ret ⟨[.ptr 0 0],[(0,⟨false,150,Z0 cl cw cv k ib 2 im x y z w 1 n,0⟩),(1,⟨false,100, .flts .f64 m1 g,0⟩),(2,⟨false,5, .ints .u8 m2 gB,0⟩)], .bool (decide (n<2∨cl=true/\n<3)),[],[],some (m1=2*n/\m2=1*im/\True)⟩
  | none=>.fail)
  | none=>.fail)
  | none=>.fail)
 | _=>.fail
theorem b1P(cl cw cv:Bool)(k:Int)(ib:Bool)(_:Nm)(im:Nat)(x y z w:Nat)(_:Nm)(n:Nat)(g:Nat->Nat)(gB:Nat->Int){w9:HC}(e9:w9=⟨[.ptr 0 0],[(0,⟨false,150,Z0 cl cw cv k ib 2 im x y z w 1 n,0⟩),(1,⟨false,100, .flts .f64 (2*n) g,0⟩),(2,⟨false,5, .ints .u8 (1*im) gB,0⟩)], .bool (decide (n<2∨cl=true/\n<3)),[],[],some (2*n=2*n/\
 1*im=1*im/\True)⟩):D6 G0 3 [] [] (l7 f163) (z6 f163.ntmps w9.args w9.heap 3) (A0 G0.E.T f163.results.toList λS v=>B3 3 w9 S v)=(
 (cl=true->(decide ((↑n:Int)<3)=true->decide (n<2∨cl=true/\n<3)=true/\True)/\(decide ((↑n:Int)<3)=false->decide ((↑n:Int)<2)=decide (n<2∨cl=true/\n<3)/\True))/\(cl=false->decide ((↑n:Int)<2) =
 decide (n<2∨cl=true/\n<3)/\True)):=by subst e9;kernel_rfl
theorem b4a:z8 prog 163 (z5 a3H):=by
 refine q9 g0 func163 rfl (by kernel_rfl) λargs=>?_
 unfold a3H;split;rotate_left;trivial;rename_i s;intro o0;try dsimp only
 split;rotate_left;trivial;rename_i cl cw cv k ib dd im x y z w p n hm0;intro o1;try dsimp only
 split;rotate_left;trivial;rename_i m1 g hm1;intro o2;try dsimp only
 split;rotate_left;trivial;rename_i m2 gB hm2;intro(ho:m1=2*n/\m2=1*im/\True);obtain⟨hsz1,hsz2,ho⟩:=ho;subst hsz1 hsz2;refine⟨?_,_,_,(b1P cl cw cv k ib dd im x y z w p n g gB rfl).mpr ?_⟩
 ·refine g9 rfl ⟨?_,⟨trivial,S2 hm0 a8 a8,⟨trivial,(w6 hm1).1,⟨trivial,(j5 hm2).1,trivial⟩⟩⟩⟩;simp[l9,w8,y4,y6,nth,a8]
 ·refine⟨λhc=>⟨λh=>?_,λh=>?_⟩,λhc=>?_⟩
  ·have h:=oT9 h;exact⟨decide_eq_true (.inr ⟨hc,by omega⟩),trivial⟩
  ·have h:=of_decide_eq_false h;rw[show decide ((n:Int)<2)=false from decide_eq_false (by omega),show decide (n<2∨cl=true/\n<3)=false from decide_eq_false (by rintro(h1|⟨_,h1⟩) <;> omega)];exact⟨rfl,trivial⟩
  ·by_cases h:n<2
   ·rw[show decide ((n:Int)<2)=true from decide_eq_true (by omega),show decide (n<2∨cl=true/\n<3)=true from decide_eq_true (.inl h)];exact⟨rfl,trivial⟩
   ·rw[show decide ((n:Int)<2)=false from decide_eq_false (by omega),show decide (n<2∨cl=true/\n<3)=false from decide_eq_false (by rintro(h1|⟨h2,h1⟩);omega;simp[hc]at h2)];exact⟨rfl,trivial⟩
def a3P:List SV->RdM
 | [.ptr s 0]=>.read s λo0=>(match a4X o0.c with
  | some (cl,cw,cv,k,ib,dd,im,x,y,z,w,p,n)=>.read p λo1=>(match w7 .f64 o1.c with
  | some (m1,g)=>.read dd λo2=>(match j9 .u8 o2.c with
  | some (m2,gB)=>.ret ⟨[.ptr 0 0],[(0,⟨false,150,Z0 cl cw cv k ib 2 im x y z w 1 n,0⟩),(1,⟨false,100, .flts .f64 m1 g,0⟩),(2,⟨false,5, .ints .u8 m2 gB,0⟩)], .bool (p7 n g),[],[],some (m1=2*n/\m2=1*im/\n<=1000000)⟩
  | none=>.fail)
  | none=>.fail)
  | none=>.fail)
 | _=>.fail
theorem b1S(cl cw cv:Bool)(k:Int)(ib:Bool)(_:Nm)(im:Nat)(x y z w:Nat)(_:Nm)(n:Nat)(g:Nat->Nat)(gB:Nat->Int){w9:HC}(e9:w9=⟨[.ptr 0 0],[(0,⟨false,150,Z0 cl cw cv k ib 2 im x y z w 1 n,0⟩),(1,⟨false,100, .flts .f64 (2*n) g,0⟩),(2,⟨false,5, .ints .u8 (1*im) gB,0⟩)], .bool (p7 n g),[],[],some (2*n=2*n/\1*im=1*im/\n<=
 1000000)⟩){T1}(t1:T1=λ(i:Nat)=>(!a2L (g (0+Int.toNat (↑i:Int)*2)) (g (0+Int.toNat (↑i:Int)*2+1)))){T2}(t2:T2=(↑n:Int)){T3}(t3:T3=λ(i:Nat)=>(2*n<=2*n/\∀ (i:Nat),i<2*n->g i=g i)):D6 GPV 3 [(2,c5D n g im gB)] [] (l7 f234) (z6 f234.ntmps w9.args w9.heap 3) (A0 GPV.E.T f234.results.toList λS v=>B3 3 w9 S v)=(
 (∃(i:Nat),(i<=n/\p7 i g=true)/\((True/\n=n)/\T2=T2/\0=(↑i:Int)/\True)/\True/\(T3 i)/\True)/\∀(i:Nat),i<=n/\p7 i g=true->(decide ((↑i:Int)<T2)=true->((0<=(↑i:Int)/\(↑i:Int)<T2)/\1<=2*n)
 /\0+Int.toNat (↑i:Int)*2+2<=2*n/\((T1 i)=true->p7 n g=false/\True)/\((T1 i)=false->∃(i':Nat),(i'<=n/\p7 i' g=true)/\n-i'<n-i/\((True/\n=n)/\T2=T2/\IntKind.wrap .i64 ((↑i:Int)+1)=(↑i' :
 Int)/\True)/\True/\(T3 i)/\True))/\(decide ((↑i:Int)<T2)=false->p7 n g=true/\True)):=by subst e9 t1 t2 t3;kernel_rfl
theorem b3I:z8 prog 234 (z5 a3P):=by
 refine q9 gPV func234 rfl (by kernel_rfl) λargs=>?_
 unfold a3P;split;rotate_left;trivial;rename_i s;intro o0;try dsimp only
 split;rotate_left;trivial;rename_i cl cw cv k ib dd im x y z w p n hm0;intro o1;try dsimp only
 split;rotate_left;trivial;rename_i m1 g hm1;intro o2;try dsimp only
 split;rotate_left;trivial;rename_i m2 gB hm2;intro(ho:m1=2*n/\m2=1*im/\n<=1000000);obtain⟨hsz1,hsz2,ho⟩:=ho;subst hsz1 hsz2;refine⟨?_,_,_,(b1S cl cw cv k ib dd im x y z w p n g gB rfl rfl rfl rfl).mpr ?_⟩
 ·refine g9 rfl ⟨?_,⟨trivial,S2 hm0 a8 a8,⟨trivial,(w6 hm1).1,⟨trivial,(j5 hm2).1,trivial⟩⟩⟩⟩;simp[l9,w8,y4,y6,nth,a8]
 ·refine⟨⟨0,by simp[p7]⟩,λi hi=>⟨λh=>?_,λh=>?_⟩⟩
  ·have h:=oT9 h;have e:0+(i:Int).toNat*2=2*i:=by omega
   have hw:IntKind.i64.wrap ((i:Int)+1)=((i+1:Nat):Int):=by rw[p8 (by omega) (by omega)];omega
   rw[e,hw];refine⟨by omega,by omega,λhp=>⟨decide_eq_false λha=>?_,trivial⟩,λhp=>⟨i+1,⟨by omega,decide_eq_true λj hj=>?_⟩,by omega,by simp⟩⟩
   ·rw[ha i (by omega)]at hp;cases hp
   ·have:j<i∨j=i:=by omega
    rcases this with hlt|rfl
    ·exact oT9 hi.2 j hlt
    ·simpa using hp
  ·have h:=of_decide_eq_false h;have:i=n:=by omega
   subst this;simp[hi.2]
end
noncomputable def c3n:Ctx:=⟨⟨tys,[]⟩,[(234,z5 a3P)]⟩
theorem c8M:A5 prog c3n:=⟨⟨C0,FlatsOk.nil⟩,j8.cons b3I j8.nil,by kernel_rfl⟩
noncomputable def a5R:List SV->RdM
 | [.ptr s 0]=>.read s λo0=>(match a4X o0.c with
  | some (cl,cw,cv,k,ib,dd,im,x,y,z,w,p,n)=>.read p λo1=>(match w7 .f64 o1.c with
  | some (m1,g)=>.read dd λo2=>(match j9 .u8 o2.c with
  | some (m2,gB)=>.ret ⟨[.ptr 0 0],[(0,⟨false,150,Z0 cl cw cv k ib 2 im x y z w 1 n,0⟩),(1,⟨false,100, .flts .f64 m1 g,0⟩),(2,⟨false,5, .ints .u8 m2 gB,0⟩)], .bool (p7 n g),[],[],some (m1=2*n/\m2=1*im/\n<=1000000)⟩
  | none=>.fail)
  | none=>.fail)
  | none=>.fail)
 | _=>.fail
theorem b2q(cl cw cv:Bool)(k:Int)(ib:Bool)(_:Nm)(im:Nat)(x y z w:Nat)(_:Nm)(n:Nat)(g:Nat->Nat)(gB:Nat->Int){w9:HC}(e9:w9=⟨[.ptr 0 0],[(0,⟨false,150,Z0 cl cw cv k ib 2 im x y z w 1 n,0⟩),(1,⟨false,100, .flts .f64 (2*n) g,0⟩),(2,⟨false,5, .ints .u8 (1*im) gB,0⟩)], .bool (p7 n g),[],[],some (2*n=2*n/\1*im=1*im/\n<=
 1000000)⟩):D6 c3n 3 [] [] (l7 f230) (z6 f230.ntmps w9.args w9.heap 3) (A0 c3n.E.T f230.results.toList λS v=>B3 3 w9 S v)=(
 (2*n=2*n/\1*im=1*im/\n<=1000000)/\p7 n g=p7 n g/\True):=by subst e9;kernel_rfl
theorem b8Z:z8 prog 230 (z5 a5R):=by
 refine q9 c8M func230 rfl (by kernel_rfl) λargs=>?_
 unfold a5R;split;rotate_left;trivial;rename_i s;intro o0;try dsimp only
 split;rotate_left;trivial;rename_i cl cw cv k ib dd im x y z w p n hm0;intro o1;try dsimp only
 split;rotate_left;trivial;rename_i m1 g hm1;intro o2;try dsimp only
 split;rotate_left;trivial;rename_i m2 gB hm2;intro(ho:m1=2*n/\m2=1*im/\n<=1000000);obtain⟨hsz1,hsz2,ho⟩:=ho;subst hsz1 hsz2;refine⟨?_,_,_,(b2q cl cw cv k ib dd im x y z w p n g gB rfl).mpr ?_⟩
 ·refine g9 rfl ⟨?_,⟨trivial,S2 hm0 a8 a8,⟨trivial,(w6 hm1).1,⟨trivial,(j5 hm2).1,trivial⟩⟩⟩⟩;simp[l9,w8,y4,y6,nth,a8]
 ·simp[ho]
noncomputable section
set_option maxHeartbeats 1000000
abbrev b4z:=Bool×Bool×Bool×Int×Bool×Nat×Nat×Nat×Nat×Nat
def Z7(v:b4z)(d p:Nm)(n:Nat):List SV:=[.bool v.1, .bool v.2.1, .bool v.2.2.1, .int .u8 v.2.2.2.1, .opt v.2.2.2.2.1 185 (.slcc d v.2.2.2.2.2.1), .flt .f64 v.2.2.2.2.2.2.1, .flt .f64 v.2.2.2.2.2.2.2.1, .flt .f64 v.2.2.2.2.2.2.2.2.1, .flt .f64 v.2.2.2.2.2.2.2.2.2, .slcc p n]
def b7Q:b8->Option (b4z×Nm×Nm×Nat)
 | .cells [a,b,c, .int .u8 k, .opt ib 185 (.slcc d m), .flt .f64 x, .flt .f64 y, .flt .f64 z, .flt .f64 w, .slcc p n]=>match a.toB,b.toB,c.toB with
  | some a,some b,some c=>some ((a,b,c,k,ib,m,x,y,z,w),d,p,n)
  | _,_,_=>none
 | _=>none
theorem b1D{σ:Sig}{c:b8}{v:b4z}{d e p q:Nm}{n:Nat}(h:b7Q c=some (v,d,p,n))(hd:E9 (σ e) d)(hs:E9 (σ q) p):H2 σ c (.cells (Z7 v e q n)):=by
 unfold b7Q at h;split at h
 ·split at h
  ·rename_i ha hb hc;simp only[oI9,pI9]at h;obtain⟨rfl,rfl,rfl,rfl⟩:=h;show l9 σ _ _;simp[Z7,l9,w8,A1,A9,E0 ha,E0 hb,E0 hc,hs,hd]
  ·cases h
 ·cases h
def a7I:b8->Option (Nat×b4z×Nm×Nm×Nat)
 | .upto m [a,b,c, .int .u8 k, .opt ib 185 (.slcc d i), .flt .f64 x, .flt .f64 y, .flt .f64 z, .flt .f64 w, .slcc p n]=>match a.toB,b.toB,c.toB with
  | some a,some b,some c=>some (m,(a,b,c,k,ib,i,x,y,z,w),d,p,n)
  | _,_,_=>none
 | _=>none
theorem a0E{σ:Sig}{c:b8}{m:Nat}{v:b4z}{d e p q:Nm}{n:Nat}(h:a7I c=some (m,v,d,p,n))(hd:E9 (σ e) d)(hs:E9 (σ q) p):H2 σ c (.upto m (Z7 v e q n)):=by
 unfold a7I at h;split at h
 ·split at h
  ·rename_i ha hb hc;simp only[oI9,pI9]at h;obtain⟨rfl,rfl,rfl,rfl,rfl⟩:=h;refine⟨rfl,?_⟩;simp[Z7,a3U,w8,A1,A9,E0 ha,E0 hb,E0 hc,hs,hd]
  ·cases h
 ·cases h
def GPW:Ctx:=⟨⟨tys,FP⟩,[(163,z5 a3H),(164,z5 a3S)]⟩
theorem gPW:A5 prog GPW:=⟨⟨C0,b6N⟩,j8.cons b4a (j8.cons b3h j8.nil),by kernel_rfl⟩
def b6d:List SV->RdM
 | [.ptr P 0]=>.read P λo0=>(match b9O o0.c with
  | some s=>.read s λo1=>(match a4X o1.c with
  | some (cl,cw,cv,k,ib,dd,im,x,y,z,w,p,n)=>.read p λo2=>(match w7 .f64 o2.c with
  | some (m2,g)=>.read dd λo3=>(match j9 .u8 o3.c with
  | some (m3,gB)=>.ret ⟨[.ptr 0 0],[(0,⟨false,137,b6z 1,0⟩),(1,⟨false,150,Z0 cl cw cv k ib 3 im x y z w 2 n,0⟩),(2,⟨false,100, .flts .f64 m2 g,0⟩),(3,⟨false,5, .ints .u8 m3 gB,0⟩)], .bool (decide (n<2∨cl=true/\n<3)),[],[],some (m2=2*n/\m3=1*im/\True)⟩
  | none=>.fail)
  | none=>.fail)
  | none=>.fail)
  | none=>.fail)
 | _=>.fail
theorem b9k(_:Nm)(cl cw cv:Bool)(k:Int)(ib:Bool)(_:Nm)(im:Nat)(x y z w:Nat)(_:Nm)(n:Nat)(g:Nat->Nat)(gB:Nat->Int){w9:HC}(e9:w9=⟨[.ptr 0 0],[(0,⟨false,137,b6z 1,0⟩),(1,⟨false,150,Z0 cl cw cv k ib 3 im x y z w 2 n,0⟩),(2,⟨false,100, .flts .f64 (2*n) g,0⟩),(3,⟨false,5, .ints .u8 (1*im) gB,0⟩)], .bool (decide (n<2∨cl=true/\n<3)),
 [],[],some (2*n=2*n/\1*im=1*im/\True)⟩):D6 GPW 4 [] [] (l7 f165) (z6 f165.ntmps w9.args w9.heap 4) (A0 GPW.E.T f165.results.toList λS v=>B3 4 w9 S v)=(
 0<1/\0<1/\0<1/\1<=1/\0<1/\0<1/\1<=1/\(2*n=2*n/\1*im=1*im/\True)/\decide (n<2∨cl=true/\n<3)=decide (n<2∨cl=true/\n<3)/\True):=by subst e9;kernel_rfl
theorem c8g:z8 prog 165 (z5 b6d):=by
 refine q9 gPW func165 rfl (by kernel_rfl) λargs=>?_
 unfold b6d;split;rotate_left;trivial;rename_i P;intro o0;try dsimp only
 split;rotate_left;trivial;rename_i s hm0;intro o1;try dsimp only
 split;rotate_left;trivial;rename_i cl cw cv k ib dd im x y z w p n hm1;intro o2;try dsimp only
 split;rotate_left;trivial;rename_i m2 g hm2;intro o3;try dsimp only
 split;rotate_left;trivial;rename_i m3 gB hm3;intro(ho:m2=2*n/\m3=1*im/\True);obtain⟨hsz2,hsz3,ho⟩:=ho;subst hsz2 hsz3;refine⟨?_,_,_,(b9k s cl cw cv k ib dd im x y z w p n g gB rfl).mpr ?_⟩
 ·refine g9 rfl ⟨?_,⟨λ_ _=>rfl,a7Z hm0 a8,⟨trivial,S2 hm1 a8 a8,⟨trivial,(w6 hm2).1,⟨trivial,(j5 hm3).1,trivial⟩⟩⟩⟩⟩;simp[l9,w8,y4,y6,nth,a8]
 ·simp
def b6O:List SV->RdM
 | [.ptr P 0]=>.read P λo0=>(match b9O o0.c with
  | some s=>.read s λo1=>(match a4X o1.c with
  | some (cl,cw,cv,k,ib,dd,im,x,y,z,w,p,n)=>.read p λo2=>(match w7 .f64 o2.c with
  | some (m2,g)=>.read dd λo3=>(match j9 .u8 o3.c with
  | some (m3,gB)=>.ret ⟨[.ptr 0 0],[(0,⟨false,137,b6z 1,0⟩),(1,⟨false,150,Z0 cl cw cv k ib 3 im x y z w 2 n,0⟩),(2,⟨false,100, .flts .f64 m2 g,0⟩),(3,⟨false,5, .ints .u8 m3 gB,0⟩)], .agg [.flt .f64 x, .flt .f64 y, .flt .f64 z, .flt .f64 w],[],[],some (m2=2*n/\m3=1*im/\True)⟩
  | none=>.fail)
  | none=>.fail)
  | none=>.fail)
  | none=>.fail)
 | _=>.fail
theorem b9P(_:Nm)(cl cw cv:Bool)(k:Int)(ib:Bool)(_:Nm)(im:Nat)(x y z w:Nat)(_:Nm)(n:Nat)(g:Nat->Nat)(gB:Nat->Int){w9:HC}(e9:w9=⟨[.ptr 0 0],[(0,⟨false,137,b6z 1,0⟩),(1,⟨false,150,Z0 cl cw cv k ib 3 im x y z w 2 n,0⟩),(2,⟨false,100, .flts .f64 (2*n) g,0⟩),(3,⟨false,5, .ints .u8 (1*im) gB,0⟩)], .agg [.flt .f64 x, .flt .f64 y, .flt .f64 z,
 .flt .f64 w],[],[],some (2*n=2*n/\1*im=1*im/\True)⟩):D6 GPW 4 [] [] (l7 f166) (z6 f166.ntmps w9.args w9.heap 4) (A0 GPW.E.T f166.results.toList λS v=>B3 4 w9 S v)=(
 0<1/\0<1/\0<1/\1<=1/\0<1/\0<1/\1<=1/\(2*n=2*n/\1*im=1*im/\True)/\(x=x/\y=y/\z=z/\w=w/\True)/\True):=by subst e9;kernel_rfl
theorem c9h:z8 prog 166 (z5 b6O):=by
 refine q9 gPW func166 rfl (by kernel_rfl) λargs=>?_
 unfold b6O;split;rotate_left;trivial;rename_i P;intro o0;try dsimp only
 split;rotate_left;trivial;rename_i s hm0;intro o1;try dsimp only
 split;rotate_left;trivial;rename_i cl cw cv k ib dd im x y z w p n hm1;intro o2;try dsimp only
 split;rotate_left;trivial;rename_i m2 g hm2;intro o3;try dsimp only
 split;rotate_left;trivial;rename_i m3 gB hm3;intro(ho:m2=2*n/\m3=1*im/\True);obtain⟨hsz2,hsz3,ho⟩:=ho;subst hsz2 hsz3;refine⟨?_,_,_,(b9P s cl cw cv k ib dd im x y z w p n g gB rfl).mpr ?_⟩
 ·refine g9 rfl ⟨?_,⟨λ_ _=>rfl,a7Z hm0 a8,⟨trivial,S2 hm1 a8 a8,⟨trivial,(w6 hm2).1,⟨trivial,(j5 hm3).1,trivial⟩⟩⟩⟩⟩;simp[l9,w8,y4,y6,nth,a8]
 ·simp
def GPX:Ctx:=⟨⟨tys,[]⟩,[(234,b3t (z5 a3P))]⟩
theorem gPX:A5 prog GPX:=⟨⟨C0,FlatsOk.nil⟩,j8.cons (z8.flat b3I) j8.nil,by kernel_rfl⟩
theorem a0H(g:Nat->Nat):p7 0 g=true:=decide_eq_true λi hi=>absurd hi (Nat.not_lt_zero i)
def b7X:List SV->RdM
 | [.ptr P 0]=>.read P λo0=>(match c3d o0.c with
  | some (s,h,k)=>.read s λo1=>(match b7Q o1.c with
  | some (sv,d,p,l)=>.read p λo2=>(match w7 .f64 o2.c with
  | some (m2,g)=>.read d λo3=>(match j9 .u8 o3.c with
  | some (m3,gB)=>.read h λo4=>(match rgU o4.c with
  | some (kk,e0,e1,e2,e3)=>.read e0 λo5=>(match a7I o5.c with
  | some (u0,v0,d0,p0,l0)=>.read p0 λo6=>(match w7 .f64 o6.c with
  | some (m6,g0)=>.read d0 λo7=>(match j9 .u8 o7.c with
  | some (m7,gB0)=>.read e1 λo8=>(match a7I o8.c with
  | some (u1,v1,d1,p1,l1)=>.read p1 λo9=>(match w7 .f64 o9.c with
  | some (m9,g1)=>.read d1 λo10=>(match j9 .u8 o10.c with
  | some (m10,gB1)=>.read e2 λo11=>(match a7I o11.c with
  | some (u2,v2,d2,p2,l2)=>.read p2 λo12=>(match w7 .f64 o12.c with
  | some (m12,g2)=>.read d2 λo13=>(match j9 .u8 o13.c with
  | some (m13,gB2)=>.read e3 λo14=>(match a7I o14.c with
  | some (u3,v3,d3,p3,l3)=>.read p3 λo15=>(match w7 .f64 o15.c with
  | some (m15,g3)=>.read d3 λo16=>(match j9 .u8 o16.c with
  | some (m16,gB3)=>.ret ⟨[.ptr 0 0],[(0,⟨false,137, .cells [.ifc 157 (.ptr 1 0), .slcc 4 k],0⟩),(1,⟨false,150, .cells (Z7 sv 3 2 l),0⟩),(2,⟨false,100, .flts .f64 m2 g,0⟩),(3,⟨false,5, .ints .u8 m3 gB,0⟩),(4,⟨false,106, .upto kk [.ifc 157 (.ptr 5 0), .ifc 157 (.ptr 8 0), .ifc 157 (.ptr 11 0), .ifc 157 (.ptr 14 0)],0⟩),(5,⟨false,150, .upto u0 (Z7 v0 7 6 l0),0⟩),(6,⟨false,100, .flts .f64 m6 g0,0⟩),(7,⟨false,5, .ints .u8 m7 gB0,0⟩),(8,⟨false,150, .upto u1 (Z7 v1 10 9 l1),0⟩),(9,⟨false,100, .flts .f64 m9 g1,0⟩),(10,⟨false,5, .ints .u8 m10 gB1,0⟩),(11,⟨false,150, .upto u2 (Z7 v2 13 12 l2),0⟩),(12,⟨false,100, .flts .f64 m12 g2,0⟩),(13,⟨false,5, .ints .u8 m13 gB2,0⟩),(14,⟨false,150, .upto u3 (Z7 v3 16 15 l3),0⟩),(15,⟨false,100, .flts .f64 m15 g3,0⟩),(16,⟨false,5, .ints .u8 m16 gB3,0⟩)], .bool (p7 l g&&(p7 l0 g0&&(p7 l1 g1&&(p7 l2 g2&&p7 l3 g3)))),[],[],some (m2=2*l/\m3=1*sv.2.2.2.2.2.1/\m6=2*l0/\m7=1*v0.2.2.2.2.2.1/\m9=2*l1/\m10=1*v1.2.2.2.2.2.1/\m12=2*l2/\m13=1*v2.2.2.2.2.2.1/\m15=2*l3/\m16=1*v3.2.2.2.2.2.1/\(kk=k/\hab k l0 l1 l2 l3/\(u0=z0 k 0 10/\u1=z0 k 1 10/\u2=z0 k 2 10/\u3=z0 k 3 10))/\l<=1000000/\l0<=1000000/\l1<=1000000/\l2<=1000000/\l3<=1000000)⟩
  | none=>.fail)
  | none=>.fail)
  | none=>.fail)
  | none=>.fail)
  | none=>.fail)
  | none=>.fail)
  | none=>.fail)
  | none=>.fail)
  | none=>.fail)
  | none=>.fail)
  | none=>.fail)
  | none=>.fail)
  | none=>.fail)
  | none=>.fail)
  | none=>.fail)
  | none=>.fail)
  | none=>.fail)
 | _=>.fail
theorem b8X(k l l0 l1 l2 l3 u0 u1 u2 u3:Nat)(_ _ _ _ _ _ _ _ _ _ _ _ _ _ _ _:Nm)(sv v0 v1 v2 v3:b4z)(kk:Nat)(g:Nat->Nat)(gB:Nat->Int)(g0:Nat->Nat)(gB0:Nat->Int)(g1:Nat->Nat)(gB1:Nat->Int)(g2:Nat->Nat)(gB2:Nat->Int)(g3:Nat->Nat)(gB3:Nat->Int){w9:HC}(e9:w9=⟨[.ptr 0 0],[(0,⟨false,137, .cells [.ifc 157 (.ptr 1 0), .slcc 4 k],0⟩),(1,⟨false,150, .cells (Z7 sv 3 2 l),0⟩),(2,⟨false,100, .flts .f64 (2*l) g,0⟩),(3,⟨false,5, .ints .u8 (1*sv.2.2.2.2.2.1) gB,0⟩),(4,⟨false,
 106, .upto kk [.ifc 157 (.ptr 5 0), .ifc 157 (.ptr 8 0), .ifc 157 (.ptr 11 0), .ifc 157 (.ptr 14 0)],0⟩),(5,⟨false,150, .upto u0 (Z7 v0 7 6 l0),0⟩),(6,⟨false,100, .flts .f64 (2*l0) g0,0⟩),(7,⟨false,5, .ints .u8 (1*v0.2.2.2.2.2.1)
 gB0,0⟩),(8,⟨false,150, .upto u1 (Z7 v1 10 9 l1),0⟩),(9,⟨false,100, .flts .f64 (2*l1) g1,0⟩),(10,⟨false,5, .ints .u8 (1*v1.2.2.2.2.2.1) gB1,0⟩),(11,⟨false,150, .upto u2 (Z7 v2 13 12 l2),0⟩),(12,⟨false,100, .flts .f64 (2
 * l2) g2,0⟩),(13,⟨false,5, .ints .u8 (1*v2.2.2.2.2.2.1) gB2,0⟩),(14,⟨false,150, .upto u3 (Z7 v3 16 15 l3),0⟩),(15,⟨false,100, .flts .f64 (2*l3) g3,0⟩),(16,⟨false,5, .ints .u8 (1*v3.2.2.2.2.2.1) gB3,0⟩)], .bool (p7 l g
 && (p7 l0 g0&&(p7 l1 g1&&(p7 l2 g2&&p7 l3 g3)))),[],[],some (2*l=2*l/\1*sv.2.2.2.2.2.1=1*sv.2.2.2.2.2.1/\2*l0=2*l0/\1*v0.2.2.2.2.2.1=1*v0.2.2.2.2.2.1/\2*l1=2*l1/\1*v1.2.2.2.2.2.1
 = 1*v1.2.2.2.2.2.1/\2*l2=2*l2/\1*v2.2.2.2.2.2.1=1*v2.2.2.2.2.2.1/\2*l3=2*l3/\1*v3.2.2.2.2.2.1=1*v3.2.2.2.2.2.1/\(kk=k/\hab k l0 l1 l2 l3/\(u0=z0 k 0 10/\u1=z0 k 1 10/\u2=z0 k 2 10/\u3=z0 k 3 10))
 /\l<=1000000/\l0<=1000000/\l1<=1000000/\l2<=1000000/\l3<=1000000)⟩){T1}(t1:T1=(p7 l g&&(p7 l0 g0&&(p7 l1 g1&&(p7 l2 g2&&p7 l3 g3))))){T2}(t2:T2=(↑k:Int)):D6 GPX 17 [(4, .iter 5)] [] (l7 f240) (z6 f240.ntmps w9.args w9.heap 17) (A0 GPX.E.T f240.results.toList λS v=>B3 17 w9 S v)=(
 (2*l=2*l/\1*(((((sv.2).2).2).2).2).1=1*(((((sv.2).2).2).2).2).1/\l<=1000000)/\((!p7 l g)=true->T1=false/\True)/\((!p7 l g)=false->(decide (0<T2)=true->(((0:Int)<=0/\0<T2)/\1<=kk)/\1<=kk/\((2*l0
 = 2*l0/\1*(((((Prod.snd v0).2).2).2).2).1=1*(((((v0.2).2).2).2).2).1/\l0<=1000000)/\u0=10)/\((!p7 l0 g0)=true->T1=false/\True)/\((!p7 l0 g0)=false->(decide (1<T2)=true->(((0:Int)<=1/\(1:Int)<T2)/\1<=
 kk)/\2<=kk/\((2*l1=2*l1/\1*(((((v1.2).2).2).2).2).1=1*(((((Prod.snd v1).2).2).2).2).1/\l1<=1000000)/\u1=10)/\((!p7 l1 g1)=true->T1=false/\True)/\((!p7 l1 g1)=false->(decide (2<T2)=true->(((0:Int)<=2
 /\2<T2)/\1<=kk)/\3<=kk/\((2*l2=2*l2/\1*(((((v2.2).2).2).2).2).1=1*(((((v2.2).2).2).2).2).1/\l2<=1000000)/\u2=10)/\((!p7 l2 g2)=true->T1=false/\True)/\((!p7 l2 g2)=false->(decide (3<T2)=true->(((0 :
 Int)<=3/\3<T2)/\1<=kk)/\4<=kk/\((2*l3=2*l3/\1*(Prod.snd ((((v3.2).2).2).2)).1=1*(((((v3.2).2).2).2).2).1/\l3<=1000000)/\u3=10)/\((!p7 l3 g3)=true->T1=false/\True)/\((!p7 l3 g3)=false->(decide (4<T2)
 = true->(((0:Int)<=4/\4<T2)/\1<=kk)/\False)/\(decide (4<T2)=false->T1=true/\True)))/\(decide (3<T2)=false->T1=true/\True)))/\(decide (2<T2)=false->T1=true/\True)))/\(decide (1<T2)=false->T1=true/\True)))
 /\(decide (0<T2)=false->T1=true/\True))):=by subst e9 t1 t2;kernel_rfl
theorem c8A:z8 prog 240 (z5 b7X):=by
 refine q9 gPX func240 rfl (by kernel_rfl) λargs=>?_
 unfold b7X;split;rotate_left;trivial;rename_i P;intro o0;try dsimp only
 split;rotate_left;trivial;rename_i s h k hm0;intro o1;try dsimp only
 split;rotate_left;trivial;rename_i sv d p l hm1;intro o2;try dsimp only
 split;rotate_left;trivial;rename_i m2 g hm2;intro o3;try dsimp only
 split;rotate_left;trivial;rename_i m3 gB hm3;intro o4;try dsimp only
 split;rotate_left;trivial;rename_i kk e0 e1 e2 e3 hm4;intro o5;try dsimp only
 split;rotate_left;trivial;rename_i u0 v0 d0 p0 l0 hm5;intro o6;try dsimp only
 split;rotate_left;trivial;rename_i m6 g0 hm6;intro o7;try dsimp only
 split;rotate_left;trivial;rename_i m7 gB0 hm7;intro o8;try dsimp only
 split;rotate_left;trivial;rename_i u1 v1 d1 p1 l1 hm8;intro o9;try dsimp only
 split;rotate_left;trivial;rename_i m9 g1 hm9;intro o10;try dsimp only
 split;rotate_left;trivial;rename_i m10 gB1 hm10;intro o11;try dsimp only
 split;rotate_left;trivial;rename_i u2 v2 d2 p2 l2 hm11;intro o12;try dsimp only
 split;rotate_left;trivial;rename_i m12 g2 hm12;intro o13;try dsimp only
 split;rotate_left;trivial;rename_i m13 gB2 hm13;intro o14;try dsimp only
 split;rotate_left;trivial;rename_i u3 v3 d3 p3 l3 hm14;intro o15;try dsimp only
 split;rotate_left;trivial;rename_i m15 g3 hm15;intro o16;try dsimp only
 split;rotate_left;trivial;rename_i m16 gB3 hm16;intro(ho:m2=2*l/\m3=1*sv.2.2.2.2.2.1/\m6=2*l0/\m7=1*v0.2.2.2.2.2.1/\m9=2*l1/\m10=1*v1.2.2.2.2.2.1/\m12=2*l2/\m13=1*v2.2.2.2.2.2.1/\m15=2*l3/\m16=1*v3.2.2.2.2.2.1/\(kk=k/\hab k l0 l1 l2 l3/\(u0=z0 k 0 10/\u1=z0 k 1 10/\u2=z0 k 2 10/\u3=z0 k 3 10))/\l<=1000000/\l0<=1000000/\l1<=1000000/\l2<=1000000/\l3<=1000000);obtain⟨hsz2,hsz3,hsz6,hsz7,hsz9,hsz10,hsz12,hsz13,hsz15,hsz16,ho⟩:=ho;subst hsz2 hsz3;subst hsz6 hsz7;subst hsz9 hsz10;subst hsz12 hsz13;subst hsz15 hsz16
 refine⟨?_,_,_,(b8X k l l0 l1 l2 l3 u0 u1 u2 u3 s h d p e0 e1 e2 e3 d0 d1 d2 d3 p0 p1 p2 p3 sv v0 v1 v2 v3 kk g gB g0 gB0 g1 gB1 g2 gB2 g3 gB3 rfl rfl rfl).mpr ?_⟩
 ·change c1W _ _ [(P,o0),(s,o1),(p,o2),(d,o3),(h,o4),(e0,o5),(p0,o6),(d0,o7),(e1,o8),(p1,o9),(d1,o10),(e2,o11),(p2,o12),(d2,o13),(e3,o14),(p3,o15),(d3,o16)] _
  refine g9 rfl ⟨?_,⟨trivial,b5l hm0 a8 a8,⟨trivial,b1D hm1 a8 a8,⟨trivial,(w6 hm2).1,⟨trivial,(j5 hm3).1,⟨trivial,b7v hm4 a8 a8 a8 a8,⟨trivial,a0E hm5 a8 a8,⟨trivial,(w6 hm6).1,⟨trivial,(j5 hm7).1,⟨trivial,a0E hm8 a8 a8,⟨trivial,(w6 hm9).1,⟨trivial,(j5 hm10).1,⟨trivial,a0E hm11 a8 a8,⟨trivial,(w6 hm12).1,⟨trivial,(j5 hm13).1,⟨trivial,a0E hm14 a8 a8,⟨trivial,(w6 hm15).1,⟨trivial,(j5 hm16).1,trivial⟩⟩⟩⟩⟩⟩⟩⟩⟩⟩⟩⟩⟩⟩⟩⟩⟩⟩
  simp[l9,w8,y4,y6,nth,a8]
 ·obtain⟨⟨rfl,⟨h4,a0,a1,a2,a3⟩,⟨rfl,rfl,rfl,rfl⟩⟩,x,x0,x1,x2,x3⟩:=ho;have hk5:kk=0∨kk=1∨kk=2∨kk=3∨kk=4:=by omega
  clear h4;generalize hv:p7 l g=b at *;generalize hv0:p7 l0 g0=b0 at *;generalize hv1:p7 l1 g1=b1 at *;generalize hv2:p7 l2 g2=b2 at *;generalize hv3:p7 l3 g3=b3 at *;rcases hk5 with rfl|rfl|rfl|rfl|rfl
  ·have e0:=a0 (by decide);have e1:=a1 (by decide);have e2:=a2 (by decide);have e3:=a3 (by decide);subst e0 e1 e2 e3;rw[a0H]at hv0 hv1 hv2 hv3;subst hv0 hv1 hv2 hv3;cases b <;> simp[z0,x]
  ·have e1:=a1 (by decide);have e2:=a2 (by decide);have e3:=a3 (by decide);subst e1 e2 e3;rw[a0H]at hv1 hv2 hv3;subst hv1 hv2 hv3;cases b <;> cases b0 <;> simp[z0,x,x0]
  ·have e2:=a2 (by decide);have e3:=a3 (by decide);subst e2 e3;rw[a0H]at hv2 hv3;subst hv2 hv3;cases b <;> cases b0 <;> cases b1 <;> simp[z0,x,x0,x1]
  ·have e3:=a3 (by decide);subst e3;rw[a0H]at hv3;subst hv3;cases b <;> cases b0 <;> cases b1 <;> cases b2 <;> simp[z0,x,x0,x1,x2]
  ·cases b <;> cases b0 <;> cases b1 <;> cases b2 <;> cases b3 <;> simp[z0,x,x0,x1,x2,x3]
end
theorem FI.V_le{x y:Nat}{a b:Int}(hx:FI x a)(hy:FI y b)(hab:a<=b):V x<=V y:=by
 rw[hx.2,hy.2];exact Int.mul_le_mul_of_nonneg_right hab (Int.le_of_lt (Int.pow_pos (by decide)))
theorem c0l(x y:Nat):O2 x y=x∨O2 x y=y:=by unfold O2;split <;> simp
theorem b8R(x y:Nat):O4 x y=x∨O4 x y=y:=by unfold O4;split <;> simp
def PS(g:Nat->Int)(len:Nat):Prop:=len<=40/\∀ j,j<2*len->B9 (g j)
section
variable {g:Nat->Int} {len:Nat} (h:PS g len)
include h
theorem PS.wz{j:Nat}(hj:j<2*len):wz (fI g) j=g j:=(a6y (h.2 j hj)).2
theorem PS.w1{j:Nat}(hj:j<2*len):W1 (fI g j):=(a6y (h.2 j hj)).1
theorem PS.fl2:FL2 (fI g) (2*len):=λ_ hj=>(h.w1 hj).w22
theorem PS.whl:Whl (fI g) g (2*len):=a9z h.2
theorem PS.nsg(cl:Bool):nsg cl len (Go.Proofs.Tryz.Sx.wz (fI g))=a5O len cl g:=by
 unfold Go.Proofs.Tryz.Sx.nsg a5O;cases cl
 ·simp only[Bool.false_eq_true,if_false,false_and,or_false];split <;> omega
 ·simp only[if_true,true_and];by_cases h3:len<3
  ·rw[if_pos h3,if_pos (by omega)]
  ·rw[if_neg h3,if_neg (show ¬(len<2∨len<3) by omega),h.wz (by omega),h.wz (by omega),h.wz (by omega),h.wz (by omega),show 2*(len-1)=2*len-2 by omega,show 2*len-2+1=2*len-1 by omega];by_cases e:g (2*len-2)=g 0/\g (2*len-1)=g 1
   ·rw[if_pos e,if_neg (λhh=>hh e)]
   ·rw[if_neg e,if_pos e]
theorem PS.ppOk{cl:Bool}(hb:a9 len cl=true):ppOk (fI g) len:=b5D (by have:=h.1;omega) h.whl (b2A hb)
theorem PS.val:p7 len (fI g)=l6 len g:=b9E h.2
theorem PS.lo{cl:Bool}(hb:a9 len cl=true){k:Nat}(hk:k<2):FI (rlo (fI g) k len) (mn g k len)/\(mn g k len).natAbs<=4194304:=by
 have:=b2A hb;rw[<-c2m (by omega)];exact b8p h.whl hk len (Nat.le_refl _)
theorem PS.hi{cl:Bool}(hb:a9 len cl=true){k:Nat}(hk:k<2):FI (rhi (fI g) k len) (mx g k len)/\(mx g k len).natAbs<=4194304:=by
 have:=b2A hb;rw[<-c1U (by omega)];exact c0m h.whl hk len (Nat.le_refl _)
theorem PS.rect(cl:Bool){k:Nat}(hk:k<2):(H3 .f64 (pick (a9 len cl) (rlo (fI g) k len)) .i64/\toI .f64 (pick (a9 len cl) (rlo (fI g) k len)) .i64=if a9 len cl=true then mn g k len else 0)/\
  (H3 .f64 (pick (a9 len cl) (rhi (fI g) k len)) .i64/\toI .f64 (pick (a9 len cl) (rhi (fI g) k len)) .i64=if a9 len cl=true then mx g k len else 0):=by
 unfold pick;by_cases hb:a9 len cl=true
 ·rw[if_pos hb,if_pos hb,if_pos hb,if_pos hb];have h1:=h.lo hb hk;have h2:=h.hi hb hk;exact⟨a8Y h1.1 (by omega),a8Y h2.1 (by omega)⟩
 ·rw[if_neg hb,if_neg hb,if_neg hb,if_neg hb];exact⟨a8Y O0 (by decide),a8Y O0 (by decide)⟩
theorem PS.seg{cl:Bool}{i:Nat}(hi:i<a5O len cl g):i<len/\a2q g len (4*i)=g (2*i)/\a2q g len (4*i+1)=g (2*i+1)/\a2q g len (4*i+2)=g (2*nx len i)/\a2q g len (4*i+3)=g (2*nx len i+1):=by
 have _:=h
 have hl:i<len:=by
  unfold a5O at hi;split at hi
  ·omega
  ·split at hi <;> omega
 refine⟨hl,?_⟩;unfold nx;by_cases e:i+1=len
 ·rw[if_pos e];exact b9t (by omega)
 ·rw[if_neg e];exact b9D (by omega)
theorem PS.nsegs_pp{cl:Bool}(hn:0<a5O len cl g):a9 len cl=true:=by
 have _:=h;unfold a5O at hn;split at hn
 ·omega
 ·rename_i hh;unfold a9;exact decide_eq_true ⟨by omega,λhc=>by rcases Nat.lt_or_ge len 3 with h3|h3;exact absurd (.inr ⟨hc,h3⟩) hh;exact h3⟩
theorem PS.item{cl:Bool}{i:Nat}(hi:i<a5O len cl g):a1W (rcF (fI g) len) len (ppQ len cl (fI g)) i:=by
 have hb:a9 len cl=true:=h.nsegs_pp (by omega);have hl:=(h.seg hi).1;have hn:=b3s hl
 have key:∀ j,j<2->(V (rlo (fI g) j len)<=V (O2 (fI g (2*i+j)) (fI g (2*nx len i+j)))/\V (O4 (fI g (2*i+j)) (fI g (2*nx len i+j)))<=V (rhi (fI g) j len)):=λj hj=>by
  have l1:=a4C (z:=g) (k:=j) hl;have l2:=a4C (z:=g) (k:=j) hn;have h1:=a6E (z:=g) (k:=j) hl;have h2:=a6E (z:=g) (k:=j) hn;have lf:=(b8p h.whl hj len (Nat.le_refl _)).1;have hf:=(c0m h.whl hj len (Nat.le_refl _)).1;have f1:=(h.whl (2*i+j) (by omega)).1;have f2:=(h.whl (2*nx len i+j) (by omega)).1;constructor
  ·rcases c0l (fI g (2*i+j)) (fI g (2*nx len i+j))with e|e <;> rw[e]
   ·exact FI.V_le lf f1 l1
   ·exact FI.V_le lf f2 l2
  ·rcases b8R (fI g (2*i+j)) (fI g (2*nx len i+j))with e|e <;> rw[e]
   ·exact FI.V_le f1 hf h1
   ·exact FI.V_le f2 hf h2
 have w:=c1Q h.fl2 hl;refine⟨hl,⟨w.1.1.1,w.2.1.1.1,w.2.2.1.1.1,w.2.2.2.1.1⟩,?_⟩;unfold ppQ pick inQ rcF;simp only[hb,if_true];exact⟨(key 0 (by decide)).1,(key 1 (by decide)).1,(key 0 (by decide)).2,(key 1 (by decide)).2⟩
theorem PS.bix{cl:Bool}{k:Int}(hk:k=1∨k=2):b5M (Go.Proofs.Tryz.Sx.nsg cl len (Go.Proofs.Tryz.Sx.wz (fI g))) k len (fI g) (ppQ len cl (fI g)):=by
 refine⟨hk,by have:=h.1;omega,h.fl2,λ_=>⟨?_,λi hi=>h.item (cl:=cl) (by rw[<-h.nsg];exact hi)⟩⟩;unfold ppQ pick;by_cases hb:a9 len cl=true
 ·simp only[hb,if_true];have l0:=h.lo hb (k:=0) (by decide);have l1:=h.lo hb (k:=1) (by decide);have h0:=h.hi hb (k:=0) (by decide);have h1:=h.hi hb (k:=1) (by decide);exact⟨FI.fub l0.1 l0.2,FI.fub l1.1 l1.2,FI.fub h0.1 h0.2,FI.fub h1.1 h1.2⟩
 ·simp only[if_neg hb];have z:=FI.fub O0 (by decide);exact⟨z,z,z,z⟩
theorem PS.mk{cl:Bool}{m k:Int}(hk:0<=k/\k<=2):G7 len cl m k (fI g):=by
 refine⟨by have:=h.1;omega,h.ppOk,λhi=>h.bix ?_⟩;unfold y7 at hi
 have:k≠0:=by
  intro e;rw[e]at hi;simp at hi
 omega
end
end Go.Proofs.Tryz.Sx
