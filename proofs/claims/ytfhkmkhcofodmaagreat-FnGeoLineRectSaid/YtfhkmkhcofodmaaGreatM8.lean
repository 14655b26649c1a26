/- Parts of a proof, in order: what each says stands at its head. No conditions. -/
import Derived.Test.YtfhkmkhcofodmaaGreatM7
import Derived.Test.YtfhkmkhcofodmaaGreatM5
import Derived.Test.YtfhkmkhcofodmaaGreatM3
namespace Go.Proofs.Tryz.Sx
open Go Go.Sx Go.Proofs Go.Fl Go.Geo
set_option maxRecDepth 100000
theorem wOk.nat{w:Int}(h:wOk w):∃ n:Nat,w=(n:Int)/\n<=4/\1<=n:=by
 rcases h with e|e|e <;> subst e
 ·exact⟨1,rfl,by omega,by omega⟩
 ·exact⟨2,rfl,by omega,by omega⟩
 ·exact⟨4,rfl,by omega,by omega⟩
section
variable {q:RM} {R:Nat->Q4} {m d b0 b c l:Nat} {Q:Q4} {k:QK}
theorem a4g(w:Int){t:Nat}:∀ {j:Nat},t<j->∃ r,qhF q b0 w j=qhF q b0 w t++qfl q b0 t++r
 | 0,h=>absurd h (Nat.not_lt_zero t)
 | j+1,h=>by
  rw[U2];by_cases e:t=j
  ·subst e;exact⟨[],by simp⟩
  ·obtain⟨r,hr⟩:=a4g w (t:=t) (j:=j) (by omega);exact⟨r++qfl q b0 j,by rw[hr];simp⟩
theorem Z1(w:Int){t j:Nat}(h:t<=j):(qhF q b0 w t).length<=(qhF q b0 w j).length:=by
 by_cases e:t=j
 ·subst e;exact Nat.le_refl _
 ·obtain⟨r,hr⟩:=a4g (q:=q) (b0:=b0) w (t:=t) (j:=j) (by omega);rw[hr];simp only[List.length_append];omega
theorem c5u(t:Nat):(qfl q b0 t)[0]? = some (if a4j q b0 t=true then 0 else 1):=by unfold qfl;split <;> rfl
theorem a5f{w n:Nat}(h:w<=4):w*n<=4*n:=Nat.mul_le_mul_right n h
theorem c5x(h:qmA q R m d b0 Q k b)(hs:W9 (q.F b0 0)=false){w:Int}{i:DI}(hp:apd q b c l (qhI q b0 w (qnL q b0)++[0]) i)(hq:q1P q b0 (qnL q b0,w)) :
  ∃ us,apd q b c l us i/\us.length<=qBy d k.its.length/\a8H (bG i) R m d l i.l Q k.its:=by
 obtain⟨sp,v,E,ks,h1,h5,h6,hn,hit⟩:=h.its;obtain⟨w,rfl,hw,_⟩:=hq.2.1.nat;obtain rfl:sp=false:=by rw[h1.s0]at hs;exact hs
 obtain⟨_,hE⟩:=h6 rfl;have hle:=h.le
 have hH:b2U (bG i) l w E:=by
  refine b4A (λt ht x hx=>a0m hp ?_) hn hq hit (by rw[hE]at hle;omega) λx hx=>h.lt x (h5 x hx).1
  rw[hn,List.getElem?_append_left (by rw[M0];exact ht)];exact hx
 have hz:bG i (l+1+w+w*E.length)=0:=by
  rw[show l+1+w+w*E.length=l+(1+w+w*E.length) by omega];refine a0m hp ?_;rw[hn,List.getElem?_append_right (by rw[M0];exact Nat.le_refl _),M0];simp
 have hl:=hp.n;rw[List.length_append,M0,hn]at hl;simp only[List.length_cons,List.length_nil]at hl;have hm:=a5f (n:=E.length) hw;refine⟨_,hp,?_,?_⟩
 ·rw[List.length_append,M0,hn,hE];simp only[List.length_cons,List.length_nil,qBy];have:26*1<=26*(1+d*E.length):=Nat.mul_le_mul_left _ (by omega);omega
 ·cases d with
  | zero=>exact⟨w,by rw[hE];exact hH,by rw[hE];omega,by rw[hE];exact hz,λx hx=>(h5 x (by rw[<-hE];exact hx)).2⟩
  | succ d=>exact⟨w,E,[],hH,by rw[hE];simp,λx hx=>(h5 x hx).2, .inl ⟨rfl,by omega,hz⟩⟩
theorem qmA.split(h:qmA q R m (d+1) b0 Q k b)(hs:W9 (q.F b0 0)=true):∃ v E ks,qpN q R m d Q b0 true v E ks []/\kne ks/\k.its=E++ks.flatMap M1/\k.fp=b0 :: (fpU v++ks.flatMap kfp):=by
 obtain⟨sp,v,E,ks,h1,_,h3,h4,h5⟩:=c1H h.t h.nd;rw[h.kb]at h1 h3;obtain rfl:sp=true:=by rw[h1.a.s0]at hs;exact hs
 exact⟨v,E,ks,h1,h5,h4,h3⟩
theorem V4{v:Value}{E xs:List Nat}{ks:List (Option QK)}{sp:Bool}(h:qpN q R m d Q b0 sp v E ks xs):∀(t:Nat)(o:Option QK),ks[t]? = some o->a4j q b0 t=o.isNone:=λt o ht=>by
 unfold a4j;rw[h.a.k t o ht,a1w]
theorem c6G{v:Value}{E xs:List Nat}{ks:List (Option QK)}{sp:Bool}(h:qpN q R m d Q b0 sp v E ks xs):qnL q b0=E.length:=by
 unfold qnL;rw[h.a.s1,h.a.u.n]
theorem c2V{ks:List (Option QK)}(h:ks.length=4):J4 ks 4<=20:=by
 match ks,h with
 | [a,b,c,d],_=>cases a <;> cases b <;> cases c <;> cases d <;> simp[J4,qsz]
theorem b9J(h:qmA q R m (d+1) b0 Q k b)(hs:W9 (q.F b0 0)=true){w:Int}(hw:wOk w):(qhF q b0 w 4).length<=26+4*qnL q b0:=by
 obtain⟨wn,rfl,hw4,_⟩:=hw.nat;obtain⟨v,E,ks,h1,_⟩:=h.split hs;rw[a4X (V4 h1) h1.a.kl 4 (Nat.le_refl _)];have h2:=c2V h1.a.kl;have h3:=a5f (n:=qnL q b0) hw4;omega
theorem qmA.pos(h:qmA q R m d b0 Q k b)(hs:W9 (q.F b0 0)=true):∃ e,d=e+1:=by
 cases d with
 | succ e=>exact⟨e,rfl⟩
 | zero =>
  obtain⟨v,E,h1,_⟩:=h.t;have h2:=h1.s0;rw[h.kb]at h2;rw[h2]at hs;exact absurd hs (by decide)
theorem b7c(h:qmA q R m (d+1) b0 Q k b)(hs:W9 (q.F b0 0)=true){p p':QC}(hp:apd q b c l (qhF q b0 p.w 4) p.i)(hw:wOk p.w)(e1:p'.i=p.i)(e2:p'.j=0)(e3:p'.w=p.w):q4K q R m d b0 Q b c l p' k:=by
 obtain⟨v,E,ks,h1,h2,h3,h4⟩:=h.split hs;obtain⟨w,e,hw4,_⟩:=hw.nat;have hpos:=a4X (q:=q) (b0:=b0) (w:=w) (V4 h1) h1.a.kl 4 (Nat.le_refl _);have h20:=c2V h1.a.kl;have hm:=a5f (n:=E.length) hw4;rw[c6G h1]at hpos;rw[q4K,e1,e2,e3];refine⟨_,v,E,ks,hp,h1,h2,h3,h4,λt ht=>a0m hp ?_,λt ht=>a0m hp ?_,Nat.le_refl _,?_,λt x ht=>absurd ht (Nat.not_lt_zero t)⟩
 ·unfold qhF;rw[List.getElem?_append_left ht,List.getElem?_eq_getElem ht,List.getD_eq_getElem?_getD,List.getElem?_eq_getElem ht];rfl
 ·obtain⟨r,hr⟩:=a4g (q:=q) (b0:=b0) p.w ht;rw[hr,List.append_assoc,List.getElem?_append_right (Nat.le_refl _),Nat.sub_self,List.getElem?_append_left (by rw[a2D];split <;> omega)];exact c5u t
 ·rw[e,hpos];simp;omega
theorem c0U{p p':QC}(hK:q4K q R m d b0 Q b c l p k)(hj:p.j<4)(hn:a4j q b0 p.j=true)(e1:p'.i=p.i)(e2:p'.j=p.j+1)(e3:p'.w=p.w):q4K q R m d b0 Q b c l p' k:=by
 obtain⟨us,v,E,ks,k1,k2,k3,k4,k5,k6,k7,k8,k9,k10⟩:=hK;have hg:=List.getElem?_eq_getElem (by rw[k2.a.kl];exact hj:p.j<ks.length);have hno:=V4 k2 _ _ hg;rw[q4K,e1,e2,e3];refine⟨us,v,E,ks,k1,k2,k3,k4,k5,k6,k7,k8,?_,λt x ht hx=>?_⟩
 ·rw[List.take_add_one,List.map_append,List.sum_append];omega
 ·by_cases e:t=p.j
  ·subst e;rw[hx]at hg;simp only[Option.some.injEq]at hg;rw[<-hg,hn]at hno;exact absurd hno (by simp)
  ·exact k10 t x (by omega) hx
theorem b3X(h:qmA q R m (d+1) b0 Q k b)(hbd:l+qBy (d+1) k.its.length<=100000000){p:QC}(hw:wOk p.w)(hK:q4K q R m d b0 Q b c l p k)(hj:p.j<4)(hn:a4j q b0 p.j=false) :
  ∃ x:QK,q.F b0 (2+p.j)=.pointer (some ⟨x.b,0,none⟩)/\l+((qhF q b0 p.w p.j).length+1)+4<=p.i.l/\p.i.l<=100000000/\byO p.i.q p.i.b p.i.c p.i.l p.i.k/\
  byO (p4R p.i.q p.i.b (p.i.c+(l+((qhF q b0 p.w p.j).length+1))) (p.i.l:Nat)) p.i.b p.i.c p.i.l p.i.k/\
  qmA (p4R p.i.q p.i.b (p.i.c+(l+((qhF q b0 p.w p.j).length+1))) (p.i.l:Nat)) R m d x.b (qbV Q (p.j:Int)) x p.i.b/\p.i.l+qBy d x.its.length<=100000000/\
  ∀ i',qmP (p4R p.i.q p.i.b (p.i.c+(l+((qhF q b0 p.w p.j).length+1))) (p.i.l:Nat)) x.b (qbV Q (p.j:Int)) p.i.b p.i.c p.i.l i'->q4K q R m d b0 Q b c l ⟨i',p.j+1,p.w,p.g⟩ k:=by
 obtain⟨us,v,E,ks,k1,k2,k3,k4,k5,k6,k7,k8,k9,k10⟩:=hK;obtain⟨w,e,hw4,_⟩:=hw.nat;have hn1:=k1.n;obtain⟨o,hg,hcell⟩:=k2.a.kid hj;have hno:=V4 k2 _ _ hg;rw[hn]at hno
 obtain⟨x,rfl⟩:∃ x,o=some x:=by cases o with
  | none=>simp at hno
  | some x=>exact⟨x,rfl⟩
 have hF1:(qhF q b0 p.w (p.j+1)).length=(qhF q b0 p.w p.j).length+5:=by rw[U2,List.length_append,a2D,hn];simp
 have hF4:=Z1 (q:=q) (b0:=b0) p.w (t:=p.j+1) (j:=4) (by omega);have hF0:=Z1 (q:=q) (b0:=b0) p.w (t:=0) (j:=p.j) (by omega);rw[a5M]at hF0;generalize hS:(qhF q b0 p.w p.j).length=S at *;obtain⟨us2,v1,v2,v3,v4⟩:=b1h k1 (s:=S+1) (by omega) (p.i.l:Nat)
 have hsum:((ks.take (p.j+1)).map (kBy d)).sum=((ks.take p.j).map (kBy d)).sum+qBy d x.its.length:=by
  rw[List.take_add_one,hg,List.map_append,List.sum_append];simp[kBy]
 have hsum4:((ks.take (p.j+1)).map (kBy d)).sum<=(ks.map (kBy d)).sum:=by
  conv=>rhs;rw[<-List.take_append_drop (p.j+1) ks]
  rw[List.map_append,List.sum_append];omega
 have hnode:=b0x (d:=d) k3 E;rw[<-k4]at hnode;have hxk:∀ y∈x.fp,y∈k.fp:=λy hy=>by rw[k5];exact List.mem_cons_of_mem _ (List.mem_append_right _ (G5 hg hy))
 have hkx:qmA (p4R p.i.q p.i.b (p.i.c+(l+(S+1))) (p.i.l:Nat)) R m d x.b (qbV Q (p.j:Int)) x p.i.b:=by
  have hD:=(k2.kid _ _ hg).D;have hne:∀ y∈x.fp,y≠b:=λy hy e=>h.bf (e▸hxk y hy)
  refine⟨(k2.kid _ _ hg).same λy hy=>?_,rfl,c2c hg (nd4.1 k2.nd).2.1.2.1,?_,λhb=>?_,λy hy=>h.lt y ?_⟩
  ·obtain⟨g1,g2,g3⟩:=v2.keep y (hD y hy);exact⟨g1,g2,g3 (hne y hy)⟩
  ·have g1:=a9d hg;have g2:=h.le;rw[k4,List.length_append]at g2;omega
  ·rcases k1.nw with g1|g1
   ·exact hne _ hb g1
   ·exact g1 (hD _ hb)
  ·rw[k4];exact List.mem_append_right _ (List.mem_flatMap.2 ⟨some x,List.mem_of_getElem? hg,hy⟩)
 refine⟨x,hcell,by omega,by omega,k1.o,v2.o,hkx,by omega,λi' hi'=>?_⟩;obtain⟨us3,w1,w2,w3⟩:=hi' R m d x hkx (by omega);have hall:=v2.trans w1;have hn3:=w1.n
 have old:∀ pp,pp<p.i.l->bG i' pp=bG ⟨p4R p.i.q p.i.b (p.i.c+(l+(S+1))) (p.i.l:Nat),p.i.b,p.i.c,p.i.l,p.i.k⟩ pp:=λpp hpp=>by
  unfold bG;rw[w1.old pp hpp]
 have old2:∀ pp,pp<p.i.l->(pp<l+(S+1)∨l+(S+1)+4<=pp)->bG i' pp=bG p.i pp:=λpp h1 h2=>(old pp h1).trans (v4 pp h2)
 have far:∀ t,t<4->t≠p.j->(qhF q b0 p.w t).length+(qfl q b0 t).length<=S∨S+5<=(qhF q b0 p.w t).length:=λt ht hne=>by
  rcases Nat.lt_or_ge t p.j with c1|c1
  ·have:=Z1 (q:=q) (b0:=b0) p.w (t:=t+1) (j:=p.j) (by omega);rw[U2,List.length_append,hS]at this;exact .inl this
  ·have:=Z1 (q:=q) (b0:=b0) p.w (t:=p.j+1) (j:=t) (by omega);rw[hF1]at this;exact .inr this
 have l4:∀ t,t<4->(qhF q b0 p.w t).length+(qfl q b0 t).length<=(qhF q b0 p.w 4).length:=λt ht=>by
  have:=Z1 (q:=q) (b0:=b0) p.w (t:=t+1) (j:=4) (by omega);rw[U2,List.length_append]at this;exact this
 have flp:∀ t,1<=(qfl q b0 t).length:=λt=>by rw[a2D];split <;> omega
 unfold q4K;dsimp only;refine⟨us2++us3,v,E,ks,hall,k2,k3,k4,k5,λt ht=>?_,λt ht=>?_,by rw[List.length_append];omega,?_,λt y ht hy=>?_⟩
 ·have ht:t<(qhI q b0 p.w (qnL q b0)++[1]).length:=ht;exact(old2 _ (by omega) (by omega)).trans (k6 t ht)
 ·have g1:=flp t;have g2:=l4 t ht;by_cases ce:t=p.j
  ·subst ce;exact(old2 _ (by rw[hS];omega) (by rw[hS];omega)).trans (k7 _ ht)
  ·have g3:=far t ht ce;exact(old2 _ (by omega) (by omega)).trans (k7 t ht)
 ·show (us2++us3).length<=26+4*E.length+((ks.take (p.j+1)).map (kBy d)).sum;rw[hsum,List.length_append];omega
 ·have ht:t<p.j+1:=ht;by_cases ce:t=p.j
  ·subst ce;rw[hg]at hy;simp only[Option.some.injEq]at hy;subst hy;refine⟨p.i.l,i'.l,?_,by show l+(qhF q b0 p.w 4).length<=p.i.l;omega,Nat.le_refl _,w3⟩;show leN (bG i') (l+(qhF q b0 p.w p.j).length+1) 4=_;rw[hS];refine b0z (λj hj4=>?_) (by omega) (by omega);rw[show l+S+1+j=l+(S+1)+j by omega];exact(old _ (by omega)).trans (v3 j hj4)
  ·obtain⟨a,e',a1,a2,a3,a4⟩:=k10 t y (by omega) hy;have g2:=l4 t (by omega);have g3:=far t (by omega) ce
   have g4:(qfl q b0 t).length=5:=by
    rw[a2D,V4 k2 _ _ hy];simp
   refine⟨a,e',?_,a2,by show e'<=i'.l;omega,a2y a4 λpp p1 p2=>old2 pp (by omega) (by omega)⟩;show leN (bG i') (l+(qhF q b0 p.w t).length+1) 4=_;rw[J2 λj hj=>old2 _ (by omega) (by omega)];exact a1
theorem c5I(h:qmA q R m (d+1) b0 Q k b){p:QC}(hq:q1P q b0 (qnL q b0,p.w))(hK:q4K q R m d b0 Q b c l p k)(hj:4<=p.j) :
  ∃ us,apd q b c l us p.i/\us.length<=qBy (d+1) k.its.length/\a8H (bG p.i) R m (d+1) l p.i.l Q k.its:=by
 obtain⟨us,v,E,ks,k1,k2,k3,k4,k5,k6,k7,k8,k9,k10⟩:=hK;obtain⟨w,e,hw4,_⟩:=hq.2.1.nat;dsimp only at e;rw[e]at hq k6 k7 k8 k10;have hn1:=k1.n;have hnE:=c6G k2;have hpos:=a4X (q:=q) (b0:=b0) (w:=w) (V4 k2) k2.a.kl;rw[hnE]at hpos k6;have hnode:=b0x (d:=d) k3 E;rw[<-k4]at hnode;have hle:=h.le;have hEl:E.length<=k.its.length:=by rw[k4];simp
 obtain⟨es,e1,e2,e3,e4,e5⟩:=b1c (P:=λt x kk=>kk.its=x.its/\leN (bG p.i) (l+2+w+w*E.length+J4 ks t+1) 4=(kk.a:Nat)/\l+2+w+w*E.length+J4 ks 4<=kk.a/\kk.e<=p.i.l/\a8H (bG p.i) R m d kk.a kk.e (qbV Q (t:Int)) kk.its) (λ_ _ _ hh=>hh.1) ks 0 λt x hx=>by
  have ht4:t<4:=by rw[<-k2.a.kl];exact(List.getElem?_eq_some_iff.1 hx).1
  obtain⟨a,e',a1,a2,a3,a4⟩:=k10 t x (by omega) hx;rw[hpos t (by omega)]at a1;rw[hpos 4 (by omega)]at a2;refine⟨⟨a,e',x.its⟩,rfl,?_,by show _<=a;omega,a3,?_⟩
  ·rw[Nat.zero_add,show l+2+w+w*E.length+J4 ks t+1=l+(2+w+w*E.length+J4 ks t)+1 by omega];exact a1
  ·rw[Nat.zero_add];exact a4
 have hlen:(qhI q b0 (w:Nat) E.length++[1]).length=2+w+w*E.length:=by rw[List.length_append,M0];simp;omega
 refine⟨us,k1,?_,w,E,es,?_,by rw[e2,k4],k2.ok, .inr ⟨by rw[e1,k2.a.kl],?_,?_,λt ht=>?_,λt kk ht=>?_⟩⟩
 ·have:ks.take p.j=ks:=List.take_of_length_le (by rw[k2.a.kl];exact hj);rw[this]at k9;omega
 ·refine b4A (λt ht x hx=>?_) hnE hq (λt x hx=>?_) (by omega) λx hx=>h.lt x (by rw[k4];exact List.mem_append_left _ hx)
  ·rw[k6 t (by omega),List.getD_eq_getElem?_getD,List.getElem?_append_left (by rw[M0];exact ht),hx];rfl
  ·unfold qit;rw[k2.a.s1,k2.a.u.c _ _ hx];rfl
 ·have:=k6 (1+w+w*E.length) (by omega);rw[List.getD_eq_getElem?_getD,List.getElem?_append_right (by rw[M0];exact Nat.le_refl _),M0]at this;rw[show l+1+w+w*E.length=l+(1+w+w*E.length) by omega,this];simp
 ·rw[e3 4];rw[hpos 4 (by omega)]at k8;omega
 ·have hx:=e4 t ht;have ht4:t<4:=by rw[<-k2.a.kl];exact(List.getElem?_eq_some_iff.1 hx).1
  have:=k7 t ht4;rw[hpos t (by omega),V4 k2 _ _ hx]at this;rw[e3 t,show l+2+w+w*E.length+J4 ks t=l+(2+w+w*E.length+J4 ks t) by omega,this];rfl
 ·obtain⟨x,hx,g1,g2,g3,g4,g5⟩:=e5 t kk ht;have ht4:t<4:=by rw[<-k2.a.kl];exact(List.getElem?_eq_some_iff.1 hx).1
  have:=k7 t ht4;rw[hpos t (by omega),V4 k2 _ _ hx]at this;rw[Nat.zero_add]at g2 g5;rw[e3 t,e3 4];refine⟨?_,g2,g3,g4,g5⟩;rw[show l+2+w+w*E.length+J4 ks t=l+(2+w+w*E.length+J4 ks t) by omega,this];rfl
end
noncomputable def qcH(ts:List Nat)(a0 a1 a2 a3:Nat)(q:RM):v5:=[(0,rwO ts q),(1,⟨true,102, .cells [.flt .f64 a0, .flt .f64 a1, .flt .f64 a2, .flt .f64 a3],0⟩)]
noncomputable def c9k(ts:List Nat)(a0 a1 a2 a3:Nat)(q:RM)(g:Nat->Int):v5:=[(0,rwO ts q),(1,⟨true,102, .cells [.flt .f64 a0, .flt .f64 a1, .flt .f64 a2, .flt .f64 a3],0⟩),(2,⟨true,206, .ints .i64 4 g,0⟩)]
noncomputable def q1L(ts:List Nat)(q:RM)(b0 b c l kk a0 a1 a2 a3:Nat):O9:=⟨⟨Nat×Int,λp=>⟨143,[(0, .pb 0 b0 0),(1, .slb 0 b c l kk),(5, .ptr 1 0),(7, .int .u8 p.2),(8, .int .i64 p.1)],qcH ts a0 a1 a2 a3 q,2⟩,q1P q b0,λp=>qnL q b0-p.1⟩,λ_=>[]⟩
noncomputable def q2L(ts:List Nat)(q:RM)(b0 b c l a0 a1 a2 a3:Nat):O9:=⟨⟨C1,λp=>⟨143,[(0, .pb 0 b0 0),(1, .slb 0 p.i.b p.i.c p.i.l p.i.k),(5, .ptr 1 0),(7, .int .u8 p.w),(10, .int .i64 p.j)],qcH ts a0 a1 a2 a3 p.i.q,2⟩,q2P q b0 b c l,λp=>qnL q b0-p.j⟩,λ_=>[]⟩
noncomputable def q3L(ts:List Nat)(q:RM)(b0 b c l a0 a1 a2 a3:Nat):O9:=⟨⟨QC,λp=>⟨143,[(0, .pb 0 b0 0),(1, .slb 0 p.i.b p.i.c p.i.l p.i.k),(5, .ptr 1 0),(11, .ptr 2 0),(12, .int .i64 p.j)],c9k ts a0 a1 a2 a3 p.i.q p.g,3⟩,q3P q b0 b c l,λp=>4-p.j⟩,λ_=>[]⟩
noncomputable def q4L(ts:List Nat)(q:RM)(b0 b c l a0 a1 a2 a3:Nat):O9:=⟨⟨QC,λp=>⟨143,[(0, .pb 0 b0 0),(1, .slb 0 p.i.b p.i.c p.i.l p.i.k),(5, .ptr 1 0),(11, .ptr 2 0),(13, .int .i64 p.j)],c9k ts a0 a1 a2 a3 p.i.q p.g,3⟩,q4P q b0 ⟨a0,a1,a2,a3⟩ b c l,λp=>4-p.j⟩,λ_=>[]⟩
noncomputable def a6z(K:Nat):List SV->RRd DI
 | [.pb n b0 c0, .slb n1 b c l kk, .agg [.flt .f64 a0, .flt .f64 a1, .flt .f64 a2, .flt .f64 a3]]=>.read n λo0=>(match G2 o0 with
  | some (ts,q)=>.ret ⟨[.pb 0 b0 0, .slb 0 b c l kk, .agg [.flt .f64 a0, .flt .f64 a1, .flt .f64 a2, .flt .f64 a3]],[(0,rwO ts q)],some (n=n1/\0=c0/\(qmO q b0 ⟨a0,a1,a2,a3⟩ b c l kk K)),λi=>qmP q b0 ⟨a0,a1,a2,a3⟩ b c l i,λi=>⟨[],[], .slb 0 i.b i.c i.l i.k,[(0,rwO ts (i.q))],[],none⟩⟩
  | none=>.fail)
 | _=>.fail
noncomputable def GQc:Ctx:=⟨⟨tys,[]⟩,[(125,l8 b4D),(124,l8 b4c)]⟩
theorem gQc:v8 Tryz.prog GQc:=⟨⟨z6,FlatsOk.nil⟩,g8.cons (.pure c8f) (g8.cons (.pure c8E) g8.nil),by kernel_rfl⟩
noncomputable def X12(H:Nat):D7:=⟨GQc,[(118,l9 DI ⟨default⟩ (a6z H)),(121,l9 Unit ⟨()⟩ a8d),(126,l9 DI ⟨default⟩ a5e)],[],[],[(185,0)]⟩
theorem x12(H:Nat)(ih:u6 Tryz.prog 118 (l9 DI ⟨default⟩ (a6z H))):y9 Tryz.prog (X12 H):=⟨gQc,q8.cons ih (q8.cons c0r (q8.cons b7z q8.nil))⟩
noncomputable def c3p(K:Nat):List SV->RRd (DI)
 | [.pb n b0 c0, .slb n1 b c l kk, .agg [.flt .f64 a0, .flt .f64 a1, .flt .f64 a2, .flt .f64 a3]]=>.read n λo0=>(match G2 o0 with
  | some (ts,q)=>.ret ⟨[.pb 0 b0 0, .slb 0 b c l kk, .agg [.flt .f64 a0, .flt .f64 a1, .flt .f64 a2, .flt .f64 a3]],[(0,rwO ts q)],some (n=n1/\0=c0/\(qmO q b0 ⟨a0,a1,a2,a3⟩ b c l kk K)),λi=>qmP q b0 ⟨a0,a1,a2,a3⟩ b c l i,λi=>⟨[],[], .slb 0 i.b i.c i.l i.k,[(0,rwO ts (i.q))],[],none⟩⟩
  | none=>.fail)
 | _=>.fail
theorem c0H(R:Option Ob->SV->Prop)(H:Nat)(ts:List Nat)(q:RM)(b0 b c l kk a0 a1 a2 a3:Nat){T1}(t1:T1=λ(i:QC)=>(pB (pB (pB (DI.q (QC.i i)).3 (DI.b (QC.i i)) (DI.c (QC.i i)+Int.toNat (i.4 (0+Int.toNat (↑(QC.j i):Int)*1))*1) (IntKind.wrap IntKind.u32 (↑(DI.l (QC.i i)):Int)) 0) (DI.b (QC.i i)) (DI.c (QC.i i)+Int.toNat (i.4 (0
 + Int.toNat (↑(QC.j i):Int)*1))*1) (IntKind.wrap IntKind.u32 (↑(DI.l (QC.i i)):Int)) 1) (DI.b (QC.i i)) (DI.c (QC.i i)+Int.toNat (i.4 (0+Int.toNat (↑(QC.j i):Int)*1))*1) (IntKind.wrap IntKind.u32 (↑(DI.l (QC.i i)):Int))
 2)){T2}(t2:T2=(102=102/\0=0/\a0=a0/\a1=a1/\a2=a2/\a3=a3/\True)){T3}(t3:T3=λ(i:QC)=>(↑(QC.j i):Int)){T4}(t4:T4=λ(i:QC)=>(pB (T1 i) (DI.b (QC.i i)) (DI.c (QC.i i)+Int.toNat (i.4 (0+Int.toNat (T3 i)*1))*1)
 (IntKind.wrap IntKind.u32 (↑(DI.l (QC.i i)):Int)) 3 b0 (2+Int.toNat (T3 i)*1))){T5}(t5:T5=λ(i:QC)=>(p4R (RM.mk (RM.D (DI.q (QC.i i))) (RM.S (DI.q (QC.i i))) (RM.F (DI.q (QC.i i)))) (DI.b (QC.i i)) (DI.c (QC.i i)+Int.toNat (QC.g i (0 +
 Int.toNat (T3 i)*TI.size ty3))*TI.size ty5) (IntKind.wrap IntKind.u32 (↑(DI.l (QC.i i)):Int)))){T6}(t6:T6=λ(i:C1)=>(DI.q (C1.i i))){T7}(t7:T7=λ(i:QC)=>(DI.q (QC.i i))){T8}(t8:T8=(True/\b0=b0/\0=0)){T9}(t9:T9=λ(i:C1)=>((T6 i).3
 (slB ((T6 i).3 b0 1)) (slC ((T6 i).3 b0 1)+Int.toNat (↑(C1.j i):Int)*1))){T10}(t10:T10=(True/\0=0)){T11}(t11:T11=λ(i:Nat×Int)=>(q.3 (slB (q.3 b0 1)) (slC (q.3 b0 1)+Int.toNat (↑(i.1):Int)*1))){T12}(t12:T12=(Q4.mk a0 a1 a2
 a3)){T13}(t13:T13=λ(i:QC)=>(RM.mk (RM.D (T5 i)) (T7 i).2 (pB (T1 i) (DI.b (QC.i i)) (DI.c (QC.i i)+Int.toNat (i.4 (0+Int.toNat (T3 i)*1))*1) (IntKind.wrap IntKind.u32 (↑(DI.l (QC.i i)):Int)) 3))){T14}(t14:T14=λ(i:QC)=>((T7 i).3 b0 (2
 + Int.toNat (T3 i)*1))){T15}(t15:T15=(0=0/\0=0/\ts=ts/\q.3=q.3/\q.2=q.2/\RM.D q=RM.D q)){T16}(t16:T16=λ(pq:QC)=>(DI.q (QC.i pq))){T17}(t17:T17=λ(i:QC) (pq:QC)=>(True/\DI.b (QC.i i)=DI.b (QC.i pq)/\DI.c (QC.i i)=DI.c
 (QC.i pq)/\DI.l (QC.i i)=DI.l (QC.i pq)/\DI.k (QC.i i)=DI.k (QC.i pq))){T18}(t18:T18=λ(i:QC)=>(0+Int.toNat (T3 i)*1)){T19}(t19:T19=(True/\b=b/\c=c/\l=l/\kk=kk)){T20}(t20:T20=λ(i:QC) (pq:QC)=>(0=0/\0=0/\ts=ts/\(T7
 i).3=(T16 pq).3/\(T7 i).2=(T16 pq).2/\RM.D (T7 i)=RM.D (T16 pq))){T21}(t21:T21=(↑(slL (q.3 b0 1)):Int)){T22}(t22:T22=λ(i:QC)=>(DI.b (QC.i i))){T23}(t23:T23=λ(i:QC)=>(Q4.mk (qb0 T12 (T3 i)) (qb1 T12 (T3 i)) (qb2 T12 (T3 i)) (qb3 T12
 (T3 i)))){T24}(t24:T24=λ(i:QC)=>(DI.l (QC.i i))){T25}(t25:T25=λ(i:QC) (pq:QC)=>(206=206/\0=0/\4<=4/\∀ (i_4:Nat),i_4<4->i.4 i_4=pq.4 i_4)){T26}(t26:T26=λ(i:C1)=>(↑(C1.j i):Int)){T27}(t27:T27=λ(pq:QC)=>(↑(QC.j pq) :
 Int)){T28}(t28:T28=λ(i:C1)=>((T6 i).3 b0 1)):J7 (X12 H) 1 [(3,q1L ts q b0 b c l kk a0 a1 a2 a3),(11,q2L ts q b0 b c l a0 a1 a2 a3),(20,q3L ts q b0 b c l a0 a1 a2 a3),(28,q4L ts q b0 b c l a0 a1 a2 a3)] [] (j3 Tryz.f118) (q9 Tryz.f118.ntmps [.pb 0 b0 0, .slb 0 b c l kk, .agg [.flt .f64 a0, .flt .f64 a1, .flt .f64 a2, .flt .f64 a3]] [(0,rwO ts q)] 1) (r6 (X12 H).G.E.T Tryz.f118.results.toList λS v=>R (Go.Sx.look S.H 0) v)=(
 (q.1 b0/\1<q.2 b0)/\isSlN (q.3 b0 1)/\(∃(pq:Nat×Int),q1P q b0 pq/\(T8/\T19/\T10/\nbI (IntKind.wrap IntKind.u32 T21)=pq.2/\0=(↑(pq.1):Int)/\True)/\True/\T15/\True/\T2/\True)/\∀(i:Nat×Int),q1P q b0 i->(q.1 b0/\1 <
 q.2 b0)/\isSlN (q.3 b0 1)/\(decide ((↑(i.1):Int)<T21)=true->(q.1 b0/\1<q.2 b0)/\(Go.Sx.isSl (q.3 b0 1)/\0<=(↑(i.1):Int)/\(↑(i.1):Int)<T21)/\(q.1 (slB (q.3 b0 1))/\slC (q.3 b0 1)+Int.toNat (↑(i.1):Int)*1<q.2 (slB (q.3
 b0 1))/\A1 IntKind.u32 (T11 i))/\(decide (i.2<nbI (m8 (T11 i)))=true->∃(pq:Nat×Int),q1P q b0 pq/\qnL q b0-pq.1<qnL q b0-i.1/\(T8/\T19/\T10/\nbI (m8 (T11 i))=pq.2/\IntKind.wrap .i64 ((↑(i.1):Int)+1)=(↑(pq.1) :
 Int)/\True)/\True/\T15/\True/\T2/\True)/\(decide (i.2<nbI (m8 (T11 i)))=false->∃(pq:Nat×Int),q1P q b0 pq/\qnL q b0-pq.1<qnL q b0-i.1/\(T8/\T19/\T10/\i.2=pq.2/\IntKind.wrap .i64 ((↑(i.1):Int)+1)=(↑(pq.1):Int)
 /\True)/\True/\T15/\True/\T2/\True))/\(decide ((↑(i.1):Int)<T21)=false->∀(i_1:ApI),appO (RM.D q) q.2 1 1 b c l kk 1/\(L9 (RM.D q) q.2 q.3 1 b c l kk 1 [Value.int .u8 (i.2)] i_1->(i_1.4 b0/\1<i_1.5 b0)/\isSlN (i_1.6 b0 1)/\∀
 (i_2:DI),((byO (RM.mk (ApI.D i_1) i_1.5 i_1.6) i_1.1 i_1.2 (l+1) i_1.3/\l+1<=1000000000)/\((0:Int)<=IntKind.wrap IntKind.u32 (↑(slL (i_1.6 b0 1)):Int)/\IntKind.wrap IntKind.u32 (↑(slL (i_1.6 b0 1)):Int)<4294967296)/\(i.2=(1 :
 Int)∨i.2=(2:Int)∨i.2=(4:Int)))/\(apd (RM.mk (ApI.D i_1) i_1.5 i_1.6) i_1.1 i_1.2 (l+1) (byL (IntKind.wrap IntKind.u32 (↑(slL (i_1.6 b0 1)):Int)) (Int.toNat (i.2))) i_2->(∃(pq:C1),q2P q b0 b c l pq/\(T8/\(True/\DI.b i_2=DI.b
 (C1.i pq)/\DI.c i_2=DI.c (C1.i pq)/\DI.l i_2=DI.l (C1.i pq)/\DI.k i_2=DI.k (C1.i pq))/\T10/\i.2=C1.w pq/\0=(↑(C1.j pq):Int)/\True)/\True/\(0=0/\0=0/\ts=ts/\(DI.q i_2).3=(DI.q (C1.i pq)).3/\(DI.q i_2).2=(DI.q (C1.i
 pq)).2/\RM.D (DI.q i_2)=RM.D (DI.q (C1.i pq)))/\True/\T2/\True)/\∀(i:C1),q2P q b0 b c l i->((T6 i).1 b0/\1<(T6 i).2 b0)/\isSlN (T28 i)/\(decide ((T26 i)<(↑(slL (T28 i)):Int))=true->((T6 i).1 b0/\1<(T6 i).2 b0)/\(Go.Sx.isSl
 (T28 i)/\0<=(T26 i)/\(T26 i)<(↑(slL (T28 i)):Int))/\((T6 i).1 (slB (T28 i))/\slC (T28 i)+Int.toNat (T26 i)*1<(T6 i).2 (slB (T28 i))/\A1 IntKind.u32 (T9 i))/\∀(i_3:DI),((byO (RM.mk (RM.D (T6 i)) (T6 i).2 (T6 i).3) (DI.b (C1.i
 i)) (DI.c (C1.i i)) (DI.l (C1.i i)) (DI.k (C1.i i))/\DI.l (C1.i i)<=1000000000)/\((0:Int)<=m8 (T9 i)/\m8 (T9 i)<(4294967296:Int))/\(C1.w i=(1:Int)∨C1.w i=(2:Int)∨C1.w i=(4:Int)))/\(apd (RM.mk (RM.D (T6 i)) (T6 i).2
 (T6 i).3) (DI.b (C1.i i)) (DI.c (C1.i i)) (DI.l (C1.i i)) (byL (m8 (T9 i)) (Int.toNat (C1.w i))) i_3->∃(pq:C1),q2P q b0 b c l pq/\qnL q b0-C1.j pq<qnL q b0-C1.j i/\(T8/\(True/\DI.b i_3=DI.b (C1.i pq)/\DI.c i_3=DI.c (C1.i pq)/\
 DI.l i_3=DI.l (C1.i pq)/\DI.k i_3=DI.k (C1.i pq))/\T10/\C1.w i=C1.w pq/\IntKind.wrap .i64 ((T26 i)+1)=(↑(C1.j pq):Int)/\True)/\True/\(0=0/\0=0/\ts=ts/\(DI.q i_3).3=(DI.q (C1.i pq)).3/\(DI.q i_3).2=(DI.q (C1.i pq)).2/\
 RM.D (DI.q i_3)=RM.D (DI.q (C1.i pq)))/\True/\T2/\True))/\(decide ((T26 i)<(↑(slL (T28 i)):Int))=false->((T6 i).1 b0/\0<(T6 i).2 b0/\a9R ((T6 i).3 b0 0))/\((!W9 ((T6 i).3 b0 0))=true->∀(i_3:ApI),appO (RM.D (T6 i)) (T6
 i).2 1 1 (DI.b (C1.i i)) (DI.c (C1.i i)) (DI.l (C1.i i)) (DI.k (C1.i i)) 1/\(L9 (RM.D (T6 i)) (T6 i).2 (T6 i).3 1 (DI.b (C1.i i)) (DI.c (C1.i i)) (DI.l (C1.i i)) (DI.k (C1.i i)) 1 [Value.int .u8 (0:Int)] i_3->R (Option.some (Ob.mk true 0
 (a9.raw ts (ApI.D i_3) i_3.5 i_3.6) 0)) (SV.slb 0 i_3.1 i_3.2 (DI.l (C1.i i)+1) i_3.3)))/\((!W9 ((T6 i).3 b0 0))=false->∀(i_3:ApI),appO (RM.D (T6 i)) (T6 i).2 1 1 (DI.b (C1.i i)) (DI.c (C1.i i)) (DI.l (C1.i i)) (DI.k (C1.i i)) 1/\(L9
 (RM.D (T6 i)) (T6 i).2 (T6 i).3 1 (DI.b (C1.i i)) (DI.c (C1.i i)) (DI.l (C1.i i)) (DI.k (C1.i i)) 1 [Value.int .u8 (1:Int)] i_3->(∃(pq:QC),q3P q b0 b c l pq/\(T8/\(True/\i_3.1=DI.b (QC.i pq)/\i_3.2=DI.c (QC.i pq)/\DI.l (C1.i i)+1 =
 DI.l (QC.i pq)/\i_3.3=DI.k (QC.i pq))/\T10/\T10/\0=(T27 pq)/\True)/\True/\(0=0/\0=0/\ts=ts/\i_3.6=(T16 pq).3/\i_3.5=(T16 pq).2/\ApI.D i_3=RM.D (T16 pq))/\True/\T2/\True/\(206=206/\0=0/\4<=4/\∀(i:Nat),i<4
 ->List.getD [(0:Int),(0:Int),(0:Int),(0:Int)] i (0:Int)=pq.4 i)/\True)/\∀(i:QC),q3P q b0 b c l i->(decide ((T3 i)<4)=true->(0<=(T3 i)/\(T3 i)<(4:Int))/\((T7 i).1 b0/\2+Int.toNat (T3 i)*1<(T7 i).2 b0)/\a2Z
 (T14 i)/\(O1 (T14 i)=true->∀(i_4:ApI),appO (RM.D (T7 i)) (T7 i).2 1 1 (T22 i) (DI.c (QC.i i)) (T24 i) (DI.k (QC.i i)) 1/\(L9 (RM.D (T7 i)) (T7 i).2 (T7 i).3 1 (T22 i) (DI.c (QC.i i)) (T24 i) (DI.k (QC.i i)) 1 [Value.int .u8 (0:Int)]
 i_4->∃(pq:QC),q3P q b0 b c l pq/\4-QC.j pq<4-QC.j i/\(T8/\(True/\i_4.1=DI.b (QC.i pq)/\i_4.2=DI.c (QC.i pq)/\DI.l (QC.i i)+1=DI.l (QC.i pq)/\i_4.3=DI.k (QC.i pq))/\T10/\T10/\IntKind.wrap .i64 ((T3 i)+(1:Int))=(T27
 pq)/\True)/\True/\(0=0/\0=0/\ts=ts/\i_4.6=(T16 pq).3/\i_4.5=(T16 pq).2/\ApI.D i_4=RM.D (T16 pq))/\True/\T2/\True/\(206=206/\0=0/\4<=4/\∀(i_5:Nat),i_5<4->i.4 i_5=pq.4 i_5)/\True))/\(O1 (T14 i)=false->∀
 (i_4:ApI),appO (RM.D (T7 i)) (T7 i).2 1 1 (T22 i) (DI.c (QC.i i)) (T24 i) (DI.k (QC.i i)) 1/\(L9 (RM.D (T7 i)) (T7 i).2 (T7 i).3 1 (T22 i) (DI.c (QC.i i)) (T24 i) (DI.k (QC.i i)) 1 [Value.int .u8 (1:Int)] i_4->((0<=(T3 i)/\(T3 i)<4)/\1
 <=4)/\0+Int.toNat (T3 i)*1+1<=4/\∀(i_5:ApI),appO (ApI.D i_4) i_4.5 1 1 i_4.1 i_4.2 (DI.l (QC.i i)+1) i_4.3 4/\(L9 (ApI.D i_4) i_4.5 i_4.6 1 i_4.1 i_4.2 (DI.l (QC.i i)+1) i_4.3 4 [Value.int .u8 (0:Int),Value.int .u8 (0:Int),
 Value.int .u8 (0:Int),Value.int .u8 (0:Int)] i_5->∃(pq:QC),q3P q b0 b c l pq/\4-QC.j pq<4-QC.j i/\(T8/\(True/\i_5.1=DI.b (QC.i pq)/\i_5.2=DI.c (QC.i pq)/\DI.l (QC.i i)+1+4=DI.l (QC.i pq)/\i_5.3=DI.k (QC.i pq))/\T10
 /\T10/\IntKind.wrap .i64 ((T3 i)+1)=(T27 pq)/\True)/\True/\(0=0/\0=0/\ts=ts/\i_5.6=(T16 pq).3/\i_5.5=(T16 pq).2/\ApI.D i_5=RM.D (T16 pq))/\True/\T2/\True/\(206=206/\0=0/\4<=4/\∀(i_6:Nat),i_6<4->upd (QC.g i)
 (T18 i) (↑(DI.l (QC.i i)+1):Int) i_6=pq.4 i_6)/\True))))/\(decide ((T3 i)<4)=false->(∃(pq:QC),q4P q b0 T12 b c l pq/\(T8/\(T17 i pq)/\T10/\T10/\(0:Int)=(T27 pq)/\True)/\True/\(T20 i pq)/\True/\T2/\True/\(T25 i pq)/\
 True)/\∀(i:QC),q4P q b0 T12 b c l i->(decide ((T3 i)<4)=true->(0<=(T3 i)/\(T3 i)<(4:Int))/\((T7 i).1 b0/\2+Int.toNat (T3 i)*1<(T7 i).2 b0)/\a2Z (T14 i)/\((!O1 (T14 i))=true->∀(_:Unit),((0<=(T3 i)/\(T3 i)<4)/\
 1<=4)/\0+Int.toNat (T3 i)*1+1<=4/\((0:Int)<=i.4 (T18 i)/\Int.toNat (i.4 (T18 i))<=DI.l (QC.i i)/\Int.toNat (i.4 (T18 i))<DI.k (QC.i i))/\(((0:Int)<=IntKind.wrap IntKind.u32 (↑(T24 i):Int)/\IntKind.wrap IntKind.u32 (↑(T24 i) :
 Int)<4294967296)/\(4<=DI.l (QC.i i)-Int.toNat (i.4 (T18 i))/\(T7 i).1 (T22 i)/\DI.c (QC.i i)+Int.toNat (i.4 (T18 i))*1+4<=(RM.mk (RM.D (T7 i)) (RM.S (T7 i)) (RM.F (T7 i))).2 (T22 i))/\A1 .u8 ((RM.mk (RM.D (T7 i)) (RM.S (T7 i))
 (RM.F (T7 i))).3 (T22 i) (DI.c (QC.i i)+Int.toNat (i.4 (T18 i))*1+3)))/\true=true/\(True->∀(i_5:DI),(0<=(T3 i)/\(T3 i)<4)/\((T7 i).1 b0/\2+Int.toNat (T3 i)*1<(T5 i).2 b0)/\((midOk a0 a2/\midOk a1 a3)/\0<=(T3 i)/\(T3 i)
 < 4)/\((0=0/\0=ptC (T4 i)/\qmO (T13 i) (ptB (T4 i)) (T23 i) (T22 i) (DI.c (QC.i i)) (T24 i) (DI.k (QC.i i)) H)/\a0J (T4 i))/\true=true/\(qmP (T13 i) (ptB (T4 i)) (T23 i) (T22 i) (DI.c (QC.i i)) (T24 i) i_5->∃(pq:QC),q4P q b0 T12 b c
 l pq/\4-QC.j pq<4-QC.j i/\(T8/\(True/\DI.b i_5=DI.b (QC.i pq)/\DI.c i_5=DI.c (QC.i pq)/\DI.l i_5=DI.l (QC.i pq)/\DI.k i_5=DI.k (QC.i pq))/\T10/\T10/\IntKind.wrap .i64 ((T3 i)+1)=(T27 pq)/\True)/\True/\(0=0/\0=0/\
 ts=ts/\(DI.q i_5).3=(T16 pq).3/\(DI.q i_5).2=(T16 pq).2/\RM.D (DI.q i_5)=RM.D (T16 pq))/\True/\T2/\True/\(206=206/\0=0/\4<=4/\∀(i_6:Nat),i_6<4->i.4 i_6=pq.4 i_6)/\True)))/\((!O1 (T14 i))=false->∃(pq:QC),q4P
 q b0 T12 b c l pq/\4-QC.j pq<4-QC.j i/\(T8/\(T17 i pq)/\T10/\T10/\IntKind.wrap .i64 ((T3 i)+1)=(T27 pq)/\True)/\True/\(T20 i pq)/\True/\T2/\True/\(T25 i pq)/\True))/\(decide ((T3 i)<4)=false->R (Option.some (Ob.mk true 0
 (a9.raw ts (RM.D (T7 i)) (T7 i).2 (T7 i).3) 0)) (SV.slb 0 (T22 i) (DI.c (QC.i i)) (T24 i) (DI.k (QC.i i)))))))))))):=by subst t1 t2 t3 t4 t5 t6 t7 t8 t9 t10 t11 t12 t13 t14 t15 t16 t17 t18 t19 t20 t21 t22 t23 t24 t25 t26 t27 t28;kernel_rfl
theorem d0E(H:Nat)(ih:u6 Tryz.prog 118 (l9 DI ⟨default⟩ (a6z H))):u6 Tryz.prog 118 (l9 (DI) ⟨default⟩ (c3p (H+1))):=by
 refine A7 (x12 H ih) Tryz.func118 rfl (by kernel_rfl) λargs=>?_
 unfold c3p;split
 ·rename_i n b0 c0 n1 b c l kk a0 a1 a2 a3;intro o0;try dsimp only
  split
  ·rename_i ts q hm0;intro ho;replace ho:n=n1/\0=c0/\(qmO q b0 ⟨a0,a1,a2,a3⟩ b c l kk (H+1)):=ho;obtain⟨heq0,heq1,ho⟩:=ho;subst heq0;subst heq1;refine⟨?_,Nat.succ_pos _,ts,λ(i:DI)=>i.q,λ(i:DI)=>.slb 0 i.b i.c i.l i.k,λ_=>rfl,?_,_,_,(c0H (G6 1 ts (λ(i:DI)=>qmP q b0 ⟨a0,a1,a2,a3⟩ b c l i) (λ(i:DI)=>i.q) (λ(i:DI)=>.slb 0 i.b i.c i.l i.k)) H ts q b0 b c l kk a0 a1 a2 a3 rfl rfl rfl rfl rfl rfl rfl rfl rfl rfl rfl rfl rfl rfl rfl rfl rfl rfl rfl rfl rfl rfl rfl rfl rfl rfl rfl rfl).mpr ?_⟩
   ·refine g9 rfl ⟨λ_=>rfl,?_,⟨trivial,z9 hm0,trivial⟩⟩;simp[j9,o8,r8,o9,p7,nth,a8]
   ·intro i _;rfl
   ·obtain⟨hO,R,m,d,k,hA,hbd,hdK,hd16,hQB⟩:=ho;obtain⟨s1,s2,s3,s4,s5,s6⟩:=hA.sl;have hL:slL (q.F b0 1)=qnL q b0:=rfl
    have hw32:∀ v:Nat,v<=100000000->IntKind.wrap .u32 ((v:Nat):Int)=((v:Nat):Int):=λv hv=>by
     show ((v:Nat):Int) % 4294967296=_;omega
    have hI:∀ t,m8 (q.F (slB (q.F b0 1)) (slC (q.F b0 1)+t))=qit q b0 t:=λ_=>rfl
    simp only[true_and,and_true,eq_self,Int.toNat_natCast,Nat.mul_one,decide_eq_true_eq,decide_eq_false_iff_not,true_implies];simp only[hL,hw32 _ (show qnL q b0<=100000000 by omega),hI];refine⟨⟨s5,by omega⟩,s1,⟨(0,nbI (qnL q b0:Nat)),⟨Nat.zero_le _,b1r _,Int.le_refl _,λt ht=>absurd ht (Nat.not_lt_zero t)⟩,rfl,rfl⟩,?_⟩;rintro⟨j,w⟩ ⟨p1,p2,p3,p4⟩;dsimp only at p1 p2 p3 p4 ⊢;refine⟨⟨s5,by omega⟩,s1,λhlt=>?_,λhge=>?_⟩
    ·obtain⟨i1,i2,i3,i4,i5⟩:=hA.item (apd.refl hO) (t:=j) (by omega);have hwj:IntKind.i64.wrap ((j:Int)+1)=((j+1:Nat):Int):=by rw[j5 (by omega) (by omega)];rfl
     refine⟨⟨s5,by omega⟩,⟨i1,by omega,by omega⟩,⟨i2.1,i2.2,by rw[i3];rfl⟩,λhw=>⟨(j+1,nbI (qit q b0 j)),⟨by show j+1<=_;omega,b1r _,by show _<=nbI (qit q b0 j);omega,λt ht=>?_⟩,by show qnL q b0-(j+1)<qnL q b0-j;omega,rfl,hwj⟩,λhw=>⟨(j+1,w),⟨by show j+1<=_;omega,p2,p3,λt ht=>?_⟩,by show qnL q b0-(j+1)<qnL q b0-j;omega,rfl,hwj⟩⟩
     ·show nbI (qit q b0 t)<=nbI (qit q b0 j);have ht:t<j+1:=ht;rcases Nat.lt_or_ge t j with c1|c1
      ·have:=p4 t c1;omega
      ·have:t=j:=by omega
       subst this;exact Int.le_refl _
     ·show nbI (qit q b0 t)<=w;have ht:t<j+1:=ht;rcases Nat.lt_or_ge t j with c1|c1
      ·exact p4 t c1
      ·have:t=j:=by omega
       subst this;omega
    have hj:j=qnL q b0:=by omega
    subst hj;have hq1:q1P q b0 (qnL q b0,w):=⟨Nat.le_refl _,p2,p3,p4⟩;have hl8:l<=100000000:=by omega
    obtain⟨wn,hwn,hw4,hw1⟩:=p2.nat;refine λi=>⟨I3 hO (by omega) (by omega),λhp=>?_⟩
    have a1:=H2 hO (us:=[w]) rfl (by intro x hx;simp at hx;subst hx;exact p2.r) rfl hp;obtain⟨⟨b1,b2⟩,b3⟩:=hA.off a1;dsimp only at b1 b2 b3;simp only[b3,hL,hw32 _ (show qnL q b0<=100000000 by omega)];refine⟨⟨b1,by omega⟩,s1,λi2=>⟨⟨⟨a1.o,by omega⟩,⟨by omega,by omega⟩,p2⟩,λhp2=>?_⟩⟩;have a2:=a1.trans hp2;refine⟨⟨⟨i2,0,w⟩,⟨?_,hq1,Nat.zero_le _⟩,⟨⟨rfl,rfl,rfl,rfl⟩,rfl,rfl⟩,rfl,rfl,rfl⟩,?_⟩
    ·have:qhI q b0 w 0=[w]++byL (qnL q b0:Nat) w.toNat:=by simp[qhI]
     show apd q b c l (qhI q b0 w 0) i2;rw[this];exact a2
    clear a1 a2 b1 b2 b3 hp hp2 hge;rintro⟨i3,j,w2⟩ ⟨g1,g2,g3⟩;dsimp only at g1 g2 g3 ⊢;obtain⟨⟨b1,b2⟩,b3⟩:=hA.off g1;obtain⟨wn2,rfl,hw24,hw21⟩:=g2.2.1.nat;have hlen:=g1.n;rw[M0]at hlen;have hm:=a5f (n:=j) hw24
    have hqb:26+4*qnL q b0<=qBy d k.its.length:=by
     obtain⟨sp,v,E,ks,_,_,_,e4,_⟩:=hA.its;obtain⟨_,_,_,_,f1,_,_,f4,_⟩:=hA.node;have:qnL q b0<=k.its.length:=by unfold qnL;rw[f1.s1,f1.u.n];exact f4
     have h2:26*1<=26*(1+d*k.its.length):=Nat.mul_le_mul_left _ (by omega);unfold qBy;omega
    simp only[b3,hL];refine⟨⟨b1,by omega⟩,s1,λhlt=>?_,λhge=>?_⟩
    ·obtain⟨i1,i2',i3',i4,i5⟩:=hA.item g1 (t:=j) (by omega);have hwj:IntKind.i64.wrap ((j:Int)+1)=((j+1:Nat):Int):=by rw[j5 (by omega) (by omega)];rfl
     simp only[i3',m8];refine⟨⟨b1,by omega⟩,⟨i1,by omega,by omega⟩,⟨i2'.1,i2'.2,rfl⟩,λi6=>⟨⟨⟨g1.o,by omega⟩,⟨i4,i5⟩,g2.2.1⟩,λhp=>⟨⟨i6,j+1,(wn2:Int)⟩,⟨?_,g2,by show j+1<=_;omega⟩,by show qnL q b0-(j+1)<qnL q b0-j;omega,⟨⟨rfl,rfl,rfl,rfl⟩,rfl,hwj⟩,rfl,rfl,rfl⟩⟩⟩;show apd q b c l (qhI q b0 (wn2:Int) (j+1)) i6;rw[b6G];exact g1.trans hp
    have hj:j=qnL q b0:=by omega
    subst hj;refine⟨⟨b1,by omega,s2⟩,λhs=>λi4=>⟨I3 g1.o (by omega) (by omega),λhp=>?_⟩,λhs=>λi4=>⟨I3 g1.o (by omega) (by omega),λhp=>?_⟩⟩
    ·have a1:=g1.trans (H2 g1.o (us:=[0]) rfl (by decide) rfl hp);have hs':W9 (q.F b0 0)=false:=by simpa using hs
     exact⟨⟨⟨i4.D,i4.S,i4.F⟩,i4.b,i4.c,i3.l+1,i4.k⟩,λR' m' d' k' hA' hbd'=>c5x hA' hs' a1 g2,rfl,⟨trivial,rfl,rfl,rfl,rfl⟩⟩
    have hs':W9 (q.F b0 0)=true:=by simpa using hs
    have a1:=g1.trans (H2 g1.o (us:=[1]) rfl (by decide) rfl hp);rw[<-a5M]at a1;refine⟨⟨⟨⟨⟨i4.D,i4.S,i4.F⟩,i4.b,i4.c,i3.l+1,i4.k⟩,0,(wn2:Int),λ_=>0⟩,⟨hs',a1,g2,Nat.zero_le _,λt ht=>absurd ht (Nat.not_lt_zero t)⟩,⟨⟨rfl,rfl,rfl,rfl⟩,rfl⟩,⟨rfl,rfl,rfl⟩,Nat.le_refl _,λt ht=>?_⟩,?_⟩
    ·match t,ht with
     | 0,_=>rfl
     | 1,_=>rfl
     | 2,_=>rfl
     | 3,_=>rfl
    clear a1 hp b1 b2 b3 g1 hlen hm;obtain⟨e,rfl⟩:=hA.pos hs';rintro⟨i5,j,w3,gm⟩ ⟨_,g1,g3,g4,g5⟩;dsimp only at g1 g3 g4 g5 ⊢;obtain⟨⟨b1,b2⟩,b3⟩:=hA.off g1;have hF4:=b9J (w:=w3) hA hs' g3.2.1;have hFj:=Z1 (q:=q) (b0:=b0) w3 g4;have hlen:=g1.n;have hN:∀ t,O1 (q.F b0 (2+t))=a4j q b0 t:=λ_=>rfl
    simp only[b3,hN];refine⟨λhlt=>?_,λhge=>?_⟩
    ·have hwj:IntKind.i64.wrap ((j:Int)+1)=((j+1:Nat):Int):=by rw[j5 (by omega) (by omega)];rfl
     refine⟨⟨by omega,by omega⟩,⟨b1,by omega⟩,s4 j (by omega),λhn i6=>⟨I3 g1.o (by omega) (by omega),λhp=>?_⟩,λhn i6=>⟨I3 g1.o (by omega) (by omega),λhp=>⟨⟨⟨by omega,by omega⟩,by omega⟩,by omega,λi7=>⟨?_,λhp2=>?_⟩⟩⟩⟩
     ·have a1:=g1.trans (H2 g1.o (us:=[0]) rfl (by decide) rfl hp);refine⟨⟨⟨⟨i6.D,i6.S,i6.F⟩,i6.b,i6.c,i5.l+1,i6.k⟩,j+1,w3,gm⟩,⟨hs',?_,g3,by show j+1<=4;omega,λt ht ht2=>?_⟩,by show 4-(j+1)<4-j;omega,⟨⟨rfl,rfl,rfl,rfl⟩,hwj⟩,⟨rfl,rfl,rfl⟩,Nat.le_refl _,λ_ _=>rfl⟩
      ·show apd q b c l (qhF q b0 w3 (j+1)) _;rw[U2,show qfl q b0 j=[0]from if_pos hn];exact a1
      ·have ht:t<j+1:=ht;by_cases c1:t=j
       ·subst c1;rw[hn]at ht2;exact absurd ht2 (by decide)
       ·exact g5 t (by omega) ht2
     ·have a1:=H2 g1.o (us:=[1]) rfl (by decide) rfl hp;exact I3 a1.o (by show i5.l+1<=1000000000;omega) (by omega)
     ·have a1:=H2 g1.o (us:=[1]) rfl (by decide) rfl hp;have a2:=(g1.trans a1).trans (H2 a1.o (us:=[0,0,0,0]) rfl (by decide) rfl hp2);refine⟨⟨⟨⟨i7.D,i7.S,i7.F⟩,i7.b,i7.c,i5.l+1+4,i7.k⟩,j+1,w3,upd gm (0+j) ((i5.l+1:Nat):Int)⟩,⟨hs',?_,g3,by show j+1<=4;omega,λt ht ht2=>?_⟩,by show 4-(j+1)<4-j;omega,⟨⟨rfl,rfl,rfl,rfl⟩,hwj⟩,⟨rfl,rfl,rfl⟩,Nat.le_refl _,λ_ _=>rfl⟩
      ·show apd q b c l (qhF q b0 w3 (j+1)) _;rw[U2,show qfl q b0 j=[1]++[0,0,0,0]from if_neg (by rw[hn];decide),<-List.append_assoc];exact a2
      ·have ht:t<j+1:=ht;show upd gm (0+j) ((i5.l+1:Nat):Int) t=_;rw[Nat.zero_add];by_cases c1:t=j
       ·subst c1;unfold upd;simp;omega
       ·have:=g5 t (by omega) ht2;unfold upd;simp[c1];rw[this];rfl
    have hj:j=4:=by omega
    subst hj;refine⟨⟨⟨i5,0,w3,gm⟩,⟨hs',g3,Nat.zero_le _,g5,λR' m' d' k' hA' hbd'=>b7c (p:=⟨i5,4,w3,gm⟩) hA' hs' g1 g3.2.1 rfl rfl rfl⟩,⟨⟨rfl,rfl,rfl,rfl⟩,rfl⟩,⟨rfl,rfl,rfl⟩,Nat.le_refl _,λ_ _=>rfl⟩,?_⟩;clear b1 b2 b3 g1 hlen hge hFj hF4 g5 g4;rintro⟨i8,j,w4,gm4⟩ ⟨_,h1,h2,h3,h4⟩;dsimp only at h1 h2 h3 h4 ⊢;have hK:=h4 R m e k hA hbd;obtain⟨us,_,_,_,u1,_⟩:=id hK;obtain⟨⟨b1,b2⟩,b3⟩:=hA.off u1;dsimp only at b1 b2 b3;simp only[b3,hN];refine⟨λhlt=>⟨⟨by omega,by omega⟩,⟨b1,by omega⟩,s4 j (by omega),λhn=>?_,λhn=>?_⟩,λhge=>?_⟩
    ·have hn':a4j q b0 j=false:=by simpa using hn
     have hjl:j<4:=by omega
     have hwj:IntKind.i64.wrap ((j:Int)+1)=((j+1:Nat):Int):=by rw[j5 (by omega) (by omega)];rfl
     obtain⟨x,x1,x2,x3,x4,x5,x6,x7,x8⟩:=b3X hA hbd h1.2.1 hK hjl hn';have hgm:=h3 j hjl hn';dsimp only at x1 x2 x3 x4 x5 x6 x7 x8;rw[Nat.add_assoc]at hgm;have hgm0:gm4 (0+j)=((l+((qhF q b0 w4 j).length+1):Nat):Int):=by rw[Nat.zero_add];exact hgm
     clear hgm;generalize hM:l+((qhF q b0 w4 j).length+1)=M at *;have hl8':=hw32 i8.l (by omega)
     have hby:A1 .u8 (i8.q.F i8.b (i8.c+M+3)):=by
      have:=(x4.is (M+3) (by omega)).i
      rwa [<-Nat.add_assoc]at this
     have hbne:b0≠i8.b:=λe1=>by
      rcases u1.nw with e2|e2
      ·exact hA.bne (e1.trans e2)
      ·exact e2 (e1▸s5)
     have hpt:pB (pB (pB (pB i8.q.F i8.b (i8.c+M) (i8.l:Nat) 0) i8.b (i8.c+M) (i8.l:Nat) 1) i8.b (i8.c+M) (i8.l:Nat) 2) i8.b (i8.c+M) (i8.l:Nat) 3 b0 (2+j)=.pointer (some ⟨x.b,0,none⟩):=by
      unfold pB;rw[b8 (.inl hbne),b8 (.inl hbne),b8 (.inl hbne),b8 (.inl hbne),b3];exact x1
     have x4S:=x4.S;have x4k:=x4.le;simp only[hgm0,Int.toNat_natCast,hl8',hpt,ptC,ptB];refine λ_=>⟨⟨⟨by omega,by omega⟩,by omega⟩,by omega,⟨by omega,by omega,by omega⟩,⟨⟨by omega,by omega⟩,⟨by omega,x4.D,by omega⟩,hby⟩,λi9=>⟨⟨by omega,by omega⟩,⟨b1,by show 2+j<i8.q.S b0;omega⟩,⟨hQB.midOk (by omega),by omega,by omega⟩,⟨⟨trivial,?_⟩,rfl⟩,λhP=>⟨⟨i9,j+1,w4,gm4⟩,⟨hs',h1,by show j+1<=4;omega,h3,λR' m' d' k' hA' hbd'=>?_⟩,by show 4-(j+1)<4-j;omega,⟨⟨rfl,rfl,rfl,rfl⟩,hwj⟩,⟨rfl,rfl,rfl⟩,Nat.le_refl _,λ_ _=>rfl⟩⟩⟩
     ·exact⟨x5,R,m,e,x,x6,x7,by omega,by omega,hQB.sub (by omega) _⟩
     ·obtain⟨y,y1,_,_,_,_,_,_,y8⟩:=b3X hA' hbd' h1.2.1 (h4 R' m' d' k' hA' hbd') hjl hn';dsimp only at y1 y8;rw[x1]at y1;have hxy:x.b=y.b:=by simpa using y1
      rw[hM,<-hxy]at y8;exact y8 i9 hP
    ·have hn':a4j q b0 j=true:=by simpa using hn
     have hwj:IntKind.i64.wrap ((j:Int)+1)=((j+1:Nat):Int):=by rw[j5 (by omega) (by omega)];rfl
     exact⟨⟨i8,j+1,w4,gm4⟩,⟨hs',h1,by show j+1<=4;omega,h3,λR' m' d' k' hA' hbd'=>c0U (h4 R' m' d' k' hA' hbd') (by show j<4;omega) hn' rfl rfl rfl⟩,by show 4-(j+1)<4-j;omega,⟨⟨rfl,rfl,rfl,rfl⟩,hwj⟩,⟨rfl,rfl,rfl⟩,Nat.le_refl _,λ_ _=>rfl⟩
    ·refine⟨i8,λR' m' d' k' hA' hbd'=>?_,rfl,⟨trivial,rfl,rfl,rfl,rfl⟩⟩;obtain⟨e',rfl⟩:=hA'.pos hs';exact c5I hA' h1 (h4 R' m' e' k' hA' hbd') (by show 4<=j;omega)
  ·trivial
 ·trivial
theorem b5L:u6 Tryz.prog 118 (l9 DI ⟨default⟩ (a6z 0)):=by
 refine a1H x0 Tryz.func118 rfl (by kernel_rfl) λargs=>?_
 unfold a6z;split
 ·rename_i n b0 c0 n1 b c l kk a0 a1 a2 a3;intro o0;try dsimp only
  split
  ·intro ho;exfalso;obtain⟨_,_,_,R,m,d,k,_,_,h,_⟩:=ho;omega
  ·trivial
 ·trivial
theorem b4l:∀ H,u6 Tryz.prog 118 (l9 DI ⟨default⟩ (a6z H))
 | 0=>b5L
 | H+1=>d0E H (b4l H)
def W22(x:Nat):Prop:=FI x (wh x)/\(wh x).natAbs<=2 ^ 22
def FL2(g:Nat->Nat)(m:Nat):Prop:=∀ j,j<m->W22 (g j)
theorem c7q{a b c d e f:Nat}(ha:W22 a)(hb:W22 b)(hc:W22 c)(hd:W22 d)(he:W22 e)(hf:W22 f):PW a b c d e f :=
 ⟨ha.1,hb.1,hc.1,hd.1,he.1,hf.1,ha.2,hb.2,hc.2,hd.2,he.2,hf.2⟩
theorem W1.w22{x:Nat}(h:W1 x):W22 x:=⟨h.1,h.abs⟩
noncomputable def b1q:List SV->RdM
 | [.ptr s 0]=>.read s λo0=>(match a3r o0.c with
  | some (cl,cw,cv,k,x,y,z,w,p,n)=>.read p λo1=>(match r7 .f64 o1.c with
  | some (m1,g)=>.ret ⟨[.ptr 0 0],[(0,⟨false,150,a0G cl cw cv k x y z w 1 n,0⟩),(1,⟨false,100, .flts .f64 m1 g,0⟩)], .int .i64 (nsg cl n (wz g)),[],[],some (m1=2*n/\n<=1000000/\FL2 g (2*n))⟩
  | none=>.fail)
  | none=>.fail)
 | _=>.fail
theorem b7a(cl cw cv:Bool)(k:Int)(x y z w:Nat)(_:Nm)(n:Nat)(g:Nat->Nat){w9:HC}(e9:w9=⟨[.ptr 0 0],[(0,⟨false,150,a0G cl cw cv k x y z w 1 n,0⟩),(1,⟨false,100, .flts .f64 (2*n) g,0⟩)], .int .i64 (nsg cl n (wz g)),[],[],some (2*n=2*n/\n<=1000000/\FL2 g (2*n))⟩){T1}(t1:T1=(fEq .f64 (g (0 +
 Int.toNat (IntKind.wrap .i64 ((↑n:Int)-1))*2)) (g 0)&&(fEq .f64 (g (0+Int.toNat (IntKind.wrap .i64 ((↑n:Int)-1))*2+1)) (g 1)&&true))){T2}(t2:T2=(↑n:Int)){T3}(t3:T3=(↑(nsg cl n (wz g)):Int)):z7 GPF 2 [] [] (j3 Tryz.f111) (q9 Tryz.f111.ntmps w9.args w9.heap 2) (r6 GPF.E.T Tryz.f111.results.toList λS v=>w0 2 w9 S v)=(
 (cl=true->(decide (T2<3)=true->0=T3/\True)/\(decide (T2<3)=false->(((0:Int)<=IntKind.wrap .i64 (T2-1)/\IntKind.wrap .i64 (T2-1)<T2)/\1<=2*n)/\0+Int.toNat (IntKind.wrap .i64 (T2-1))*2+2<=2*n/\(((0:Int)<=0
 /\0<T2)/\1<=2*n)/\2<=2*n/\true=true/\(T1=true->IntKind.wrap .i64 (T2-1)=T3/\True)/\(T1=false->T2=T3/\True)))/\(cl=false->(decide (T2<2)=true->0=T3/\True)/\(decide (T2<(2:Int))=false->IntKind.wrap .i64
 (T2-1)=T3/\True))):=by subst e9 t1 t2 t3;kernel_rfl
theorem c8L:q7 Tryz.prog 111 (p9 b1q):=by
 refine j8 gPF Tryz.func111 rfl (by kernel_rfl) λargs=>?_
 unfold b1q;split
 ·rename_i s;intro o0;try dsimp only
  split
  ·rename_i cl cw cv k x y z w p n hm0;intro o1;try dsimp only
   split
   ·rename_i m1 g hm1;intro ho;replace ho:m1=2*n/\n<=1000000/\FL2 g (2*n):=ho;obtain⟨hsz1,ho⟩:=ho;subst hsz1;refine⟨?_,_,_,(b7a cl cw cv k x y z w p n g rfl rfl rfl rfl).mpr ?_⟩
    ·refine g9 rfl ⟨?_,⟨trivial,O6 hm0 a8,⟨trivial,(r9 hm1).1,trivial⟩⟩⟩;simp[j9,o8,o9,p7,nth,a8]
    ·obtain⟨hn,hg⟩:=ho;have hw:IntKind.i64.wrap ((n:Int)-1)=n-1:=j5 (by omega) (by omega);rw[hw];refine⟨λhc=>⟨λh=>?_,λh=>?_⟩,λhc=>⟨λh=>?_,λh=>?_⟩⟩
     ·have h:=of_decide_eq_true h;refine⟨?_,trivial⟩;unfold nsg;rw[if_pos hc,if_pos (by omega)];rfl
     ·have h:=of_decide_eq_false h;have e:0+((n:Int)-1).toNat*2=2*(n-1):=by omega
      rw[e];have e1:fEq .f64 (g (2*(n-1))) (g 0)=decide (wz g (2*(n-1))=wz g 0):=E5 (hg _ (by omega)).1 (hg _ (by omega)).1;have e2:fEq .f64 (g (2*(n-1)+1)) (g 1)=decide (wz g (2*(n-1)+1)=wz g 1):=E5 (hg _ (by omega)).1 (hg _ (by omega)).1;rw[e1,e2];refine⟨by omega,by omega,by omega,by omega,rfl,λh1=>⟨?_,trivial⟩,λh1=>⟨?_,trivial⟩⟩
      ·unfold nsg;rw[if_pos hc,if_neg (by omega),if_pos (by simpa using h1)];omega
      ·unfold nsg;rw[if_pos hc,if_neg (by omega),if_neg (by simpa using h1)]
     ·have h:=of_decide_eq_true h;refine⟨?_,trivial⟩;unfold nsg;rw[if_neg (by simp[hc])];omega
     ·have h:=of_decide_eq_false h;refine⟨?_,trivial⟩;unfold nsg;rw[if_neg (by simp[hc])];omega
   ·trivial
  ·trivial
 ·trivial
structure BI where
 q:RM
 b:Nat
 j:Nat
def biT:List Nat:=[180,191,177,208,210,178,188,183,185,98,5,200]
noncomputable def c9w(g:Nat->Nat)(n i:Nat):Bx:=⟨zI (.float .f64 (rcF g n i).x0),zI (.float .f64 (rcF g n i).y0),zI (.float .f64 (rcF g n i).x1),zI (.float .f64 (rcF g n i).y1)⟩
noncomputable def a6v(g:Nat->Nat)(n j:Nat):List (Int×Bx):=(List.range j).map λ(i:Nat)=>(((i:Nat):Int),c9w g n i)
def b0j(g:Nat->Nat)(n m:Nat)(p:BI):Prop:=p.j<=m/\∃ fp,isRT p.q p.b 0 fp (a6v g n p.j)
def b0g(g:Nat->Nat)(n m:Nat)(Q:Q4)(p:BI):Prop:=p.j<=m/\∃ k,qiA p.q g n p.b Q 16 k/\k.its.Perm (List.range p.j)
def c5z(m:Nat)(k:Int)(n:Nat)(g:Nat->Nat)(Q:Q4)(r:Nat×(Nat->Int)):Prop :=
 (5<=r.1/\r.1<=2000000)/\r.2 0=k/\leN r.2 1 4=(r.1:Int)/\
 (k=1->(m=0->r.1=5)/\(m≠0->∃ h its B,its.Perm (a6v g n m)/\h<=100/\r.2 5=((h:Nat):Int)/\6<=r.1/\a0E r.2 h 6 r.1 its B))/\
 (k=2->∃ its,its.Perm (List.range m)/\a8H r.2 (rcF g n) n 16 5 r.1 Q its)
def b7t(m:Nat)(k:Int)(n:Nat)(g:Nat->Nat)(Q:Q4):Prop :=
 (k=1∨k=2)/\n<=100/\FL2 g (2*n)/\(k=2->QB 16 Q/\∀ i,i<m->a1u (rcF g n) n Q i)
theorem b9M(cl:Bool)(n:Nat)(z:Nat->Int):nsg cl n z<=n:=by
 unfold nsg
 repeat' split
 all_goals omega
theorem c5g{n i:Nat}(h:i<n):nx n i<n:=by
 unfold nx;split <;> omega
theorem b3M{x y:Nat}(hx:W22 x)(hy:W22 y):W22 (C0 x y):=by unfold C0;split <;> assumption
theorem b3U{x y:Nat}(hx:W22 x)(hy:W22 y):W22 (B8 x y):=by unfold B8;split <;> assumption
theorem W22.fz{x:Nat}(h:W22 x):fz (.float .f64 x) (wh x):=⟨rfl,h.1,h.2⟩
theorem c3q{g:Nat->Nat}{n i:Nat}(h:FL2 g (2*n))(hi:i<n):W22 (rcF g n i).x0/\W22 (rcF g n i).y0/\W22 (rcF g n i).x1/\W22 (rcF g n i).y1:=by
 have h1:=c5g hi;exact⟨b3M (h _ (by omega)) (h _ (by omega)),b3M (h _ (by omega)) (h _ (by omega)),b3U (h _ (by omega)) (h _ (by omega)),b3U (h _ (by omega)) (h _ (by omega))⟩
theorem b6f(g:Nat->Nat)(n j:Nat):a6v g n (j+1)=a6v g n j++[((j:Int),c9w g n j)]:=by
 unfold a6v;rw[List.range_succ,List.map_append];rfl
theorem a3w(g:Nat->Nat)(n j:Nat):(a6v g n j).length=j:=by simp[a6v]
def nwB(q:RM)(a s:Nat)(f:Nat->Value):RM:=⟨I2 q.D a,A8 q.S a s,A3 q.F a f⟩
theorem a4W{q:RM}{a s:Nat}{f:Nat->Value}(ha:¬q.D a):∀ c,q.D c->(nwB q a s f).D c/\(nwB q a s f).S c=q.S c/\∀ k,(nwB q a s f).F c k=q.F c k:=λc hc=>by
 have hne:c≠a:=λe=>ha (e▸hc)
 exact⟨.inr hc,by simp only[nwB,A8];rw[if_neg hne],λk=>by simp only[nwB,A3];rw[if_neg hne]⟩
theorem a4R(q:RM)(a s:Nat)(f:Nat->Value):(nwB q a s f).D a/\(nwB q a s f).S a=s/\∀ k,(nwB q a s f).F a k=f k:=⟨.inl rfl,by simp[nwB,A8],λk=>by simp[nwB,A3]⟩
theorem b8a(g:Nat->Nat)(n m:Nat){a:Nat}{q:RM}(hD:q.D a)(hS:q.S a=8)(hF:∀ k,q.F a k=rz tys 180 k):b0j g n m ⟨q,a,0⟩:=by
 refine⟨Nat.zero_le _,[], .inl ⟨rfl,rfl,hD,by show 0+8<=q.S a;omega,?_,?_,?_⟩⟩
 ·show q.F a 0=_;rw[hF];rfl
 ·show q.F a (0+1)=_;rw[hF];rfl
 ·show q.F a (0+6)=_;rw[hF];rfl
theorem b6j{g:Nat->Nat}{n m:Nat}{p:BI}(h:b0j g n m p)(hj:p.j<m)(hm:m<=n)(hn:n<=100)(hg:FL2 g (2*n)){a c:Nat}(ha:¬p.q.D a)(hc:¬(c=a∨p.q.D c)){f1 f2:Nat->Value}
  (e1:f1 0=.float .f64 (rcF g n p.j).x0) (e2:f1 1=.float .f64 (rcF g n p.j).y0) (e3:f2 0=.float .f64 (rcF g n p.j).x1) (e4:f2 1=.float .f64 (rcF g n p.j).y1) :
  inO (nwB (nwB p.q a 2 f1) c 2 f2) p.b 0 a 0 2 c 0 2/\∀ q',inP (nwB (nwB p.q a 2 f1) c 2 f2) p.b 0 a 0 c 0 (p.j:Int) q'->b0j g n m ⟨q',p.b,p.j+1⟩:=by
 obtain⟨_,fp,ht⟩:=h;obtain⟨w1,w2,w3,w4⟩:=c3q hg (by omega:p.j<n);have hc':¬(nwB p.q a 2 f1).D c:=λhh=>hc (hh.elim (λe=>.inl e) .inr)
 have o1:=a4W (s:=2) (f:=f1) ha;have n1:=a4R p.q a 2 f1;have o2:=a4W (s:=2) (f:=f2) hc';have n2:=a4R (nwB p.q a 2 f1) c 2 f2;have n1':=o2 a n1.1;have f10:(nwB (nwB p.q a 2 f1) c 2 f2).F a 0=.float .f64 (rcF g n p.j).x0:=by rw[n1'.2.2,n1.2.2,e1]
 have f11:(nwB (nwB p.q a 2 f1) c 2 f2).F a (0+1)=.float .f64 (rcF g n p.j).y0:=by rw[n1'.2.2,n1.2.2];exact e2
 have f20:(nwB (nwB p.q a 2 f1) c 2 f2).F c 0=.float .f64 (rcF g n p.j).x1:=by rw[n2.2.2,e3]
 have f21:(nwB (nwB p.q a 2 f1) c 2 f2).F c (0+1)=.float .f64 (rcF g n p.j).y1:=by rw[n2.2.2];exact e4
 have ht2:isRT (nwB (nwB p.q a 2 f1) c 2 f2) p.b 0 fp (a6v g n p.j):=(ht.same o1).same o2;refine⟨⟨⟨rfl,rfl⟩,a2F.mk' n1'.1 (by rw[n1'.2.1,n1.2.1];omega) (by rw[f10];exact w1.fz) (by rw[f11];exact w2.fz),a2F.mk' n2.1 (by rw[n2.2.1];omega) (by rw[f20];exact w3.fz) (by rw[f21];exact w4.fz),fp,_,ht2,by rw[a3w];omega⟩,λq' hP=>?_⟩;obtain⟨fp',h'⟩:=hP fp _ ht2 (by rw[a3w];omega);refine⟨by show p.j+1<=m;omega,fp',?_⟩;rw[f10,f11,f20,f21]at h';show isRT q' p.b 0 fp' (a6v g n (p.j+1));rw[b6f];exact h'
def b5(k:Int):Nat->Value:=λj=>[Value.int .u8 k, .int .u8 0, .int .u8 0, .int .u8 0, .int .u8 0].getD j (.bool false)
theorem b6x{q:RM}{a:Nat}{k:Int}(hk:0<=k/\k<256):byO (nwB q a 5 (b5 k)) a 0 5 5:=by
 have n1:=a4R q a 5 (b5 k);refine⟨n1.1,Nat.le_refl _,by rw[n1.2.1];omega,λj hj=>?_⟩;rw[n1.2.2]
 match j,hj with
 | 0,_=>exact E7.mk' hk
 | 1,_=>exact E7.mk' (by decide)
 | 2,_=>exact E7.mk' (by decide)
 | 3,_=>exact E7.mk' (by decide)
 | 4,_=>exact E7.mk' (by decide)
theorem b8c{q:RM}{a:Nat}{k:Int}{us:List Int}{i:DI}(hp:apd (nwB q a 5 (b5 k)) a 0 5 us i)(hl:i.l<=2000000):byG (p4R i.q i.b (i.c+1) (i.l:Nat)) i.b i.c 0=k/\leN (byG (p4R i.q i.b (i.c+1) (i.l:Nat)) i.b i.c) 1 4=(i.l:Int)/\
  ∀ p,5<=p->byG (p4R i.q i.b (i.c+1) (i.l:Nat)) i.b i.c p=bG i p:=by
 have off:∀ y,(y<i.c+1∨i.c+1+4<=y)->(p4R i.q i.b (i.c+1) (i.l:Nat)).F i.b y=i.q.F i.b y:=λy hxy=>by
  show pB _ _ _ _ _ i.b y=_;unfold pB;rw[b8 (by omega),b8 (by omega),b8 (by omega),b8 (by omega)]
 have at4:∀ j,j<4->(p4R i.q i.b (i.c+1) (i.l:Nat)).F i.b (i.c+1+j)=.int .u8 (byI (i.l:Nat) j):=λj hj=>by
  show pB _ _ _ _ _ i.b _=_;unfold pB
  match j,hj with
  | 0,_=>rw[b8 (by omega),b8 (by omega),b8 (by omega)];exact v9
  | 1,_=>rw[b8 (by omega),b8 (by omega)];exact v9
  | 2,_=>rw[b8 (by omega)];exact v9
  | 3,_=>exact v9
 refine⟨?_,b0z (λj hj=>?_) (by omega) (by omega),λp hp5=>?_⟩
 ·unfold byG;rw[off _ (by omega),hp.old 0 (by omega),(a4R q a 5 (b5 k)).2.2];rfl
 ·unfold byG;rw[<-Nat.add_assoc,at4 j hj];rfl
 ·unfold byG bG;rw[off _ (by omega)]
theorem c1h{g:Nat->Nat}{n m:Nat}{Q:Q4}{p:BI}(h:b0j g n m p)(hj:p.j=m)(hm:m<=n)(hn:n<=100){a:Nat}(ha:¬p.q.D a) :
  (∃ fp its,a2C (nwB p.q a 5 (b5 1)) p.b 0 a 5 fp its)/\∀ i,a3R (nwB p.q a 5 (b5 1)) p.b 0 a 0 5 i->(byO i.q i.b i.c i.l i.k/\5<=i.l/\i.l<=2000000)/\c5z m 1 n g Q (i.l,byG (p4R i.q i.b (i.c+1) (i.l:Nat)) i.b i.c):=by
 obtain⟨_,fp,ht⟩:=h;have o1:=a4W (s:=5) (f:=b5 1) ha
 have hpre:a2C (nwB p.q a 5 (b5 1)) p.b 0 a 5 fp (a6v g n p.j):=⟨ht.same o1,λe=>ha (ht.D.2 _ e),λe=>ha (e▸ht.D.1),by rw[a3w];omega,by omega,λx hx=>by
  obtain⟨t,ht1,rfl⟩:=List.mem_map.1 hx;have:=List.mem_range.1 ht1;dsimp only
  omega⟩
 refine⟨⟨fp,_,hpre⟩,λi hi=>?_⟩;obtain⟨us,u1,u2,u3,u4⟩:=hi _ _ hpre;have hn1:=u1.n;obtain⟨e1,e2,e3⟩:=b8c u1 u2;refine⟨⟨u1.o,by omega,u2⟩,⟨by show 5<=i.l;omega,u2⟩,e1,e2,λ_=>⟨λh0=>?_,λh0=>?_⟩,λh2=>absurd h2 (by decide)⟩
 ·have:a6v g n p.j=[]:=by rw[hj,h0];rfl
  have hus:=u3 this;rw[hus]at hn1;exact hn1
 ·obtain⟨hh,its,B,c1,c2,c3,c4,c5⟩:=u4 (λe=>by
   have:=congrArg List.length e;rw[a3w]at this
   simp at this;omega)
  rw[hj]at c1;exact⟨hh,its,B,c1,c2,(e3 5 (by omega)).trans c3,c4,a0L c5 λp' p1 p2=>e3 p' (by omega)⟩
theorem b8M(g:Nat->Nat)(n m:Nat)(Q:Q4){a:Nat}{q:RM}(hD:q.D a)(hS:q.S a=6)(hF:∀ k,q.F a k=rz tys 191 k):b0g g n m Q ⟨q,a,0⟩ :=
 ⟨Nat.zero_le _,⟨a,[a],[]⟩,⟨b0o hD hS hF,rfl,by simp,by simp⟩,by simp⟩
theorem b9k{g:Nat->Nat}{n m:Nat}{Q:Q4}{p:BI}(h:b0g g n m Q p)(hj:p.j<m)(hm:m<=n)(hn:n<=100)(hQ:QB 16 Q)(hi:∀ i,i<m->a1u (rcF g n) n Q i) :
  qiO p.q g n p.b Q (rcF g n p.j) p.j 16/\∀ q',qiP p.q g n p.b Q 16 p.j q'->b0g g n m Q ⟨q',p.b,p.j+1⟩:=by
 obtain⟨_,k,hk,hp⟩:=h;have hl:=hp.length_eq;rw[List.length_range]at hl;refine⟨⟨⟨by omega,hQ,by omega⟩,rfl,hi _ hj,k,hk,by omega⟩,λq' hP=>?_⟩;obtain⟨k',t1,t2,t3,t4,_⟩:=hP k hk;have hl':=t4.length_eq;refine⟨by show p.j+1<=m;omega,k',⟨t1,t2.trans hk.b,t3,by rw[hl'];simp;omega⟩,?_⟩;show k'.its.Perm (List.range (p.j+1));rw[List.range_succ];exact t4.trans ((hp.cons p.j).trans (List.perm_append_singleton p.j _).symm)
theorem b9T{g:Nat->Nat}{n m:Nat}{Q:Q4}{p:BI}(h:b0g g n m Q p)(hj:p.j=m)(hm:m<=n)(hn:n<=100)(hQ:QB 16 Q){a:Nat}(ha:¬p.q.D a) :
  qmO (nwB p.q a 5 (b5 2)) p.b Q a 0 5 5 40/\∀ i,qmP (nwB p.q a 5 (b5 2)) p.b Q a 0 5 i->(byO i.q i.b i.c i.l i.k/\5<=i.l/\i.l<=2000000)/\c5z m 2 n g Q (i.l,byG (p4R i.q i.b (i.c+1) (i.l:Nat)) i.b i.c):=by
 obtain⟨_,k,hk,hp⟩:=h;have hl:=hp.length_eq;rw[List.length_range]at hl;have o1:=a4W (s:=5) (f:=b5 2) ha
 have hA:qmA (nwB p.q a 5 (b5 2)) (rcF g n) n 16 p.b Q k a:=⟨hk.t.same λy hy=>o1 y (hk.t.D y hy),hk.b,hk.nd,hk.le,λe=>ha (hk.t.D _ e),λx hx=>by
  have:=List.mem_range.1 (hp.mem_iff.1 hx)
  omega⟩
 have hB:qBy 16 k.its.length<=50000:=by unfold qBy;omega
 refine⟨⟨b6x (by decide),_,_,_,_,hA,by omega,by omega,by omega,hQ⟩,λi hi=>?_⟩;obtain⟨us,u1,u2,u3⟩:=hi _ _ _ _ hA (by omega);have hn1:=u1.n;obtain⟨e1,e2,e3⟩:=b8c u1 (by omega);refine⟨⟨u1.o,by omega,by omega⟩,⟨by show 5<=i.l;omega,by show i.l<=2000000;omega⟩,e1,e2,λh1=>absurd h1 (by decide),λ_=>⟨k.its,by rw[<-hj];exact hp,a2y u3 λp' p1 p2=>e3 p' (by omega)⟩⟩
noncomputable def GBi:Ctx:=⟨⟨tys,FP⟩,[(111,p9 b1q),(112,p9 b4C),(113,l8 a2s)]⟩
theorem gBi:v8 Tryz.prog GBi:=⟨⟨z6,a5X⟩,g8.cons c8L (g8.cons c7H (g8.cons (.pure b0e) g8.nil)),by kernel_rfl⟩
noncomputable def XBi:D7:=⟨GBi,[(114,l9 RM ⟨default⟩ a6f),(116,l9 DI ⟨default⟩ b1P),(115,l9 Unit ⟨()⟩ b9t),(117,l9 RM ⟨default⟩ (a6i 40)),(118,l9 DI ⟨default⟩ (a6z 40))],[(180,2),(191,2)],[(183,2),(185,2)],[]⟩
theorem xBi:y9 Tryz.prog XBi:=⟨gBi,q8.cons c0k (q8.cons c6t (q8.cons d0W (q8.cons (b4r 40) (q8.cons (b4l 40) q8.nil))))⟩
noncomputable def biH(cl cw cv:Bool)(k:Int)(x y z w n:Nat)(g:Nat->Nat)(q:RM):v5:=[(0,⟨true,150,a0G cl cw cv k x y z w 1 n,0⟩),(1,⟨false,100, .flts .f64 (2*n) g,0⟩),(2,rwO biT q)]
noncomputable def d0h(cl cw cv:Bool)(k:Int)(x y z w n:Nat)(g:Nat->Nat):O9:=⟨⟨BI,λp=>⟨88,[(0, .ptr 0 0),(2, .pb 2 p.b 0),(3, .int .i64 (nsg cl n (wz g))),(4, .int .i64 p.j)],biH cl cw cv k x y z w n g p.q,3⟩,b0j g n (nsg cl n (wz g)),λp=>nsg cl n (wz g)-p.j⟩,λ_=>[]⟩
noncomputable def d0Y(cl cw cv:Bool)(k:Int)(x y z w n:Nat)(g:Nat->Nat):O9:=⟨⟨BI,λp=>⟨88,[(0, .ptr 0 0),(6, .pb 2 p.b 0),(7, .int .i64 (nsg cl n (wz g))),(8, .int .i64 p.j)],biH cl cw cv k x y z w n g p.q,3⟩,b0g g n (nsg cl n (wz g)) ⟨x,y,z,w⟩,λp=>nsg cl n (wz g)-p.j⟩,λ_=>[]⟩
noncomputable def GMi:Ctx:=⟨⟨tys,[]⟩,[(102,p9 a9o),(97,p9 a3b)]⟩
theorem gMi:v8 Tryz.prog GMi:=⟨⟨z6,FlatsOk.nil⟩,g8.cons c2k (g8.cons b3Z g8.nil),by kernel_rfl⟩
def ppQ(len:Nat)(cl:Bool)(g:Nat->Nat):Q4:=⟨pick (j4 len cl) (rlo g 0 len),pick (j4 len cl) (rlo g 1 len),pick (j4 len cl) (rhi g 0 len),pick (j4 len cl) (rhi g 1 len)⟩
def E4(cl cw cv:Bool)(k:Int)(ib:Bool)(d:Nm)(m:Nat)(x y z w:Nat)(p:Nm)(n:Nat):a9:=.cells [.bool cl, .bool cw, .bool cv, .int .u8 k, .opt ib 185 (.slcc d m), .flt .f64 x, .flt .f64 y, .flt .f64 z, .flt .f64 w, .slcc p n]
def ixP(ib:Bool)(mm:Nat)(k:Int)(n:Nat)(g:Nat->Nat)(Q:Q4)(r:Nat×(Nat->Int)):Prop:=(ib=true->c5z mm k n g Q r)/\(ib=false->r.1=0)
def I1(len:Nat)(m k:Int):Bool:=decide (m≠0/\m<=(len:Int))&&decide (k≠0)
def ixK(len:Nat)(m k:Int):Int:=if m≠0/\m<=(len:Int)then k else 0
noncomputable def b3f:List SV->RRd (Nat×(Nat->Int))
 | [.ptr s 0]=>.read s λo0=>(match a0O o0 150 0 with
  | true=>(match a3r o0.c with
  | some (cl,cw,cv,k,x,y,z,w,p,n)=>.read p λo1=>(match r7 .f64 o1.c with
  | some (m1,g)=>.ret ⟨[.ptr 0 0],[(0,⟨true,150,a0G cl cw cv k x y z w 1 n,0⟩),(1,⟨false,100, .flts .f64 m1 g,0⟩)],some (m1=2*n/\(k=0∨b7t (nsg cl n (wz g)) k n g ⟨x,y,z,w⟩)),λr=>ixP (decide (k≠0)) (nsg cl n (wz g)) k n g ⟨x,y,z,w⟩ r,λr=>⟨[],[], .tup [],[(0,⟨true,150,E4 cl cw cv k (decide (k≠0)) 2 r.1 x y z w 1 n,0⟩)],[(2,⟨true,5, .ints .u8 r.1 r.2,1⟩)],none⟩⟩
  | none=>.fail)
  | none=>.fail)
  | false=>.fail)
 | _=>.fail
theorem b7C(cl cw cv:Bool)(k:Int)(x y z w:Nat)(_:Nm)(n:Nat)(g:Nat->Nat){T1}(t1:T1=λ(i:BI) (i_1:Nat) (i_2:Nat)=>(RM.mk (I2 (I2 (RM.D (BI.q i)) i_1) i_2) (A8 (A8 (BI.q i).2 i_1 2) i_2 2) (A3 (A3 (BI.q i).3 i_1 λ(j:Nat)=>List.getD [Value.float .f64 (C0 (g (2*Int.toNat (↑(BI.j i):Int))) (g (2 *
 nx n (Int.toNat (↑(BI.j i):Int))))),Value.float .f64 (C0 (g (2*Int.toNat (↑(BI.j i):Int)+1)) (g (2*nx n (Int.toNat (↑(BI.j i):Int))+1)))] j (Value.bool false)) i_2 λ(j:Nat)=>List.getD [Value.float .f64 (B8 (g (2*Int.toNat
 (↑(BI.j i):Int))) (g (2*nx n (Int.toNat (↑(BI.j i):Int))))),Value.float .f64 (B8 (g (2*Int.toNat (↑(BI.j i):Int)+1)) (g (2*nx n (Int.toNat (↑(BI.j i):Int))+1)))] j (Value.bool false)))){T2}(t2:T2=λ(i:BI) (i_2:DI)=>(True->∃
 (pq:Nat×(Nat->Int)),ixP (decide (k≠(0:Int))) (nsg cl n (wz g)) k n g (Q4.mk x y z w) pq/\True/\True/\(150=150/\0=0/\cl=cl/\cw=cw/\cv=cv/\k=k/\(decide (k≠(0:Int))=true/\True/\DI.l i_2=pq.1)/\x=x/\y=y/\z
 = z/\w=w/\(True/\n=n)/\True)/\True/\(5=5/\1=1/\pq.1<=DI.l i_2/\∀ (i:Nat),i<pq.1->byG (p4R (RM.mk (RM.D (DI.q i_2)) (DI.q i_2).2 (DI.q i_2).3) (DI.b i_2) (DI.c i_2+1) (↑(DI.l i_2):Int)) (DI.b i_2) (DI.c i_2) i=pq.2 i)/\
 True)){T3}(t3:T3=λ(i:BI) (i_1:Nat)=>(RM.mk (I2 (RM.D (BI.q i)) i_1) (A8 (BI.q i).2 i_1 5) (A3 (BI.q i).3 i_1 λ(j:Nat)=>List.getD [Value.int .u8 (1:Int),Value.int .u8 (0:Int),Value.int .u8 (0:Int),Value.int .u8 (0:Int),
 Value.int .u8 (0:Int)] j (Value.bool false)))){T4}(t4:T4=(150=150/\0=0/\cl=cl/\cw=cw/\cv=cv/\k=k/\True/\x=x/\y=y/\z=z/\w=w/\(True/\n=n)/\True)){T5}(t5:T5=(↑(nsg cl n (wz g)):Int)){T6}(t6:T6=λ(i:BI)=>(↑(BI.j
 i):Int)){T7}(t7:T7=λ(i:BI) (i_1:Nat)=>(RM.mk (I2 (RM.D (BI.q i)) i_1) (A8 (BI.q i).2 i_1 5) (A3 (BI.q i).3 i_1 λ(j:Nat)=>List.getD [Value.int .u8 (2:Int),Value.int .u8 (0:Int),Value.int .u8 (0:Int),Value.int .u8 (0:Int),
 Value.int .u8 (0:Int)] j (Value.bool false)))){T8}(t8:T8=λ(i_2:DI)=>(2*n=2*n/\byO (RM.mk (RM.D (DI.q i_2)) (DI.q i_2).2 (DI.q i_2).3) (DI.b i_2) (DI.c i_2) (DI.l i_2) (DI.k i_2)/\5<=DI.l i_2/\DI.l i_2<=2000000)){T9}(t9:T9=(Q4.mk x y
 z w)){T10}(t10:T10=(nsg cl n (wz g))){T11}(t11:T11=λ(i:Nat) (pq:BI)=>((True/\0=0)/\(True/\i=BI.b pq/\0=0)/\T5=T5/\0=(↑(BI.j pq):Int)/\True)){T12}(t12:T12=λ(i:BI)=>(RM.mk (RM.D (BI.q i)) (BI.q i).2 (BI.q
 i).3)){T13}(t13:T13=λ(i:BI)=>(2*n=2*n/\0<=(T6 i)/\(T6 i)<(↑n:Int)/\n<=1000000)){T14}(t14:T14=(2*n=2*n/\n<=1000000/\FL2 g (2*n))):J7 XBi 2 [(6,d0h cl cw cv k x y z w n g),(15,d0Y cl cw cv k x y z w n g)] [] (j3 Tryz.f103) (St.addRaw (q9 Tryz.f103.ntmps [.ptr 0 0] [(0,⟨true,150,a0G cl cw cv k x y z w 1 n,0⟩),(1,⟨false,100, .flts .f64 (2*n) g,0⟩)] 2) biT) (r6 XBi.G.E.T Tryz.f103.results.toList λS v=>∃ r:Nat×(Nat->Int),ixP (decide (k≠0)) (nsg cl n (wz g)) k n g ⟨x,y,z,w⟩ r/\w0 2 ⟨[],[], .tup [],[(0,⟨true,150,E4 cl cw cv k (decide (k≠0)) 2 r.1 x y z w 1 n,0⟩)],[(2,⟨true,5, .ints .u8 r.1 r.2,1⟩)],none⟩ S v)=(
 ((k==(1:Int))=true->∀(i:Nat),¬False->T14/\(∃(pq:BI),b0j g n T10 pq/\(T11 i pq)/\True/\T4/\True/\(2*n<=2*n/\∀(i:Nat),i<2*n->g i=g i)/\True/\(0=0/\0=0/\biT=biT/\G1 (λ(_:Nat)=>False) (λ(_ _
 : Nat)=>Value.bool false) i (rz tys 180)=(BI.q pq).3/\H4 (λ(_:Nat)=>False) (λ(_:Nat)=>0) i 8=(BI.q pq).2/\I2 (λ(_:Nat)=>False) i=RM.D (BI.q pq))/\True)/\∀(i:BI),b0j g n T10 i->(decide ((T6 i)<T5)=true->
 (T13 i)/\∀(i_1:Nat),¬(BI.q i).1 i_1->∀(i_2:Nat),¬(i_2=i_1∨(BI.q i).1 i_2)->∀(i_3:RM),(2=2/\2=2/\3=3/\inO (T1 i i_1 i_2) (BI.b i) 0 i_1 0 2 i_2 0 2)/\(inP (T1 i i_1 i_2) (BI.b i) 0 i_1 0 i_2 0 (T6 i) i_3->∃(pq:BI),
 b0j g n T10 pq/\nsg cl n (wz g)-BI.j pq<nsg cl n (wz g)-BI.j i/\((True/\0=0)/\(True/\BI.b i=BI.b pq/\0=0)/\T5=T5/\IntKind.wrap .i64 ((T6 i)+1)=(↑(BI.j pq):Int)/\True)/\True/\T4/\True/\(2*n<=2*n/\∀(i:Nat),i
 < 2*n->g i=g i)/\True/\(0=0/\0=0/\biT=biT/\i_3.3=(BI.q pq).3/\i_3.2=(BI.q pq).2/\RM.D i_3=RM.D (BI.q pq))/\True))/\(decide ((T6 i)<T5)=false->∀(i_1:Nat),¬(BI.q i).1 i_1->∀(i_2:DI),(2=2/\byO (T3 i i_1) i_1 0
 5 5/\∃(pq:List Nat),∃(pq_1:List (Int×Bx)),a2C (T3 i i_1) (BI.b i) 0 i_1 5 pq pq_1)/\(a3R (T3 i i_1) (BI.b i) 0 i_1 0 5 i_2->∀(_:Unit),(T8 i_2)/\(T2 i i_2))))/\((k==(1:Int))=false->((k==(2:Int))=true->∀(i:Nat),
 ¬False->T14/\(∃(pq:BI),b0g g n T10 T9 pq/\(T11 i pq)/\True/\T4/\True/\(2*n<=2*n/\∀(i:Nat),i<2*n->g i=g i)/\True/\(0=0/\0=0/\biT=biT/\G1 (λ(_:Nat)=>False) (λ(_ _:Nat)=>Value.bool false) i (rz
 tys 191)=(BI.q pq).3/\H4 (λ(_:Nat)=>False) (λ(_:Nat)=>0) i 6=(BI.q pq).2/\I2 (λ(_:Nat)=>False) i=RM.D (BI.q pq))/\True)/\∀(i:BI),b0g g n T10 T9 i->(decide ((T6 i)<T5)=true->(T13 i)/\∀(i_1:RM),(0=0
 /\2*n=2*n/\((0:Int)<=0/\(0:Int)<=16/\32+a0Y (T12 i) (BI.b i)<40)/\(0<=(T6 i)/\(T6 i)<(↑n:Int))/\qiO (T12 i) g n (BI.b i) T9 (Q4.mk (C0 (g (2*Int.toNat (T6 i))) (g (2*nx n (Int.toNat (T6 i))))) (C0 (g (2*Int.toNat
 (T6 i)+1)) (g (2*nx n (Int.toNat (T6 i))+1))) (B8 (g (2*Int.toNat (T6 i))) (g (2*nx n (Int.toNat (T6 i))))) (B8 (g (2*Int.toNat (T6 i)+1)) (g (2*nx n (Int.toNat (T6 i))+1)))) (Int.toNat (T6 i)) 16)/\true=true/\(qiP (T12 i) g
 n (BI.b i) T9 16 (Int.toNat (T6 i)) i_1->∃(pq:BI),b0g g n T10 T9 pq/\nsg cl n (wz g)-BI.j pq<nsg cl n (wz g)-BI.j i/\((True/\0=0)/\(True/\BI.b i=BI.b pq/\0=0)/\T5=T5/\IntKind.wrap .i64 ((T6 i)+(1:Int))=(↑(BI.j pq) :
 Int)/\True)/\True/\T4/\True/\(2*n<=2*n/\∀(i:Nat),i<2*n->g i=g i)/\True/\(0=0/\0=0/\biT=biT/\i_1.3=(BI.q pq).3/\i_1.2=(BI.q pq).2/\RM.D i_1=RM.D (BI.q pq))/\True))/\(decide ((T6 i)<T5)=false->∀(i_1 :
 Nat),¬(BI.q i).1 i_1->∀(i_2:DI),(2=2/\0=0/\qmO (T7 i i_1) (BI.b i) T9 i_1 0 5 5 40)/\(qmP (T7 i i_1) (BI.b i) T9 i_1 0 5 i_2->∀(_:Unit),(T8 i_2)/\(T2 i i_2))))/\((k==(2:Int))=false->∃(pq:Nat×(Nat->Int)),ixP (decide
 (k≠(0:Int))) T10 k n g T9 pq/\True/\True/\(150=150/\0=0/\cl=cl/\cw=cw/\cv=cv/\k=k/\decide (k≠(0:Int))=false/\x=x/\y=y/\z=z/\w=w/\(True/\n=n)/\True)/\True/\pq.1=0/\True))):=by subst t1 t2 t3 t4 t5 t6 t7 t8 t9 t10 t11 t12 t13 t14;kernel_rfl
theorem c9c:u6 Tryz.prog 103 (l9 (Nat×(Nat->Int)) ⟨(0,λ_=>0)⟩ b3f):=by
 refine a9X xBi Tryz.func103 rfl (by kernel_rfl) biT λargs=>?_
 unfold b3f;split
 ·rename_i s;intro o0;try dsimp only
  split
  ·rename_i hrw0;try dsimp only
   split
   ·rename_i cl cw cv k x y z w p n hm0;intro o1;try dsimp only
    split
    ·rename_i m1 g hm1;intro ho;replace ho:m1=2*n/\(k=0∨b7t (nsg cl n (wz g)) k n g ⟨x,y,z,w⟩):=ho;obtain⟨hsz1,ho⟩:=ho;subst hsz1;refine⟨?_,_,_,(b7C cl cw cv k x y z w p n g rfl rfl rfl rfl rfl rfl rfl rfl rfl rfl rfl rfl rfl rfl).mpr ?_⟩
     ·refine g9 rfl ⟨λ_=>rfl,?_,⟨trivial,K5 hrw0 (O6 hm0 a8),⟨trivial,(r9 hm1).1,trivial⟩⟩⟩;simp[j9,o8,o9,p7,nth,a8]
     ·rcases ho with rfl|⟨hk,hn,hg,hq2⟩
      ·simp only[true_and,and_true,eq_self,Int.toNat_natCast,decide_eq_true_eq,decide_eq_false_iff_not,true_implies,implies_true,Int.reduceLE,Int.le_refl];refine⟨λh=>absurd h (by decide),λ_=>⟨λh=>absurd h (by decide),λ_=>?_⟩⟩;refine⟨(0,λ_=>0),⟨λh=>absurd h (by decide),λ_=>rfl⟩,?_⟩;exact⟨by simp,rfl⟩
      have hm:=b9M cl n (wz g);simp only[true_and,and_true,eq_self,Int.toNat_natCast,decide_eq_true_eq,decide_eq_false_iff_not,true_implies,implies_true,Int.reduceLE,Int.le_refl];generalize nsg cl n (wz g)=m at *;have nf:∀ a:Nat,¬(λ_:Nat=>False) a:=λ_ h=>h
      have hwj:∀ j:Nat,j<m->IntKind.i64.wrap ((j:Int)+1)=((j+1:Nat):Int):=λj hj=>by rw[j5 (by omega) (by omega)];rfl
      refine⟨λh1 a _=>⟨⟨by omega,hg⟩,?_,?_⟩,λh1=>⟨λh2 a _=>⟨⟨by omega,hg⟩,?_,?_⟩,λh2=>?_⟩⟩
      ·rw[M4 (nf a),M5 (nf a)];exact⟨⟨⟨I2 (λ_=>False) a,A8 (λ_=>0) a 8,A3 (λ_ _=>.bool false) a (rz tys 180)⟩,a,0⟩,b8a g n m (.inl rfl) (by simp[A8]) (λk=>by simp[A3]),⟨rfl,rfl⟩,Nat.le_refl _,rfl,rfl,rfl⟩
      ·have hk1:k=1:=by simpa using h1
       subst hk1;rintro⟨q,b,j⟩ hb;dsimp only;refine⟨λhlt=>⟨⟨by omega,by have:=hb.1;dsimp only at this;omega,by omega⟩,λa1 ha1 a2 ha2 q'=>?_⟩,λhge a1 ha1 i=>?_⟩
       ·obtain⟨s1,s2⟩:=b6j hb (by show j<m;omega) hm hn hg ha1 ha2 (f1:=λt=>[Value.float .f64 (C0 (g (2*j)) (g (2*nx n j))),Value.float .f64 (C0 (g (2*j+1)) (g (2*nx n j+1)))].getD t (.bool false)) (f2:=λt=>[Value.float .f64 (B8 (g (2*j)) (g (2*nx n j))),Value.float .f64 (B8 (g (2*j+1)) (g (2*nx n j+1)))].getD t (.bool false)) rfl rfl rfl rfl;exact⟨s1,λhP=>⟨_,s2 q' hP,by show m-(j+1)<m-j;omega,⟨rfl,hwj j (by omega)⟩,Nat.le_refl _,rfl,rfl,rfl⟩⟩
       ·obtain⟨s1,s2⟩:=c1h (Q:=⟨x,y,z,w⟩) hb (by have:=hb.1;dsimp only at this;show j=m;omega) hm hn ha1;refine⟨⟨b6x (by decide),s1⟩,λhP _=>?_⟩;obtain⟨s3,s4⟩:=s2 i hP;exact⟨s3,_,⟨λ_=>s4,λh=>absurd h (by decide)⟩,⟨by decide,rfl⟩,Nat.le_refl _,λ_ _=>rfl⟩
      ·rw[M4 (nf a),M5 (nf a)];exact⟨⟨⟨I2 (λ_=>False) a,A8 (λ_=>0) a 6,A3 (λ_ _=>.bool false) a (rz tys 191)⟩,a,0⟩,b8M g n m _ (.inl rfl) (by simp[A8]) (λk=>by simp[A3]),⟨rfl,rfl⟩,Nat.le_refl _,rfl,rfl,rfl⟩
      ·have hk1:k=2:=by simpa using h2
       subst hk1;obtain⟨hQ,hit⟩:=hq2 rfl;rintro⟨q,b,j⟩ hb;dsimp only;refine⟨λhlt=>⟨⟨by omega,by have:=hb.1;dsimp only at this;omega,by omega⟩,λq'=>?_⟩,λhge a1 ha1 i=>?_⟩
       ·obtain⟨s1,s2⟩:=b9k hb (by show j<m;omega) hm hn hQ hit;have hsp:=a9G q b;exact⟨⟨by show 32+a0Y q b<40;omega,⟨by omega,by omega⟩,s1⟩,λhP=>⟨_,s2 q' hP,by show m-(j+1)<m-j;omega,⟨rfl,hwj j (by omega)⟩,Nat.le_refl _,rfl,rfl,rfl⟩⟩
       ·obtain⟨s1,s2⟩:=b9T (Q:=⟨x,y,z,w⟩) hb (by have:=hb.1;dsimp only at this;show j=m;omega) hm hn hQ ha1;refine⟨s1,λhP _=>?_⟩;obtain⟨s3,s4⟩:=s2 i hP;exact⟨s3,_,⟨λ_=>s4,λh=>absurd h (by decide)⟩,⟨by decide,rfl⟩,Nat.le_refl _,λ_ _=>rfl⟩
      ·exfalso;rcases hk with rfl|rfl
       ·exact absurd h1 (by decide)
       ·exact absurd h2 (by decide)
    ·trivial
   ·trivial
  ·trivial
 ·trivial
noncomputable def XMu:D7:=⟨GMi,[(103,l9 (Nat×(Nat->Int)) ⟨(0,λ_=>0)⟩ b3f)],[],[],[]⟩
theorem xMu:y9 Tryz.prog XMu:=⟨gMi,q8.cons c9c q8.nil⟩
def a7G(len:Nat)(cl:Bool)(g:Nat->Nat)(p:Nm)(k:Int)(ib:Bool)(d:Nm)(m:Nat):List SV :=
 [.bool cl, .bool (j4 len cl&&fGt .f64 (cwF g len len) 0), .bool (j4 len cl && !(dcF g len len).2), .int .u8 k, .opt ib 185 (.slcc d m), .flt .f64 (pick (j4 len cl) (rlo g 0 len)), .flt .f64 (pick (j4 len cl) (rlo g 1 len)), .flt .f64 (pick (j4 len cl) (rhi g 0 len)), .flt .f64 (pick (j4 len cl) (rhi g 1 len)), .slcc p len]
def a0N(len:Nat)(cl:Bool)(m k:Int)(g:Nat->Nat):Prop:=len<=1000000/\(j4 len cl=true->ppOk g len)/\(I1 len m k=true->b7t (nsg cl len (wz g)) k len g (ppQ len cl g))
noncomputable def c4c:List SV->RRd (Nat×(Nat->Int))
 | [.slcc n len, .tt,v, .ptr o 0]=>.read n λo0=>(match r7 .f64 o0.c with
  | some (m0,g)=>.read o λo1=>(match a4C o1.c with
  | some (k,m)=>(match v.toB with
  | some cl=>.ret ⟨[.slcc 0 len, .tt, .bool cl, .ptr 1 0],[(0,⟨false,100, .flts .f64 m0 g,0⟩),(1,⟨false,148,a4c k m,0⟩)],some (m0=2*len/\(a0N len cl m k g)),λr=>ixP (I1 len m k) (nsg cl len (wz g)) k len g (ppQ len cl g) r,λr=>⟨[],[], .agg (a7G len cl g 2 (ixK len m k) (I1 len m k) 3 r.1),[],[(2,⟨true,100, .flts .f64 (2*len) g,2⟩),(3,⟨true,5, .ints .u8 r.1 r.2,1⟩)],none⟩⟩
  | none=>.fail)
  | none=>.fail)
  | none=>.fail)
 | _=>.fail
theorem c4W(len:Nat)(cl:Bool)(m:Int)(k:Int)(g:Nat->Nat){T1}(t1:T1=(cl=cl/\(j4 len cl&&fGt .f64 (cwF g len len) 0)=(j4 len cl&&fGt .f64 (cwF g len len) 0)/\(j4 len cl && !(dcF g len len).2)=(j4 len cl && !(dcF g len len).2)/\(0:Int)=ixK len m k/\I1 len m k=false/\pick
 (j4 len cl) (rlo g 0 len)=pick (j4 len cl) (rlo g 0 len)/\pick (j4 len cl) (rlo g 1 len)=pick (j4 len cl) (rlo g 1 len)/\pick (j4 len cl) (rhi g 0 len)=pick (j4 len cl) (rhi g 0 len)/\pick (j4 len cl) (rhi g 1 len) =
 pick (j4 len cl) (rhi g 1 len)/\(True/\Int.toNat (↑len:Int)=len)/\True)){T2}(t2:T2=(↑len:Int)){T3}(t3:T3=(j4 len cl)){T4}(t4:T4=(Q4.mk (pick T3 (rlo g 0 len)) (pick T3 (rlo g 1 len)) (pick T3 (rhi g 0 len)) (pick T3 (rhi g 1
 len)))){T5}(t5:T5=(100=100/\2=2/\2*len<=Int.toNat T2*2/\∀ (i:Nat),i<2*len->g i=g i)){T6}(t6:T6=(j4 len cl&&fGt .f64 (cwF g len len) 0)):J7 XMu 2 [] [] (j3 Tryz.f92) (q9 Tryz.f92.ntmps [.slcc 0 len, .tt, .bool cl, .ptr 1 0] [(0,⟨false,100, .flts .f64 (2*len) g,0⟩),(1,⟨false,148,a4c k m,0⟩)] 2) (r6 XMu.G.E.T Tryz.f92.results.toList λS v=>∃ r:Nat×(Nat->Int),ixP (I1 len m k) (nsg cl len (wz g)) k len g (ppQ len cl g) r/\w0 2 ⟨[],[], .agg (a7G len cl g 2 (ixK len m k) (I1 len m k) 3 r.1),[],[(2,⟨true,100, .flts .f64 (2*len) g,2⟩),(3,⟨true,5, .ints .u8 r.1 r.2,1⟩)],none⟩ S v)=(
 (T2=T2/\0<=T2/\T2<=9223372036854775807/\T2*16<=(140737488355328:Int))/\(len=Int.toNat T2/\Int.toNat T2*2=Int.toNat T2*2/\2*len=Int.toNat T2*2)/\(2*len=2*len/\len<=1000000/\(j4 len cl=true->ppOk g len))/\
 ((m != (0:Int))=true->(decide (m<=T2)=true->∀(i:Nat×(Nat->Int)),(Int.toNat T2*2=2*Int.toNat T2/\(k=(0:Int)∨b7t (nsg cl (Int.toNat T2) (wz g)) k (Int.toNat T2) g T4))/\(ixP (decide (k≠(0:Int))) (nsg cl (Int.toNat T2)
 (wz g)) k (Int.toNat T2) g T4 i->∃(pq:Nat×(Nat->Int)),ixP (I1 len m k) (nsg cl len (wz g)) k len g (ppQ len cl g) pq/\(cl=cl/\T6=T6/\(j4 len cl && !Prod.snd (dcF g len len))=(j4 len cl && !(dcF g len len).2)/\k=ixK len m k
 /\(decide (k≠(0:Int))=I1 len m k/\True/\i.1=pq.1)/\pick T3 (rlo g 0 len)=pick T3 (rlo g 0 len)/\pick T3 (rlo g 1 len)=pick T3 (rlo g 1 len)/\pick T3 (rhi g 0 len)=pick T3 (rhi g 0 len)/\pick T3 (rhi g 1 len)=pick T3 (rhi g 1
 len)/\(True/\Int.toNat T2=len)/\True)/\True/\(100=100/\2=2/\2*len<=Int.toNat T2*2/\∀(i:Nat),i<2*len->g i=g i)/\True/\(5=5/\1=1/\pq.1<=i.1/\∀(i_1:Nat),i_1<pq.1->i.2 i_1=pq.2 i_1)/\True))/\(decide (m<=
 T2)=false->∃(pq:Nat×(Nat->Int)),ixP (I1 len m k) (nsg cl len (wz g)) k len g (ppQ len cl g) pq/\T1/\True/\T5/\True/\pq.1=0/\True))/\((m != (0:Int))=false->∃(pq:Nat×(Nat->Int)),ixP (I1 len m k) (nsg cl len (wz g)) k
 len g (ppQ len cl g) pq/\T1/\True/\T5/\True/\pq.1=0/\True)):=by subst t1 t2 t3 t4 t5 t6;kernel_rfl
theorem mkU:u6 Tryz.prog 92 (l9 (Nat×(Nat->Int)) ⟨(0,λ_=>0)⟩ c4c):=by
 refine I6 xMu Tryz.func92 rfl (by kernel_rfl) λargs=>?_
 unfold c4c;split
 ·rename_i n len v o;intro o0;try dsimp only
  split
  ·rename_i m0 g hm0;intro o1;try dsimp only
   split
   ·rename_i k m hm1;try dsimp only
    split
    ·rename_i cl hcl;intro ho;replace ho:m0=2*len/\(a0N len cl m k g):=ho;obtain⟨hsz0,ho⟩:=ho;subst hsz0;refine⟨?_,_,_,(c4W len cl m k g rfl rfl rfl rfl rfl rfl).mpr ?_⟩
     ·refine g9 rfl ⟨λ_=>rfl,?_,⟨trivial,(r9 hm0).1,⟨trivial,O5 hm1,trivial⟩⟩⟩;simp[j9,o8,o9,p7,nth,a8,C7 hcl]
     ·obtain⟨hl,hpp,hb⟩:=ho;simp only[true_and,and_true,eq_self,Int.toNat_natCast,decide_eq_true_eq,decide_eq_false_iff_not,implies_true];have e2:2*len=len*2:=by omega
      have hyes:(m != 0)=true->m<=(len:Int)->I1 len m k=decide (k≠0):=λh0 h1=>by
       have hm:m≠0/\m<=(len:Int):=⟨by simpa using h0,h1⟩;unfold I1;rw[decide_eq_true hm,Bool.true_and]
      refine⟨⟨by omega,by omega,by omega⟩,e2,⟨hl,hpp⟩,λh0=>⟨λh1 r=>⟨⟨e2.symm,?_⟩,λhP=>⟨r,?_,⟨?_,?_,rfl⟩,by omega,Nat.le_refl _,λ_ _=>rfl⟩⟩,λh1=>?_⟩,λh0=>?_⟩
      ·by_cases hk:k=0
       ·exact .inl hk
       ·exact .inr (hb (by rw[hyes h0 h1];exact decide_eq_true hk))
      ·rw[hyes h0 h1];exact hP
      ·have hm:m≠0/\m<=(len:Int):=⟨by simpa using h0,h1⟩;unfold ixK;rw[if_pos hm]
      ·exact(hyes h0 h1).symm
      ·have hno:¬(m≠0/\m<=(len:Int)):=λh=>h1 h.2
       have hf:I1 len m k=false:=by unfold I1;rw[decide_eq_false hno,Bool.false_and]
       exact⟨(0,λ_=>0),⟨λh=>by rw[hf]at h;exact absurd h (by decide),λ_=>rfl⟩,⟨by unfold ixK;rw[if_neg hno],hf⟩,by omega,rfl⟩
      ·have hno:¬(m≠0/\m<=(len:Int)):=λh=>by simp[h.1]at h0
       have hf:I1 len m k=false:=by unfold I1;rw[decide_eq_false hno,Bool.false_and]
       exact⟨(0,λ_=>0),⟨λh=>by rw[hf]at h;exact absurd h (by decide),λ_=>rfl⟩,⟨by unfold ixK;rw[if_neg hno],hf⟩,by omega,rfl⟩
    ·trivial
   ·trivial
  ·trivial
 ·trivial
noncomputable def XLu:D7:=⟨G0,[(92,l9 (Nat×(Nat->Int)) ⟨(0,λ_=>0)⟩ c4c)],[],[],[]⟩
theorem xLu:y9 Tryz.prog XLu:=⟨g0,q8.cons mkU q8.nil⟩
noncomputable def a1P:List SV->RRd (Nat×(Nat->Int))
 | [.slcc n len, .ptr o 0]=>.read n λo0=>(match r7 .f64 o0.c with
  | some (m0,g)=>.read o λo1=>(match a4C o1.c with
  | some (k,m)=>.ret ⟨[.slcc 0 len, .ptr 1 0],[(0,⟨false,100, .flts .f64 m0 g,0⟩),(1,⟨false,148,a4c k m,0⟩)],some (m0=2*len/\(a0N len false m k g)),λr=>ixP (I1 len m k) (nsg false len (wz g)) k len g (ppQ len false g) r,λr=>⟨[],[], .ptr 2 0,[],[(2,⟨true,152, .cells (a7G len false g 3 (ixK len m k) (I1 len m k) 4 r.1),0⟩),(3,⟨true,100, .flts .f64 (2*len) g,2⟩),(4,⟨true,5, .ints .u8 r.1 r.2,1⟩)],none⟩⟩
  | none=>.fail)
  | none=>.fail)
 | _=>.fail
theorem b0p(len:Nat)(m:Int)(k:Int)(g:Nat->Nat){T1}(t1:T1=(j4 len false)){T2}(t2:T2=(j4 len false&&fGt .f64 (cwF g len len) 0)):J7 XLu 2 [] [] (j3 Tryz.f73) (q9 Tryz.f73.ntmps [.slcc 0 len, .ptr 1 0] [(0,⟨false,100, .flts .f64 (2*len) g,0⟩),(1,⟨false,148,a4c k m,0⟩)] 2) (r6 XLu.G.E.T Tryz.f73.results.toList λS v=>∃ r:Nat×(Nat->Int),ixP (I1 len m k) (nsg false len (wz g)) k len g (ppQ len false g) r/\w0 2 ⟨[],[], .ptr 2 0,[],[(2,⟨true,152, .cells (a7G len false g 3 (ixK len m k) (I1 len m k) 4 r.1),0⟩),(3,⟨true,100, .flts .f64 (2*len) g,2⟩),(4,⟨true,5, .ints .u8 r.1 r.2,1⟩)],none⟩ S v)=(
 ∀(i:Nat×(Nat->Int)),(2*len=2*len/\a0N len false m k g)/\(ixP (I1 len m k) (nsg false len (wz g)) k len g (ppQ len false g) i->∃(pq:Nat×(Nat->Int)),ixP (I1 len m k) (nsg false len (wz g)) k len g (ppQ len false g) pq/\
 (True/\0=0)/\True/\(152=152/\0=0/\false=false/\T2=T2/\(j4 len false && !(dcF g len len).2)=(j4 len false && !(dcF g len len).2)/\ixK len m k=ixK len m k/\(I1 len m k=I1 len m k/\True/\i.1=pq.1)/\pick T1 (rlo g
 0 len)=pick T1 (rlo g 0 len)/\pick T1 (rlo g 1 len)=pick T1 (rlo g 1 len)/\pick T1 (rhi g 0 len)=pick T1 (rhi g 0 len)/\pick T1 (rhi g 1 len)=pick T1 (rhi g 1 len)/\(True/\len=len)/\True)/\True/\(100=100/\2=2/\2*len<=2 *
 len/\∀(i:Nat),i<2*len->g i=g i)/\True/\(5=5/\1=1/\pq.1<=i.1/\∀(i_1:Nat),i_1<pq.1->i.2 i_1=pq.2 i_1)/\True)):=by subst t1 t2;kernel_rfl
theorem b0M:u6 Tryz.prog 73 (l9 (Nat×(Nat->Int)) ⟨(0,λ_=>0)⟩ a1P):=by
 refine I6 xLu Tryz.func73 rfl (by kernel_rfl) λargs=>?_
 unfold a1P;split
 ·rename_i n len o;intro o0;try dsimp only
  split
  ·rename_i m0 g hm0;intro o1;try dsimp only
   split
   ·rename_i k m hm1;intro ho;replace ho:m0=2*len/\(a0N len false m k g):=ho;obtain⟨hsz0,ho⟩:=ho;subst hsz0;refine⟨?_,_,_,(b0p len m k g rfl rfl).mpr ?_⟩
    ·refine g9 rfl ⟨λ_=>rfl,?_,⟨trivial,(r9 hm0).1,⟨trivial,O5 hm1,trivial⟩⟩⟩;simp[j9,o8,o9,p7,nth,a8]
    ·simp only[true_and,and_true,eq_self,implies_true];exact λr=>⟨ho,λhP=>⟨r,hP,rfl,Nat.le_refl _,Nat.le_refl _,λ_ _=>rfl⟩⟩
   ·trivial
  ·trivial
 ·trivial
def S8:a9->Option (Bool×Bool×Bool×Int×Bool×Nm×Nat×Nat×Nat×Nat×Nat×Nm×Nat)
 | .cells [a,b,c, .int .u8 k, .opt ib 185 (.slcc d m), .flt .f64 x, .flt .f64 y, .flt .f64 z, .flt .f64 w, .slcc p n]=>match a.toB with
  | some a=>match b.toB with
   | some b=>match c.toB with
    | some c=>some (a,b,c,k,ib,d,m,x,y,z,w,p,n)
    | none=>none
   | none=>none
  | none=>none
 | _=>none
theorem B7{σ:Sig}{c:a9}{cl cw cv:Bool}{k:Int}{ib:Bool}{d e:Nm}{m:Nat}{x y z w:Nat}{p q:Nm}{n:Nat}(h:S8 c=some (cl,cw,cv,k,ib,d,m,x,y,z,w,p,n))(hd:K3 (σ e) d)(hs:K3 (σ q) p):H6 σ c (E4 cl cw cv k ib e m x y z w q n):=by
 unfold S8 at h;split at h
 ·split at h
  ·rename_i ha;split at h
   ·rename_i hb;split at h
    ·rename_i hc;simp only[Option.some.injEq,Prod.mk.injEq]at h;obtain⟨rfl,rfl,rfl,rfl,rfl,rfl,rfl,rfl,rfl,rfl,rfl,rfl,rfl⟩:=h;show j9 σ _ _;simp[j9,o8,p8,r8,C7 ha,C7 hb,C7 hc,hs,hd]
    ·cases h
   ·cases h
  ·cases h
 ·cases h
noncomputable def a8N:List SV->RdM
 | [.ptr s 0]=>.read s λo0=>(match S8 o0.c with
  | some (cl,cw,cv,k,ib,dd,im,x,y,z,w,p,n)=>.read p λo1=>(match r7 .f64 o1.c with
  | some (m1,g)=>.read dd λo2=>(match o7 .u8 o2.c with
  | some (m2,gB)=>.ret ⟨[.ptr 0 0],[(0,⟨false,150,E4 cl cw cv k ib 2 im x y z w 1 n,0⟩),(1,⟨false,100, .flts .f64 m1 g,0⟩),(2,⟨false,5, .ints .u8 m2 gB,0⟩)], .int .i64 n,[],[],some (m1=2*n/\m2=1*im/\True)⟩
  | none=>.fail)
  | none=>.fail)
  | none=>.fail)
 | _=>.fail
theorem b4N(cl cw cv:Bool)(k:Int)(ib:Bool)(_:Nm)(im:Nat)(x y z w:Nat)(_:Nm)(n:Nat)(g:Nat->Nat)(gB:Nat->Int){w9:HC}(e9:w9=⟨[.ptr 0 0],[(0,⟨false,150,E4 cl cw cv k ib 2 im x y z w 1 n,0⟩),(1,⟨false,100, .flts .f64 (2*n) g,0⟩),(2,⟨false,5, .ints .u8 (1*im) gB,0⟩)], .int .i64 n,[],[],some (2*n=2*n/\1*im=1*im/\True)⟩):z7 G0 3 [] [] (j3 Tryz.f205) (q9 Tryz.f205.ntmps w9.args w9.heap 3) (r6 G0.E.T Tryz.f205.results.toList λS v=>w0 3 w9 S v)=(
 (↑n:Int)=(↑n:Int)/\True):=by subst e9;kernel_rfl
theorem c4J:q7 Tryz.prog 205 (p9 a8N):=by
 refine j8 g0 Tryz.func205 rfl (by kernel_rfl) λargs=>?_
 unfold a8N;split
 ·rename_i s;intro o0;try dsimp only
  split
  ·rename_i cl cw cv k ib dd im x y z w p n hm0;intro o1;try dsimp only
   split
   ·rename_i m1 g hm1;intro o2;try dsimp only
    split
    ·rename_i m2 gB hm2;intro ho;replace ho:m1=2*n/\m2=1*im/\True:=ho;obtain⟨hsz1,hsz2,ho⟩:=ho;subst hsz1;subst hsz2;refine⟨?_,_,_,(b4N cl cw cv k ib dd im x y z w p n g gB rfl).mpr ?_⟩
     ·refine g9 rfl ⟨?_,⟨trivial,B7 hm0 a8 a8,⟨trivial,(r9 hm1).1,⟨trivial,(o5 hm2).1,trivial⟩⟩⟩⟩;simp[j9,o8,o9,p7,nth,a8]
     ·simp
    ·trivial
   ·trivial
  ·trivial
 ·trivial
noncomputable def a2P:List SV->RdM
 | [.ptr s 0]=>.read s λo0=>(match S8 o0.c with
  | some (cl,cw,cv,k,ib,dd,im,x,y,z,w,p,n)=>.read p λo1=>(match r7 .f64 o1.c with
  | some (m1,g)=>.read dd λo2=>(match o7 .u8 o2.c with
  | some (m2,gB)=>.ret ⟨[.ptr 0 0],[(0,⟨false,150,E4 cl cw cv k ib 2 im x y z w 1 n,0⟩),(1,⟨false,100, .flts .f64 m1 g,0⟩),(2,⟨false,5, .ints .u8 m2 gB,0⟩)], .agg [.flt .f64 x, .flt .f64 y, .flt .f64 z, .flt .f64 w],[],[],some (m1=2*n/\m2=1*im/\True)⟩
  | none=>.fail)
  | none=>.fail)
  | none=>.fail)
 | _=>.fail
theorem b2z(cl cw cv:Bool)(k:Int)(ib:Bool)(_:Nm)(im:Nat)(x y z w:Nat)(_:Nm)(n:Nat)(g:Nat->Nat)(gB:Nat->Int){w9:HC}(e9:w9=⟨[.ptr 0 0],[(0,⟨false,150,E4 cl cw cv k ib 2 im x y z w 1 n,0⟩),(1,⟨false,100, .flts .f64 (2*n) g,0⟩),(2,⟨false,5, .ints .u8 (1*im) gB,0⟩)], .agg [.flt .f64 x, .flt .f64 y, .flt .f64 z, .flt .f64 w],[],[],some (2
 * n=2*n/\1*im=1*im/\True)⟩):z7 G0 3 [] [] (j3 Tryz.f164) (q9 Tryz.f164.ntmps w9.args w9.heap 3) (r6 G0.E.T Tryz.f164.results.toList λS v=>w0 3 w9 S v)=(
 (x=x/\y=y/\z=z/\w=w/\True)/\True):=by subst e9;kernel_rfl
theorem b3F:q7 Tryz.prog 164 (p9 a2P):=by
 refine j8 g0 Tryz.func164 rfl (by kernel_rfl) λargs=>?_
 unfold a2P;split
 ·rename_i s;intro o0;try dsimp only
  split
  ·rename_i cl cw cv k ib dd im x y z w p n hm0;intro o1;try dsimp only
   split
   ·rename_i m1 g hm1;intro o2;try dsimp only
    split
    ·rename_i m2 gB hm2;intro ho;replace ho:m1=2*n/\m2=1*im/\True:=ho;obtain⟨hsz1,hsz2,ho⟩:=ho;subst hsz1;subst hsz2;refine⟨?_,_,_,(b2z cl cw cv k ib dd im x y z w p n g gB rfl).mpr ?_⟩
     ·refine g9 rfl ⟨?_,⟨trivial,B7 hm0 a8 a8,⟨trivial,(r9 hm1).1,⟨trivial,(o5 hm2).1,trivial⟩⟩⟩⟩;simp[j9,o8,o9,p7,nth,a8]
     ·simp
    ·trivial
   ·trivial
  ·trivial
 ·trivial
noncomputable def Z9:List SV->RdM
 | [.ptr s 0]=>.read s λo0=>(match S8 o0.c with
  | some (cl,cw,cv,k,ib,dd,im,x,y,z,w,p,n)=>.read p λo1=>(match r7 .f64 o1.c with
  | some (m1,g)=>.read dd λo2=>(match o7 .u8 o2.c with
  | some (m2,gB)=>.ret ⟨[.ptr 0 0],[(0,⟨false,150,E4 cl cw cv k ib 2 im x y z w 1 n,0⟩),(1,⟨false,100, .flts .f64 m1 g,0⟩),(2,⟨false,5, .ints .u8 m2 gB,0⟩)], .bool (decide (n<2∨cl=true/\n<3)),[],[],some (m1=2*n/\m2=1*im/\True)⟩
  | none=>.fail)
  | none=>.fail)
  | none=>.fail)
 | _=>.fail
theorem b2t(cl cw cv:Bool)(k:Int)(ib:Bool)(_:Nm)(im:Nat)(x y z w:Nat)(_:Nm)(n:Nat)(g:Nat->Nat)(gB:Nat->Int){w9:HC}(e9:w9=⟨[.ptr 0 0],[(0,⟨false,150,E4 cl cw cv k ib 2 im x y z w 1 n,0⟩),(1,⟨false,100, .flts .f64 (2*n) g,0⟩),(2,⟨false,5, .ints .u8 (1*im) gB,0⟩)], .bool (decide (n<2∨cl=true/\n<3)),[],[],some (2*n=2*n/\
 1*im=1*im/\True)⟩):z7 G0 3 [] [] (j3 Tryz.f163) (q9 Tryz.f163.ntmps w9.args w9.heap 3) (r6 G0.E.T Tryz.f163.results.toList λS v=>w0 3 w9 S v)=(
 (cl=true->(decide ((↑n:Int)<3)=true->decide (n<2∨cl=true/\n<3)=true/\True)/\(decide ((↑n:Int)<3)=false->decide ((↑n:Int)<2)=decide (n<2∨cl=true/\n<3)/\True))/\(cl=false->decide ((↑n:Int)<2) =
 decide (n<2∨cl=true/\n<3)/\True)):=by subst e9;kernel_rfl
theorem a4P:q7 Tryz.prog 163 (p9 Z9):=by
 refine j8 g0 Tryz.func163 rfl (by kernel_rfl) λargs=>?_
 unfold Z9;split
 ·rename_i s;intro o0;try dsimp only
  split
  ·rename_i cl cw cv k ib dd im x y z w p n hm0;intro o1;try dsimp only
   split
   ·rename_i m1 g hm1;intro o2;try dsimp only
    split
    ·rename_i m2 gB hm2;intro ho;replace ho:m1=2*n/\m2=1*im/\True:=ho;obtain⟨hsz1,hsz2,ho⟩:=ho;subst hsz1;subst hsz2;refine⟨?_,_,_,(b2t cl cw cv k ib dd im x y z w p n g gB rfl).mpr ?_⟩
     ·refine g9 rfl ⟨?_,⟨trivial,B7 hm0 a8 a8,⟨trivial,(r9 hm1).1,⟨trivial,(o5 hm2).1,trivial⟩⟩⟩⟩;simp[j9,o8,o9,p7,nth,a8]
     ·refine⟨λhc=>⟨λh=>?_,λh=>?_⟩,λhc=>?_⟩
      ·have h:=of_decide_eq_true h;exact⟨decide_eq_true (.inr ⟨hc,by omega⟩),trivial⟩
      ·have h:=of_decide_eq_false h;rw[show decide ((n:Int)<2)=false from decide_eq_false (by omega),show decide (n<2∨cl=true/\n<3)=false from decide_eq_false (by rintro(h1|⟨_,h1⟩) <;> omega)];exact⟨rfl,trivial⟩
      ·by_cases h:n<2
       ·rw[show decide ((n:Int)<2)=true from decide_eq_true (by omega),show decide (n<2∨cl=true/\n<3)=true from decide_eq_true (.inl h)];exact⟨rfl,trivial⟩
       ·rw[show decide ((n:Int)<2)=false from decide_eq_false (by omega),show decide (n<2∨cl=true/\n<3)=false from decide_eq_false (by rintro(h1|⟨h2,h1⟩);omega;simp[hc]at h2)];exact⟨rfl,trivial⟩
    ·trivial
   ·trivial
  ·trivial
 ·trivial
noncomputable def b9o:List SV->RdM
 | [.ptr s 0, .int .i64 i]=>.read s λo0=>(match S8 o0.c with
  | some (cl,cw,cv,k,ib,dd,im,x,y,z,w,p,n)=>.read p λo1=>(match r7 .f64 o1.c with
  | some (m1,g)=>.read dd λo2=>(match o7 .u8 o2.c with
  | some (m2,gB)=>.ret ⟨[.ptr 0 0, .int .i64 i],[(0,⟨false,150,E4 cl cw cv k ib 2 im x y z w 1 n,0⟩),(1,⟨false,100, .flts .f64 m1 g,0⟩),(2,⟨false,5, .ints .u8 m2 gB,0⟩)], .agg [.flt .f64 (g (2*i.toNat)), .flt .f64 (g (2*i.toNat+1))],[],[],some (m1=2*n/\m2=1*im/\0<=i/\i<n)⟩
  | none=>.fail)
  | none=>.fail)
  | none=>.fail)
 | _=>.fail
theorem c1l(cl cw cv:Bool)(k:Int)(ib:Bool)(_:Nm)(im:Nat)(x y z w:Nat)(_:Nm)(n:Nat)(i:Int)(g:Nat->Nat)(gB:Nat->Int){w9:HC}(e9:w9=⟨[.ptr 0 0, .int .i64 i],[(0,⟨false,150,E4 cl cw cv k ib 2 im x y z w 1 n,0⟩),(1,⟨false,100, .flts .f64 (2*n) g,0⟩),(2,⟨false,5, .ints .u8 (1*im) gB,0⟩)], .agg [.flt .f64 (g (2*i.toNat)), .flt .f64 (g (2*i.toNat
 + 1))],[],[],some (2*n=2*n/\1*im=1*im/\0<=i/\i<n)⟩):z7 G0 3 [] [] (j3 Tryz.f206) (q9 Tryz.f206.ntmps w9.args w9.heap 3) (r6 G0.E.T Tryz.f206.results.toList λS v=>w0 3 w9 S v)=(
 (((0:Int)<=i/\i<(↑n:Int))/\1<=2*n)/\0+Int.toNat i*2+2<=2*n/\(g (0+Int.toNat i*2)=g (2*Int.toNat i)/\g (0+Int.toNat i*2+1)=g (2*Int.toNat i+1)/\True)/\True):=by subst e9;kernel_rfl
theorem d0l:q7 Tryz.prog 206 (p9 b9o):=by
 refine j8 g0 Tryz.func206 rfl (by kernel_rfl) λargs=>?_
 unfold b9o;split
 ·rename_i s i;intro o0;try dsimp only
  split
  ·rename_i cl cw cv k ib dd im x y z w p n hm0;intro o1;try dsimp only
   split
   ·rename_i m1 g hm1;intro o2;try dsimp only
    split
    ·rename_i m2 gB hm2;intro ho;replace ho:m1=2*n/\m2=1*im/\0<=i/\i<n:=ho;obtain⟨hsz1,hsz2,ho⟩:=ho;subst hsz1;subst hsz2;refine⟨?_,_,_,(c1l cl cw cv k ib dd im x y z w p n i g gB rfl).mpr ?_⟩
     ·refine g9 rfl ⟨?_,⟨trivial,B7 hm0 a8 a8,⟨trivial,(r9 hm1).1,⟨trivial,(o5 hm2).1,trivial⟩⟩⟩⟩;simp[j9,o8,p8,o9,p7,nth,a8]
     ·have e:0+i.toNat*2=2*i.toNat:=by omega
      rw[e];exact⟨by omega,by omega,by simp⟩
    ·trivial
   ·trivial
  ·trivial
 ·trivial
noncomputable def a4V:List SV->RdM
 | [.ptr s 0]=>.read s λo0=>(match S8 o0.c with
  | some (cl,cw,cv,k,ib,dd,im,x,y,z,w,p,n)=>.read p λo1=>(match r7 .f64 o1.c with
  | some (m1,g)=>.read dd λo2=>(match o7 .u8 o2.c with
  | some (m2,gB)=>.ret ⟨[.ptr 0 0],[(0,⟨false,150,E4 cl cw cv k ib 2 im x y z w 1 n,0⟩),(1,⟨false,100, .flts .f64 m1 g,0⟩),(2,⟨false,5, .ints .u8 m2 gB,0⟩)], .int .i64 (nsg cl n (wz g)),[],[],some (m1=2*n/\m2=1*im/\n<=1000000/\FL2 g (2*n))⟩
  | none=>.fail)
  | none=>.fail)
  | none=>.fail)
 | _=>.fail
theorem b4I(cl cw cv:Bool)(k:Int)(ib:Bool)(_:Nm)(im:Nat)(x y z w:Nat)(_:Nm)(n:Nat)(g:Nat->Nat)(gB:Nat->Int){w9:HC}(e9:w9=⟨[.ptr 0 0],[(0,⟨false,150,E4 cl cw cv k ib 2 im x y z w 1 n,0⟩),(1,⟨false,100, .flts .f64 (2*n) g,0⟩),(2,⟨false,5, .ints .u8 (1*im) gB,0⟩)], .int .i64 (nsg cl n (wz g)),[],[],some (2*n=2*n/\1*im=1*im
 /\n<=1000000/\FL2 g (2*n))⟩){T1}(t1:T1=(fEq .f64 (g (0+Int.toNat (IntKind.wrap .i64 ((↑n:Int)-1))*2)) (g 0)&&(fEq .f64 (g (0+Int.toNat (IntKind.wrap .i64 ((↑n:Int)-1))*2+1)) (g 1)&&true))){T2}(t2:T2=(↑n:Int))
 {T3}(t3:T3=(↑(nsg cl n (wz g)):Int)):z7 GPF 3 [] [] (j3 Tryz.f111) (q9 Tryz.f111.ntmps w9.args w9.heap 3) (r6 GPF.E.T Tryz.f111.results.toList λS v=>w0 3 w9 S v)=(
 (cl=true->(decide (T2<3)=true->0=T3/\True)/\(decide (T2<3)=false->(((0:Int)<=IntKind.wrap .i64 (T2-1)/\IntKind.wrap .i64 (T2-1)<T2)/\1<=2*n)/\0+Int.toNat (IntKind.wrap .i64 (T2-1))*2+2<=2*n/\(((0:Int)<=0
 /\0<T2)/\1<=2*n)/\2<=2*n/\true=true/\(T1=true->IntKind.wrap .i64 (T2-1)=T3/\True)/\(T1=false->T2=T3/\True)))/\(cl=false->(decide (T2<2)=true->0=T3/\True)/\(decide (T2<(2:Int))=false->IntKind.wrap .i64
 (T2-1)=T3/\True))):=by subst e9 t1 t2 t3;kernel_rfl
theorem b8O:q7 Tryz.prog 111 (p9 a4V):=by
 refine j8 gPF Tryz.func111 rfl (by kernel_rfl) λargs=>?_
 unfold a4V;split
 ·rename_i s;intro o0;try dsimp only
  split
  ·rename_i cl cw cv k ib dd im x y z w p n hm0;intro o1;try dsimp only
   split
   ·rename_i m1 g hm1;intro o2;try dsimp only
    split
    ·rename_i m2 gB hm2;intro ho;replace ho:m1=2*n/\m2=1*im/\n<=1000000/\FL2 g (2*n):=ho;obtain⟨hsz1,hsz2,ho⟩:=ho;subst hsz1;subst hsz2;refine⟨?_,_,_,(b4I cl cw cv k ib dd im x y z w p n g gB rfl rfl rfl rfl).mpr ?_⟩
     ·refine g9 rfl ⟨?_,⟨trivial,B7 hm0 a8 a8,⟨trivial,(r9 hm1).1,⟨trivial,(o5 hm2).1,trivial⟩⟩⟩⟩;simp[j9,o8,o9,p7,nth,a8]
     ·obtain⟨hn,hg⟩:=ho;have hw:IntKind.i64.wrap ((n:Int)-1)=n-1:=j5 (by omega) (by omega);rw[hw];refine⟨λhc=>⟨λh=>?_,λh=>?_⟩,λhc=>⟨λh=>?_,λh=>?_⟩⟩
      ·have h:=of_decide_eq_true h;refine⟨?_,trivial⟩;unfold nsg;rw[if_pos hc,if_pos (by omega)];rfl
      ·have h:=of_decide_eq_false h;have e:0+((n:Int)-1).toNat*2=2*(n-1):=by omega
       rw[e];have e1:fEq .f64 (g (2*(n-1))) (g 0)=decide (wz g (2*(n-1))=wz g 0):=E5 (hg _ (by omega)).1 (hg _ (by omega)).1;have e2:fEq .f64 (g (2*(n-1)+1)) (g 1)=decide (wz g (2*(n-1)+1)=wz g 1):=E5 (hg _ (by omega)).1 (hg _ (by omega)).1;rw[e1,e2];refine⟨by omega,by omega,by omega,by omega,rfl,λh1=>⟨?_,trivial⟩,λh1=>⟨?_,trivial⟩⟩
       ·unfold nsg;rw[if_pos hc,if_neg (by omega),if_pos (by simpa using h1)];omega
       ·unfold nsg;rw[if_pos hc,if_neg (by omega),if_neg (by simpa using h1)]
      ·have h:=of_decide_eq_true h;refine⟨?_,trivial⟩;unfold nsg;rw[if_neg (by simp[hc])];omega
      ·have h:=of_decide_eq_false h;refine⟨?_,trivial⟩;unfold nsg;rw[if_neg (by simp[hc])];omega
    ·trivial
   ·trivial
  ·trivial
 ·trivial
noncomputable def a9v:List SV->RdM
 | [.ptr s 0, .int .i64 i]=>.read s λo0=>(match S8 o0.c with
  | some (cl,cw,cv,k,ib,dd,im,x,y,z,w,p,n)=>.read p λo1=>(match r7 .f64 o1.c with
  | some (m1,g)=>.read dd λo2=>(match o7 .u8 o2.c with
  | some (m2,gB)=>.ret ⟨[.ptr 0 0, .int .i64 i],[(0,⟨false,150,E4 cl cw cv k ib 2 im x y z w 1 n,0⟩),(1,⟨false,100, .flts .f64 m1 g,0⟩),(2,⟨false,5, .ints .u8 m2 gB,0⟩)], .agg [.flt .f64 (g (2*i.toNat)), .flt .f64 (g (2*i.toNat+1)), .flt .f64 (g (2*nx n i.toNat)), .flt .f64 (g (2*nx n i.toNat+1))],[],[],some (m1=2*n/\m2=1*im/\0<=i/\i<n/\n<=1000000)⟩
  | none=>.fail)
  | none=>.fail)
  | none=>.fail)
 | _=>.fail
theorem b7m(cl cw cv:Bool)(k:Int)(ib:Bool)(_:Nm)(im:Nat)(x y z w:Nat)(_:Nm)(n:Nat)(i:Int)(g:Nat->Nat)(gB:Nat->Int){w9:HC}(e9:w9=⟨[.ptr 0 0, .int .i64 i],[(0,⟨false,150,E4 cl cw cv k ib 2 im x y z w 1 n,0⟩),(1,⟨false,100, .flts .f64 (2*n) g,0⟩),(2,⟨false,5, .ints .u8 (1*im) gB,0⟩)], .agg [.flt .f64 (g (2*i.toNat)), .flt .f64 (g (2*i.toNat
 + 1)), .flt .f64 (g (2*nx n i.toNat)), .flt .f64 (g (2*nx n i.toNat+1))],[],[],some (2*n=2*n/\1*im=1*im/\0<=i/\i<n/\n<=1000000)⟩){T1}(t1:T1=(IntKind.wrap .i64 (i+(1:Int)))){T2}(t2:T2=(i==IntKind.wrap .i64 ((↑n :
 Int)-1))):z7 GPF 3 [] [] (j3 Tryz.f112) (q9 Tryz.f112.ntmps w9.args w9.heap 3) (r6 GPF.E.T Tryz.f112.results.toList λS v=>w0 3 w9 S v)=(
 (((0:Int)<=i/\i<(↑n:Int))/\1<=2*n)/\0+Int.toNat i*2+2<=2*n/\(T2=true->(((0:Int)<=0/\0<(↑n:Int))/\1<=2*n)/\2<=2*n/\(g (0+Int.toNat i*2)=g (2*Int.toNat i)/\g (0+Int.toNat i*2+1)=g (2 *
 Int.toNat i+1)/\g 0=g (2*nx n (Int.toNat i))/\g 1=g (2*nx n (Int.toNat i)+1)/\True)/\True)/\(T2=false->(((0:Int)<=IntKind.wrap .i64 (i+(1:Int))/\IntKind.wrap .i64 (i+(1:Int))<(↑n:Int))/\1<=2*n)/\0+Int.toNat
 T1*2+2<=2*n/\(g (0+Int.toNat i*2)=g (2*Int.toNat i)/\g (0+Int.toNat i*2+1)=g (2*Int.toNat i+1)/\g (0+Int.toNat T1*2)=g (2*nx n (Int.toNat i))/\g (0+Int.toNat T1*2+1)=g (2*nx n (Int.toNat i)+1)/\
 True)/\True)):=by subst e9 t1 t2;kernel_rfl
theorem c2M:q7 Tryz.prog 112 (p9 a9v):=by
 refine j8 gPF Tryz.func112 rfl (by kernel_rfl) λargs=>?_
 unfold a9v;split
 ·rename_i s i;intro o0;try dsimp only
  split
  ·rename_i cl cw cv k ib dd im x y z w p n hm0;intro o1;try dsimp only
   split
   ·rename_i m1 g hm1;intro o2;try dsimp only
    split
    ·rename_i m2 gB hm2;intro ho;replace ho:m1=2*n/\m2=1*im/\0<=i/\i<n/\n<=1000000:=ho;obtain⟨hsz1,hsz2,ho⟩:=ho;subst hsz1;subst hsz2;refine⟨?_,_,_,(b7m cl cw cv k ib dd im x y z w p n i g gB rfl rfl rfl).mpr ?_⟩
     ·refine g9 rfl ⟨?_,⟨trivial,B7 hm0 a8 a8,⟨trivial,(r9 hm1).1,⟨trivial,(o5 hm2).1,trivial⟩⟩⟩⟩;simp[j9,o8,p8,o9,p7,nth,a8]
     ·obtain⟨h0,h1,hn⟩:=ho;have hw:IntKind.i64.wrap ((n:Int)-1)=n-1:=j5 (by omega) (by omega);have hw1:IntKind.i64.wrap (i+1)=i+1:=j5 (by omega) (by omega);have e:0+i.toNat*2=2*i.toNat:=by omega
      rw[hw,hw1,e];refine⟨by omega,by omega,λh=>?_,λh=>?_⟩
      ·have h:i=n-1:=by simpa using h
       have e2:nx n i.toNat=0:=by unfold nx;rw[if_pos (by omega)]
       rw[e2];refine⟨by omega,by omega,?_⟩;simp
      ·have h:¬i=n-1:=by simpa using h
       have e2:nx n i.toNat=i.toNat+1:=by unfold nx;rw[if_neg (by omega)]
       have e3:0+(i+1).toNat*2=2*(i.toNat+1):=by omega
       rw[e2,e3];refine⟨by omega,by omega,?_⟩;simp
    ·trivial
   ·trivial
  ·trivial
 ·trivial
theorem FI.V_le{x y:Nat}{a b:Int}(hx:FI x a)(hy:FI y b)(hab:a<=b):V x<=V y:=by
 rw[hx.2,hy.2];exact Int.mul_le_mul_of_nonneg_right hab (Int.le_of_lt (Int.pow_pos (by decide)))
theorem c0O(x y:Nat):C0 x y=x∨C0 x y=y:=by unfold C0;split <;> simp
theorem c1e(x y:Nat):B8 x y=x∨B8 x y=y:=by unfold B8;split <;> simp
def PS(g:Nat->Int)(len:Nat):Prop:=len<=40/\∀ j,j<2*len->j7 (g j)
section
variable {g:Nat->Int} {len:Nat} (h:PS g len)
include h
theorem PS.wz{j:Nat}(hj:j<2*len):wz (fI g) j=g j:=(H5 (h.2 j hj)).2
theorem PS.w1{j:Nat}(hj:j<2*len):W1 (fI g j):=(H5 (h.2 j hj)).1
theorem PS.fl2:FL2 (fI g) (2*len):=λ_ hj=>(h.w1 hj).w22
theorem PS.whl:Whl (fI g) g (2*len):=c4E h.2
theorem PS.nsg(cl:Bool):nsg cl len (Go.Proofs.Tryz.Sx.wz (fI g))=o6 len cl g:=by
 unfold Go.Proofs.Tryz.Sx.nsg o6;cases cl
 ·simp only[Bool.false_eq_true,if_false,false_and,or_false];split <;> omega
 ·simp only[if_true,true_and];by_cases h3:len<3
  ·rw[if_pos h3,if_pos (by omega)]
  ·rw[if_neg h3,if_neg (show ¬(len<2∨len<3) by omega),h.wz (by omega),h.wz (by omega),h.wz (by omega),h.wz (by omega),show 2*(len-1)=2*len-2 by omega,show 2*len-2+1=2*len-1 by omega];by_cases e:g (2*len-2)=g 0/\g (2*len-1)=g 1
   ·rw[if_pos e,if_neg (λhh=>hh e)]
   ·rw[if_neg e,if_pos e]
theorem PS.ppOk{cl:Bool}(hb:j4 len cl=true):ppOk (fI g) len:=c4Y (by have:=h.1;omega) h.whl (b2k hb)
theorem PS.lo{cl:Bool}(hb:j4 len cl=true){k:Nat}(hk:k<2):FI (rlo (fI g) k len) (mn g k len)/\(mn g k len).natAbs<=4194304:=by
 have:=b2k hb;rw[<-b4b (by omega)];exact b5e h.whl hk len (Nat.le_refl _)
theorem PS.hi{cl:Bool}(hb:j4 len cl=true){k:Nat}(hk:k<2):FI (rhi (fI g) k len) (mx g k len)/\(mx g k len).natAbs<=4194304:=by
 have:=b2k hb;rw[<-b3q (by omega)];exact b6w h.whl hk len (Nat.le_refl _)
theorem PS.seg{cl:Bool}{i:Nat}(hi:i<o6 len cl g):i<len/\F4 g len (4*i)=g (2*i)/\F4 g len (4*i+1)=g (2*i+1)/\F4 g len (4*i+2)=g (2*nx len i)/\F4 g len (4*i+3)=g (2*nx len i+1):=by
 have _:=h
 have hl:i<len:=by
  unfold o6 at hi;split at hi
  ·omega
  ·split at hi <;> omega
 refine⟨hl,?_⟩;unfold nx;by_cases e:i+1=len
 ·rw[if_pos e];exact b3w (by omega)
 ·rw[if_neg e];exact b3P (by omega)
theorem PS.nsegs_pp{cl:Bool}(hn:0<o6 len cl g):j4 len cl=true:=by
 have _:=h;unfold o6 at hn;split at hn
 ·omega
 ·rename_i hh;unfold j4;exact decide_eq_true ⟨by omega,λhc=>by rcases Nat.lt_or_ge len 3 with h3|h3;exact absurd (.inr ⟨hc,h3⟩) hh;exact h3⟩
theorem PS.item{cl:Bool}{i:Nat}(hi:i<o6 len cl g):a1u (rcF (fI g) len) len (ppQ len cl (fI g)) i:=by
 have hb:j4 len cl=true:=h.nsegs_pp (by omega);have hl:=(h.seg hi).1;have hn:=a1q hl
 have key:∀ j,j<2->(V (rlo (fI g) j len)<=V (C0 (fI g (2*i+j)) (fI g (2*nx len i+j)))/\V (B8 (fI g (2*i+j)) (fI g (2*nx len i+j)))<=V (rhi (fI g) j len)):=λj hj=>by
  have l1:=Y5 (z:=g) (k:=j) hl;have l2:=Y5 (z:=g) (k:=j) hn;have h1:=a0h (z:=g) (k:=j) hl;have h2:=a0h (z:=g) (k:=j) hn;have lf:=(b5e h.whl hj len (Nat.le_refl _)).1;have hf:=(b6w h.whl hj len (Nat.le_refl _)).1;have f1:=(h.whl (2*i+j) (by omega)).1;have f2:=(h.whl (2*nx len i+j) (by omega)).1;constructor
  ·rcases c0O (fI g (2*i+j)) (fI g (2*nx len i+j))with e|e <;> rw[e]
   ·exact FI.V_le lf f1 l1
   ·exact FI.V_le lf f2 l2
  ·rcases c1e (fI g (2*i+j)) (fI g (2*nx len i+j))with e|e <;> rw[e]
   ·exact FI.V_le f1 hf h1
   ·exact FI.V_le f2 hf h2
 have w:=c3q h.fl2 hl;refine⟨hl,⟨w.1.1.1,w.2.1.1.1,w.2.2.1.1.1,w.2.2.2.1.1⟩,?_⟩;unfold ppQ pick inQ rcF;simp only[hb,if_true];exact⟨(key 0 (by decide)).1,(key 1 (by decide)).1,(key 0 (by decide)).2,(key 1 (by decide)).2⟩
theorem PS.bix{cl:Bool}{k:Int}(hk:k=1∨k=2):b7t (Go.Proofs.Tryz.Sx.nsg cl len (Go.Proofs.Tryz.Sx.wz (fI g))) k len (fI g) (ppQ len cl (fI g)):=by
 refine⟨hk,by have:=h.1;omega,h.fl2,λ_=>⟨?_,λi hi=>h.item (cl:=cl) (by rw[<-h.nsg];exact hi)⟩⟩;unfold ppQ pick;by_cases hb:j4 len cl=true
 ·simp only[hb,if_true];have l0:=h.lo hb (k:=0) (by decide);have l1:=h.lo hb (k:=1) (by decide);have h0:=h.hi hb (k:=0) (by decide);have h1:=h.hi hb (k:=1) (by decide);exact⟨FI.fub l0.1 l0.2,FI.fub l1.1 l1.2,FI.fub h0.1 h0.2,FI.fub h1.1 h1.2⟩
 ·simp only[if_neg hb];have z:=FI.fub V9 (by decide);exact⟨z,z,z,z⟩
theorem PS.mk{cl:Bool}{m k:Int}(hk:0<=k/\k<=2):a0N len cl m k (fI g):=by
 refine⟨by have:=h.1;omega,h.ppOk,λhi=>h.bix ?_⟩;unfold I1 at hi
 have:k≠0:=by
  intro e;rw[e]at hi;simp at hi
 omega
end
noncomputable def lfW(ax ay bx by' px py:Nat):Bool:=decide (¬On (wh ax) (wh ay) (wh bx) (wh by') (wh px) (wh py)/\Lft (wh ax) (wh ay) (wh bx) (wh by') (wh px) (wh py))
noncomputable def isW(ax ay bx by' cx cy dx dy:Nat):Bool:=decide (a4F (wh ax) (wh ay) (wh bx) (wh by') (wh cx) (wh cy) (wh dx) (wh dy))
noncomputable def GCP:Ctx:=⟨⟨tys,FP⟩,[(90,l8 b4O),(210,l8 b7e),(211,l8 b3k)]⟩
theorem gCP:v8 Tryz.prog GCP:=⟨⟨z6,a5X⟩,g8.cons (.pure ray) (g8.cons (.pure c9z) (g8.cons (.pure c8T) g8.nil)),by kernel_rfl⟩
noncomputable def c4g:List SV->RdM
 | [.agg [.flt .f64 px, .flt .f64 py],v, .ptr ix 0, .ptr inn 0, .agg [.flt .f64 ax, .flt .f64 ay, .flt .f64 bx, .flt .f64 by'], .int .i64 i]=>.read ix λo0=>(match a0O o0 3 0 with
  | true=>(match bxI o0.c with
  | some n=>.read inn λo1=>(match a0O o1 4 0 with
  | true=>(match bxB o1.c with
  | some b=>(match v.toB with
  | some al=>.ret ⟨[.agg [.flt .f64 px, .flt .f64 py], .bool al, .ptr 0 0, .ptr 1 0, .agg [.flt .f64 ax, .flt .f64 ay, .flt .f64 bx, .flt .f64 by'], .int .i64 i],[(0,⟨true,3,V0 n,0⟩),(1,⟨true,4,G4 b,0⟩)], .bool (!(onW ax ay bx by' px py)),[(0,⟨true,3,V0 (if onW ax ay bx by' px py=true then i else n),0⟩),(1,⟨true,4,G4 (if onW ax ay bx by' px py=true then al else xor b (lfW ax ay bx by' px py)),0⟩)],[],some (PW ax ay bx by' px py)⟩
  | none=>.fail)
  | none=>.fail)
  | false=>.fail)
  | none=>.fail)
  | false=>.fail)
 | _=>.fail
theorem c4b(px py ax ay bx by':Nat)(al:Bool)(i:Int)(n:Int)(b:Bool){w9:HC}(e9:w9=⟨[.agg [.flt .f64 px, .flt .f64 py], .bool al, .ptr 0 0, .ptr 1 0, .agg [.flt .f64 ax, .flt .f64 ay, .flt .f64 bx, .flt .f64 by'], .int .i64 i],[(0,⟨true,3,V0 n,0⟩),(1,⟨true,4,G4 b,0⟩)], .bool (!(onW ax ay bx by' px py)),
 [(0,⟨true,3,V0 (if onW ax ay bx by' px py=true then i else n),0⟩),(1,⟨true,4,G4 (if onW ax ay bx by' px py=true then al else xor b (lfW ax ay bx by' px py)),0⟩)],[],some (PW ax ay bx by' px py)⟩){T1}(t1:T1=(3=3/\0=0/\(n =
 if onW ax ay bx by' px py=true then i else n)/\True)){T2}(t2:T2=(!onW ax ay bx by' px py)):z7 GCP 2 [] [] (j3 Tryz.f184) (q9 Tryz.f184.ntmps w9.args w9.heap 2) (r6 GCP.E.T Tryz.f184.results.toList λS v=>w0 2 w9 S v)=(
 Pts ax ay bx by' px py (wh ax) (wh ay) (wh bx) (wh by') (wh px) (wh py)/\(decide (Go.Geo.On (wh ax) (wh ay) (wh bx) (wh by') (wh px) (wh py))=true->T2=false/\True/\(3=3/\0=0/\(i=if onW ax ay bx by' px py=true then i else n)/\True)
 /\True/\(4=4/\0=0/\(al=if onW ax ay bx by' px py=true then al else b ^^ lfW ax ay bx by' px py)/\True)/\True)/\(decide (Go.Geo.On (wh ax) (wh ay) (wh bx) (wh by') (wh px) (wh py))=false->(decide (¬Go.Geo.On (wh ax) (wh ay) (wh bx)
 (wh by') (wh px) (wh py)/\Go.Geo.Lft (wh ax) (wh ay) (wh bx) (wh by') (wh px) (wh py))=true->T2=true/\True/\T1/\True/\(4=4/\0=0/\((!b)=if onW ax ay bx by' px py=true then al else b ^^ lfW ax ay bx by' px py)/\True)/\True)/\
 (decide (¬Go.Geo.On (wh ax) (wh ay) (wh bx) (wh by') (wh px) (wh py)/\Go.Geo.Lft (wh ax) (wh ay) (wh bx) (wh by') (wh px) (wh py))=false->T2=true/\True/\T1/\True/\(4=4/\0=0/\(b=if onW ax ay bx by' px py=true then al else b ^^ lfW
 ax ay bx by' px py)/\True)/\True))):=by subst e9 t1 t2;kernel_rfl
theorem cpS:q7 Tryz.prog 184 (p9 c4g):=by
 refine j8 gCP Tryz.func184 rfl (by kernel_rfl) λargs=>?_
 unfold c4g;split
 ·rename_i px py v ix inn ax ay bx by' i;intro o0;try dsimp only
  split
  ·rename_i hrw0;try dsimp only
   split
   ·rename_i n hm0;intro o1;try dsimp only
    split
    ·rename_i hrw1;try dsimp only
     split
     ·rename_i b hm1;try dsimp only
      split
      ·rename_i al hal;intro ho;replace ho:PW ax ay bx by' px py:=ho;refine⟨?_,_,_,(c4b px py ax ay bx by' al i n b rfl rfl rfl).mpr ?_⟩
       ·refine g9 rfl ⟨?_,⟨trivial,K5 hrw0 (a1c hm0),⟨trivial,K5 hrw1 (I7 hm1),trivial⟩⟩⟩;simp[j9,o8,p8,r8,o9,p7,nth,a8,C7 hal]
       ·have e1:decide (On (wh ax) (wh ay) (wh bx) (wh by') (wh px) (wh py))=onW ax ay bx by' px py:=rfl;have e2:decide (¬On (wh ax) (wh ay) (wh bx) (wh by') (wh px) (wh py)/\Lft (wh ax) (wh ay) (wh bx) (wh by') (wh px) (wh py))=lfW ax ay bx by' px py:=rfl;simp only[e1,e2];refine⟨ho,?_⟩;generalize onW ax ay bx by' px py=o;generalize lfW ax ay bx by' px py=l;cases o <;> cases l <;> simp
      ·trivial
     ·trivial
    ·trivial
   ·trivial
  ·trivial
 ·trivial
noncomputable def c4I:Ctx:=⟨⟨tys,[]⟩,[(184,p9 c4g)]⟩
theorem d0R:v8 Tryz.prog c4I:=⟨⟨z6,FlatsOk.nil⟩,g8.cons cpS g8.nil,by kernel_rfl⟩
noncomputable def c5f:List SV->RdM
 | [.agg [.flt .f64 ax, .flt .f64 ay, .flt .f64 bx, .flt .f64 by'], .int .i64 i, .ptr p 0, .ptr a 0, .ptr ix 0, .ptr inn 0]=>.read p λo0=>(match bxP o0.c with
  | some (px,py)=>.read a λo1=>(match bxB o1.c with
  | some al=>.read ix λo2=>(match a0O o2 3 0 with
  | true=>(match bxI o2.c with
  | some n=>.read inn λo3=>(match a0O o3 4 0 with
  | true=>(match bxB o3.c with
  | some b=>.ret ⟨[.agg [.flt .f64 ax, .flt .f64 ay, .flt .f64 bx, .flt .f64 by'], .int .i64 i, .ptr 0 0, .ptr 1 0, .ptr 2 0, .ptr 3 0],[(0,⟨false,100,b5f px py,0⟩),(1,⟨false,4,G4 al,0⟩),(2,⟨true,3,V0 n,0⟩),(3,⟨true,4,G4 b,0⟩)], .bool (!(onW ax ay bx by' px py)),[(2,⟨true,3,V0 (if onW ax ay bx by' px py=true then i else n),0⟩),(3,⟨true,4,G4 (if onW ax ay bx by' px py=true then al else xor b (lfW ax ay bx by' px py)),0⟩)],[],some (PW ax ay bx by' px py)⟩
  | none=>.fail)
  | false=>.fail)
  | none=>.fail)
  | false=>.fail)
  | none=>.fail)
  | none=>.fail)
 | _=>.fail
theorem c5q(px py ax ay bx by':Nat)(al:Bool)(i:Int)(n:Int)(b:Bool){w9:HC}(e9:w9=⟨[.agg [.flt .f64 ax, .flt .f64 ay, .flt .f64 bx, .flt .f64 by'], .int .i64 i, .ptr 0 0, .ptr 1 0, .ptr 2 0, .ptr 3 0],[(0,⟨false,100,b5f px py,0⟩),(1,⟨false,4,G4 al,0⟩),(2,⟨true,3,V0 n,0⟩),(3,⟨true,4,G4 b,
 0⟩)], .bool (!(onW ax ay bx by' px py)),[(2,⟨true,3,V0 (if onW ax ay bx by' px py=true then i else n),0⟩),(3,⟨true,4,G4 (if onW ax ay bx by' px py=true then al else xor b (lfW ax ay bx by' px py)),0⟩)],[],some (PW ax ay bx by' px
 py)⟩):z7 c4I 4 [] [] (j3 Tryz.f185) (q9 Tryz.f185.ntmps w9.args w9.heap 4) (r6 c4I.E.T Tryz.f185.results.toList λS v=>w0 4 w9 S v)=(
 PW ax ay bx by' px py/\(!onW ax ay bx by' px py) = !onW ax ay bx by' px py/\True/\(3=3/\0=0/\((if onW ax ay bx by' px py=true then i else n)=if onW ax ay bx by' px py=true then i else n)/\True)/\True/\(4=4/\0=0/\((if onW ax ay
 bx by' px py=true then al else b ^^ lfW ax ay bx by' px py)=if onW ax ay bx by' px py=true then al else b ^^ lfW ax ay bx by' px py)/\True)/\True):=by subst e9;kernel_rfl
theorem cpG:q7 Tryz.prog 185 (p9 c5f):=by
 refine j8 d0R Tryz.func185 rfl (by kernel_rfl) λargs=>?_
 unfold c5f;split
 ·rename_i ax ay bx by' i p a ix inn;intro o0;try dsimp only
  split
  ·rename_i px py hm0;intro o1;try dsimp only
   split
   ·rename_i al hm1;intro o2;try dsimp only
    split
    ·rename_i hrw2;try dsimp only
     split
     ·rename_i n hm2;intro o3;try dsimp only
      split
      ·rename_i hrw3;try dsimp only
       split
       ·rename_i b hm3;intro ho;replace ho:PW ax ay bx by' px py:=ho;refine⟨?_,_,_,(c5q px py ax ay bx by' al i n b rfl).mpr ?_⟩
        ·refine g9 rfl ⟨?_,⟨trivial,b1f hm0,⟨trivial,I7 hm1,⟨trivial,K5 hrw2 (a1c hm2),⟨trivial,K5 hrw3 (I7 hm3),trivial⟩⟩⟩⟩⟩;simp[j9,o8,p8,r8,o9,p7,nth,a8]
        ·simp[ho]
       ·trivial
      ·trivial
     ·trivial
    ·trivial
   ·trivial
  ·trivial
 ·trivial
def W8(a b c d e f g h:Nat):Prop:=(W1 a/\W1 b/\W1 c/\W1 d)/\(W1 e/\W1 f/\W1 g/\W1 h)
noncomputable def clW(ax ay bx by' cx cy dx dy:Nat):Bool:=decide (xp (wh cx-wh ax) (wh cy-wh ay) (wh bx-wh ax) (wh by'-wh ay)=0)&&decide (xp (wh dx-wh ax) (wh dy-wh ay) (wh bx-wh ax) (wh by'-wh ay)=0)
noncomputable def eqW(px py cx cy dx dy:Nat):Bool:=decide (wh px=wh cx/\wh py=wh cy)||decide (wh px=wh dx/\wh py=wh dy)
def stp(al isc col aeq beq ao bo:Bool)(ct:Int):Bool×Bool×Bool×Int :=
 if isc=false then(decide (ct<2),ao,bo,ct)
 else if al=true then(decide (ct+1<2),ao,bo,ct+1)
 else if col=true then(decide (ct<2),ao,bo,ct)
 else if (!ao&&aeq)=true then(true,true,bo,ct)
 else if (!bo&&beq)=true then(true,ao,true,ct)
 else(decide (ct+1<2),ao,bo,ct+1)
noncomputable def R3(ax ay bx by' cx cy dx dy:Nat)(al ao bo:Bool)(ct:Int):Bool×Bool×Bool×Int :=
 stp al (isW ax ay bx by' cx cy dx dy) (clW ax ay bx by' cx cy dx dy) (eqW ax ay cx cy dx dy) (eqW bx by' cx cy dx dy) ao bo ct
noncomputable def c5M:List SV->RdM
 | [.agg [.flt .f64 cx, .flt .f64 cy, .flt .f64 dx, .flt .f64 dy], .int .i64 i, .ptr p 0, .ptr a 0, .ptr x 0, .ptr y 0, .ptr z 0]=>.read p λo0=>(match bx4 o0.c with
  | some (ax,ay,bx,by')=>.read a λo1=>(match bxB o1.c with
  | some al=>.read x λo2=>(match a0O o2 4 0 with
  | true=>(match bxB o2.c with
  | some ao=>.read y λo3=>(match a0O o3 4 0 with
  | true=>(match bxB o3.c with
  | some bo=>.read z λo4=>(match a0O o4 3 0 with
  | true=>(match bxI o4.c with
  | some ct=>.ret ⟨[.agg [.flt .f64 cx, .flt .f64 cy, .flt .f64 dx, .flt .f64 dy], .int .i64 i, .ptr 0 0, .ptr 1 0, .ptr 2 0, .ptr 3 0, .ptr 4 0],[(0,⟨false,111,b5y ax ay bx by',0⟩),(1,⟨false,4,G4 al,0⟩),(2,⟨true,4,G4 ao,0⟩),(3,⟨true,4,G4 bo,0⟩),(4,⟨true,3,V0 ct,0⟩)], .bool (R3 ax ay bx by' cx cy dx dy al ao bo ct).1,[(2,⟨true,4,G4 (R3 ax ay bx by' cx cy dx dy al ao bo ct).2.1,0⟩),(3,⟨true,4,G4 (R3 ax ay bx by' cx cy dx dy al ao bo ct).2.2.1,0⟩),(4,⟨true,3,V0 (R3 ax ay bx by' cx cy dx dy al ao bo ct).2.2.2,0⟩)],[],some (W8 ax ay bx by' cx cy dx dy/\0<=ct/\ct<=1000000)⟩
  | none=>.fail)
  | false=>.fail)
  | none=>.fail)
  | false=>.fail)
  | none=>.fail)
  | false=>.fail)
  | none=>.fail)
  | none=>.fail)
 | _=>.fail
theorem c4a(ax ay bx by' cx cy dx dy:Nat)(i:Int)(al ao bo:Bool)(ct:Int){w9:HC}(e9:w9=⟨[.agg [.flt .f64 cx, .flt .f64 cy, .flt .f64 dx, .flt .f64 dy], .int .i64 i, .ptr 0 0, .ptr 1 0, .ptr 2 0, .ptr 3 0, .ptr 4 0],[(0,⟨false,111,b5y ax ay bx by',0⟩),(1,⟨false,4,G4 al,0⟩),(2,⟨true,4,G4 ao,0⟩),(3,
 ⟨true,4,G4 bo,0⟩),(4,⟨true,3,V0 ct,0⟩)], .bool (R3 ax ay bx by' cx cy dx dy al ao bo ct).1,[(2,⟨true,4,G4 (R3 ax ay bx by' cx cy dx dy al ao bo ct).2.1,0⟩),(3,⟨true,4,G4 (R3 ax ay bx by' cx cy dx dy al ao bo
 ct).2.2.1,0⟩),(4,⟨true,3,V0 (R3 ax ay bx by' cx cy dx dy al ao bo ct).2.2.2,0⟩)],[],some (W8 ax ay bx by' cx cy dx dy/\0<=ct/\ct<=1000000)⟩){T1}(t1:T1=(R3 ax ay bx by' cx cy dx dy al ao bo ct)){T2}(t2:T2=((!ao)=true->((fEq
 .f64 ax cx&&(fEq .f64 ay cy&&true))=true->T1.1=true/\True/\(4=4/\0=0/\(T1.2).1=true/\True)/\True/\(4=4/\0=0/\bo=((Prod.snd T1).2).1/\True)/\True/\(3=3/\0=0/\ct=((T1.2).2).2/\True)/\True)/\((fEq .f64 ax cx
 && (fEq .f64 ay cy&&true))=false->((fEq .f64 ax dx&&(fEq .f64 ay dy&&true))=true->T1.1=true/\True/\(4=4/\0=0/\(T1.2).1=true/\True)/\True/\(4=4/\0=0/\bo=((T1.2).2).1/\True)/\True/\(3=3/\0=0/\ct =
 ((T1.2).2).2/\True)/\True)/\((fEq .f64 ax dx&&(fEq .f64 ay dy&&true))=false->((!bo)=true->((fEq .f64 bx cx&&(fEq .f64 by' cy&&true))=true->T1.1=true/\True/\(4=4/\0=0/\ao=(T1.2).1/\True)/\True/\(4=4/\0=0/\
 ((T1.2).2).1=true/\True)/\True/\(3=3/\0=0/\ct=((T1.2).2).2/\True)/\True)/\((fEq .f64 bx cx&&(fEq .f64 by' cy&&true))=false->((fEq .f64 bx dx&&(fEq .f64 by' dy&&true))=true->T1.1=true/\True/\(4=4/\0=0/\ao =
 (Prod.snd T1).1/\True)/\True/\(4=4/\0=0/\((T1.2).2).1=true/\True)/\True/\(3=3/\0=0/\ct=((T1.2).2).2/\True)/\True)/\((fEq .f64 bx dx&&(fEq .f64 by' dy&&true))=false->decide (IntKind.wrap .i64 (ct+(1:Int))<(2 :
 Int))=T1.1/\True/\(4=4/\0=0/\ao=(T1.2).1/\True)/\True/\(4=4/\0=0/\bo=((T1.2).2).1/\True)/\True/\(3=3/\0=0/\IntKind.wrap .i64 (ct+(1:Int))=((T1.2).2).2/\True)/\True)))/\((!bo)=false->decide (IntKind.wrap
 .i64 (ct+(1:Int))<(2:Int))=Prod.fst T1/\True/\(4=4/\0=0/\ao=(T1.2).1/\True)/\True/\(4=4/\0=0/\bo=((T1.2).2).1/\True)/\True/\(3=3/\0=0/\IntKind.wrap .i64 (ct+(1:Int))=(Prod.snd (T1.2)).2/\True)/\
 True))))){T3}(t3:T3=((!ao)=false->((!bo)=true->((fEq .f64 bx cx&&(fEq .f64 by' cy&&true))=true->T1.1=true/\True/\(4=4/\0=0/\ao=(T1.2).1/\True)/\True/\(4=4/\0=0/\Prod.fst ((T1.2).2)=true/\True)/\True/\(3=3/\
 0=0/\ct=((T1.2).2).2/\True)/\True)/\((fEq .f64 bx cx&&(fEq .f64 by' cy&&true))=false->((fEq .f64 bx dx&&(fEq .f64 by' dy&&true))=true->T1.1=true/\True/\(4=4/\0=0/\ao=(T1.2).1/\True)/\True/\(4=4/\0=0/\
 ((Prod.snd T1).2).1=true/\True)/\True/\(3=3/\0=0/\ct=((T1.2).2).2/\True)/\True)/\((fEq .f64 bx dx&&(fEq .f64 by' dy&&true))=false->decide (IntKind.wrap .i64 (ct+(1:Int))<(2:Int))=T1.1/\True/\(4=4/\0=0/\ao =
 (T1.2).1/\True)/\True/\(4=4/\0=0/\bo=((T1.2).2).1/\True)/\True/\(3=3/\0=0/\IntKind.wrap .i64 (ct+(1:Int))=((T1.2).2).2/\True)/\True)))/\((!bo)=false->decide (IntKind.wrap .i64 (ct+(1:Int))<(2:Int))=T1.1/\
 True/\(4=4/\0=0/\ao=(T1.2).1/\True)/\True/\(4=4/\0=0/\bo=((T1.2).2).1/\True)/\True/\(3=3/\0=0/\IntKind.wrap .i64 (ct+(1:Int))=((T1.2).2).2/\True)/\True))){T4}(t4:T4=(4=4/\0=0/\bo=((T1.2).2).1/\True))
 {T5}(t5:T5=(!decide (xp (wh dx-wh ax) (wh dy-wh ay) (wh bx-wh ax) (wh by'-wh ay)=(0:Int)))) {T6}(t6:T6=(4=4/\0=0/\ao=(T1.2).1/\True)) {T7}(t7:T7=(3=3/\0=0/\ct=((T1.2).2).2/\True)):z7 GCP 5 [] [] (j3 Tryz.f209) (q9 Tryz.f209.ntmps w9.args w9.heap 5) (r6 GCP.E.T Tryz.f209.results.toList λS v=>w0 5 w9 S v)=(
 P8 ax ay bx by' cx cy dx dy (wh ax) (wh ay) (wh bx) (wh by') (wh cx) (wh cy) (wh dx) (wh dy)/\(decide (a4F (wh ax) (wh ay) (wh bx) (wh by') (wh cx) (wh cy) (wh dx) (wh dy))=true->((!al)=true->P8 ax ay bx by' cx cy cx cy (wh ax) (wh ay) (wh
 bx) (wh by') (wh cx) (wh cy) (wh cx) (wh cy)/\(decide (xp (wh cx-wh ax) (wh cy-wh ay) (wh bx-wh ax) (wh by'-wh ay)=(0:Int))=true->P8 ax ay bx by' dx dy dx dy (wh ax) (wh ay) (wh bx) (wh by') (wh dx) (wh dy) (wh dx) (wh dy)/\(T5 =
 true->T2/\T3)/\(T5=false->decide (ct<(2:Int))=Prod.fst T1/\True/\T6/\True/\T4/\True/\T7/\True))/\(decide (xp (wh cx-wh ax) (wh cy-wh ay) (wh bx-wh ax) (wh by'-wh ay)=(0:Int))=false->T2/\T3))/\((!al)=false->
 decide (IntKind.wrap .i64 (ct+(1:Int))<(2:Int))=T1.1/\True/\T6/\True/\T4/\True/\(3=3/\0=0/\IntKind.wrap .i64 (ct+(1:Int))=Prod.snd ((T1.2).2)/\True)/\True))/\(decide (a4F (wh ax) (wh ay) (wh bx) (wh by') (wh cx) (wh
 cy) (wh dx) (wh dy))=false->decide (ct<(2:Int))=T1.1/\True/\T6/\True/\T4/\True/\T7/\True)):=by subst e9 t1 t2 t3 t4 t5 t6 t7;kernel_rfl
theorem isC:q7 Tryz.prog 209 (p9 c5M):=by
 refine j8 gCP Tryz.func209 rfl (by kernel_rfl) λargs=>?_
 unfold c5M;split
 ·rename_i cx cy dx dy i p a x y z;intro o0;try dsimp only
  split
  ·rename_i ax ay bx by' hm0;intro o1;try dsimp only
   split
   ·rename_i al hm1;intro o2;try dsimp only
    split
    ·rename_i hrw2;try dsimp only
     split
     ·rename_i ao hm2;intro o3;try dsimp only
      split
      ·rename_i hrw3;try dsimp only
       split
       ·rename_i bo hm3;intro o4;try dsimp only
        split
        ·rename_i hrw4;try dsimp only
         split
         ·rename_i ct hm4;intro ho;replace ho:W8 ax ay bx by' cx cy dx dy/\0<=ct/\ct<=1000000:=ho;refine⟨?_,_,_,(c4a ax ay bx by' cx cy dx dy i al ao bo ct rfl rfl rfl rfl rfl rfl rfl rfl).mpr ?_⟩
          ·refine g9 rfl ⟨?_,⟨trivial,b0C hm0,⟨trivial,I7 hm1,⟨trivial,K5 hrw2 (I7 hm2),⟨trivial,K5 hrw3 (I7 hm3),⟨trivial,K5 hrw4 (a1c hm4),trivial⟩⟩⟩⟩⟩⟩;simp[j9,o8,p8,r8,o9,p7,nth,a8]
          ·obtain⟨⟨⟨h1,h2,h3,h4⟩,h5,h6,h7,h8⟩,hc0,hc1⟩:=ho;have k0:=c4C h1 h2 h3 h4 h5 h6 h7 h8;have k1:=c4C h1 h2 h3 h4 h5 h6 h5 h6;have k2:=c4C h1 h2 h3 h4 h7 h8 h7 h8;have hw:IntKind.i64.wrap (ct+1)=ct+1:=j5 (by omega) (by omega);have q1:(fEq .f64 ax cx&&(fEq .f64 ay cy&&true))=decide (wh ax=wh cx/\wh ay=wh cy):=by rw[E5 h1.1 h5.1,E5 h2.1 h6.1,Bool.and_true,Bool.decide_and]
           have q2:(fEq .f64 ax dx&&(fEq .f64 ay dy&&true))=decide (wh ax=wh dx/\wh ay=wh dy):=by rw[E5 h1.1 h7.1,E5 h2.1 h8.1,Bool.and_true,Bool.decide_and]
           have q3:(fEq .f64 bx cx&&(fEq .f64 by' cy&&true))=decide (wh bx=wh cx/\wh by'=wh cy):=by rw[E5 h3.1 h5.1,E5 h4.1 h6.1,Bool.and_true,Bool.decide_and]
           have q4:(fEq .f64 bx dx&&(fEq .f64 by' dy&&true))=decide (wh bx=wh dx/\wh by'=wh dy):=by rw[E5 h3.1 h7.1,E5 h4.1 h8.1,Bool.and_true,Bool.decide_and]
           have e0:decide (a4F (wh ax) (wh ay) (wh bx) (wh by') (wh cx) (wh cy) (wh dx) (wh dy))=isW ax ay bx by' cx cy dx dy:=rfl;unfold R3 clW eqW;simp only[e0,q1,q2,q3,q4,k0,k1,k2,hw,true_and,and_true];clear e0 q1 q2 q3 q4 k0 k1 k2 hw h1 h2 h3 h4 h5 h6 h7 h8;generalize isW ax ay bx by' cx cy dx dy=u;generalize decide (xp (wh cx-wh ax) (wh cy-wh ay) (wh bx-wh ax) (wh by'-wh ay)=0)=v;generalize decide (xp (wh dx-wh ax) (wh dy-wh ay) (wh bx-wh ax) (wh by'-wh ay)=0)=w;generalize decide (wh ax=wh cx/\wh ay=wh cy)=q1;generalize decide (wh ax=wh dx/\wh ay=wh dy)=q2
           generalize decide (wh bx=wh cx/\wh by'=wh cy)=q3;generalize decide (wh bx=wh dx/\wh by'=wh dy)=q4;unfold stp
           repeat' (first|(refine And.intro ?_ ?_)|(intro hh;first|cases hh|(simp only[Bool.not_eq_true',Bool.not_eq_false']at hh;subst hh)|skip))
           all_goals simp_all
         ·trivial
        ·trivial
       ·trivial
      ·trivial
     ·trivial
    ·trivial
   ·trivial
  ·trivial
 ·trivial
def mtF(g:Nat->Nat)(n qa qb qc qd:Nat)(i:Nat):Bool :=
 !(fGt .f64 (C0 (g (2*i+1)) (g (2*nx n i+1))) qd) && !(fLt .f64 (B8 (g (2*i+1)) (g (2*nx n i+1))) qb) && !(fGt .f64 (C0 (g (2*i)) (g (2*nx n i))) qc) && !(fLt .f64 (B8 (g (2*i)) (g (2*nx n i))) qa)
theorem b7Q(cl:Bool)(n:Nat)(z:Nat->Int):nsg cl n z<=n:=by
 unfold nsg;split
 ·split
  ·omega
  ·split <;> omega
 ·omega
def cpR(meet on lf:Nat->Bool)(al b:Bool)(ix:Int):Nat->Bool×Bool×Int
 | 0=>(false,b,ix)
 | i+1=>if (cpR meet on lf al b ix i).1=true∨meet i=false then cpR meet on lf al b ix i else if on i=true then(true,al,i)else(false,xor (cpR meet on lf al b ix i).2.1 (lf i),(cpR meet on lf al b ix i).2.2)
theorem b0E{meet on lf:Nat->Bool}{al b:Bool}{ix:Int}{i:Nat}(h:(cpR meet on lf al b ix i).1=true):∀ m,i<=m->cpR meet on lf al b ix m=cpR meet on lf al b ix i
 | 0,hm=>by
  have:i=0:=by omega
  subst this;rfl
 | m+1,hm=>by
  by_cases e:i=m+1
  ·subst e;rfl
  ·have ih:=b0E h m (by omega);show (if (cpR meet on lf al b ix m).1=true∨meet m=false then cpR meet on lf al b ix m else _)=_;rw[ih,if_pos (.inl h)]
def H8(p:Nat->Bool):Nat->Bool
 | 0=>false
 | i+1=>H8 p i||p i
theorem a1U{p:Nat->Bool}:∀ {i m:Nat},i<m->p i=true->H8 p m=true
 | i,0,h,_=>by omega
 | i,m+1,h,hp=>by
  show (H8 p m||p m)=true;by_cases e:i=m
  ·subst e;rw[hp];simp
  ·rw[a1U (by omega) hp];rfl
def isR(meet isc col aeq beq:Nat->Bool)(al:Bool)(ao bo:Bool):Nat->Bool×Bool×Bool×Int
 | 0=>(true,ao,bo,0)
 | i+1=>if (isR meet isc col aeq beq al ao bo i).1=false∨meet i=false then isR meet isc col aeq beq al ao bo i
  else stp al (isc i) (col i) (aeq i) (beq i) (isR meet isc col aeq beq al ao bo i).2.1 (isR meet isc col aeq beq al ao bo i).2.2.1 (isR meet isc col aeq beq al ao bo i).2.2.2
theorem b0l{meet isc col aeq beq:Nat->Bool}{al ao bo:Bool}{i:Nat}(h:(isR meet isc col aeq beq al ao bo i).1=false):∀ m,i<=m->isR meet isc col aeq beq al ao bo m=isR meet isc col aeq beq al ao bo i
 | 0,hm=>by
  have:i=0:=by omega
  subst this;rfl
 | m+1,hm=>by
  by_cases e:i=m+1
  ·subst e;rfl
  ·have ih:=b0l h m (by omega);show (if (isR meet isc col aeq beq al ao bo m).1=false∨meet m=false then isR meet isc col aeq beq al ao bo m else _)=_;rw[ih,if_pos (.inl h)]
theorem b8y{meet isc col aeq beq:Nat->Bool}{al ao bo:Bool}:∀ i,0<=(isR meet isc col aeq beq al ao bo i).2.2.2/\(isR meet isc col aeq beq al ao bo i).2.2.2<=i
 | 0=>⟨Int.le_refl _,Int.le_refl _⟩
 | i+1=>by
  have ih:=b8y (meet:=meet) (isc:=isc) (col:=col) (aeq:=aeq) (beq:=beq) (al:=al) (ao:=ao) (bo:=bo) i;show 0<=(if _ then _ else _:Bool×Bool×Bool×Int).2.2.2/\(if _ then _ else _:Bool×Bool×Bool×Int).2.2.2<=_;split
  ·omega
  ·unfold stp
   repeat' split
   all_goals simp only
   all_goals omega
section
variable (g:Nat->Nat) (n:Nat)
noncomputable def onS(px py:Nat)(i:Nat):Bool:=onW (g (2*i)) (g (2*i+1)) (g (2*nx n i)) (g (2*nx n i+1)) px py
noncomputable def lfS(px py:Nat)(i:Nat):Bool:=lfW (g (2*i)) (g (2*i+1)) (g (2*nx n i)) (g (2*nx n i+1)) px py
noncomputable def cpV(qa qb qc qd px py:Nat)(al b:Bool)(ix:Int):Nat->Bool×Bool×Int:=cpR (mtF g n qa qb qc qd) (onS g n px py) (lfS g n px py) al b ix
noncomputable def isV(qa qb qc qd ax ay bx by':Nat)(al ao bo:Bool):Nat->Bool×Bool×Bool×Int :=
 isR (mtF g n qa qb qc qd) (λi=>isW ax ay bx by' (g (2*i)) (g (2*i+1)) (g (2*nx n i)) (g (2*nx n i+1))) (λi=>clW ax ay bx by' (g (2*i)) (g (2*i+1)) (g (2*nx n i)) (g (2*nx n i+1)))
  (λi=>eqW ax ay (g (2*i)) (g (2*i+1)) (g (2*nx n i)) (g (2*nx n i+1))) (λi=>eqW bx by' (g (2*i)) (g (2*i+1)) (g (2*nx n i)) (g (2*nx n i+1))) al ao bo
end
def qC(qa qb qc qd:Nat):List SV:=[.flt .f64 qa, .flt .f64 qb, .flt .f64 qc, .flt .f64 qd]
def rcG(a b c d:Nat)(j:Nat):Nat:=[a,b,c,b,c,d,a,d].getD j 0
theorem b7O(a b c d:Nat){i:Nat}(hi:i<4):(a1Y a b c d (i:Int)).1=rcG a b c d (2*i)/\(a1Y a b c d (i:Int)).2=rcG a b c d (2*i+1)/\(a1Y a b c d ((i:Int)+1)).1=rcG a b c d (2*nx 4 i)/\(a1Y a b c d ((i:Int)+1)).2=rcG a b c d (2*nx 4 i+1):=by
 have:i=0∨i=1∨i=2∨i=3:=by omega
 rcases this with rfl|rfl|rfl|rfl <;> exact⟨rfl,rfl,rfl,rfl⟩
theorem b8R{a b c d:Nat}(ha:W1 a)(hb:W1 b)(hc:W1 c)(hd:W1 d):SmF (rcG a b c d) 8:=by
 intro j hj;have:j=0∨j=1∨j=2∨j=3∨j=4∨j=5∨j=6∨j=7:=by omega
 rcases this with rfl|rfl|rfl|rfl|rfl|rfl|rfl|rfl <;> assumption
noncomputable def b1G:Ctx:=⟨⟨tys,[]⟩,[(203,l8 a9s),(204,l8 a5h),(113,l8 a2s),(175,l8 a3W),(185,p9 c5f)]⟩
theorem c5v:v8 Tryz.prog b1G:=⟨⟨z6,FlatsOk.nil⟩,g8.cons (.pure c2X) (g8.cons (.pure b7i) (g8.cons (.pure b0e) (g8.cons (.pure b4i) (g8.cons cpG g8.nil)))),by kernel_rfl⟩
noncomputable def c8C(a b c d:Nat)(qa qb qc qd:Nat)(px py:Nat)(al e0:Bool)(ix:Int):Fam:=⟨Nat,λi =>
 ⟨31,[(2, .fn (.func 185) [] [.ptr 0 0, .ptr 1 0, .ptr 2 0, .ptr 3 0]),(3, .ptr 4 0),(4, .ptr 5 0),(6, .int .i64 i),(7, .int .i64 4),(8, .int .i64 i)],[(0,⟨false,100,b5f px py,0⟩),(1,⟨false,4,G4 al,0⟩),(2,⟨true,3,V0 (cpV (rcG a b c d) 4 qa qb qc qd px py al e0 ix i).2.2,0⟩),(3,⟨true,4,G4 (cpV (rcG a b c d) 4 qa qb qc qd px py al e0 ix i).2.1,0⟩),(4,⟨true,102, .cells (qC a b c d),0⟩),(5,⟨true,102, .cells (qC qa qb qc qd),0⟩)],6⟩,λi=>i<=4/\(cpV (rcG a b c d) 4 qa qb qc qd px py al e0 ix i).1=false,λi=>4-i⟩
noncomputable def b6q:List SV->RdM
 | [.agg [.flt .f64 a, .flt .f64 b, .flt .f64 c, .flt .f64 d], .agg [.flt .f64 qa, .flt .f64 qb, .flt .f64 qc, .flt .f64 qd], .fn (.func 185) [] [.ptr p1 0, .ptr a1 0, .ptr x1 0, .ptr y1 0]]=>.read p1 λo0=>(match bxP o0.c with
  | some (px,py)=>.read a1 λo1=>(match bxB o1.c with
  | some al=>.read x1 λo2=>(match a0O o2 3 0 with
  | true=>(match bxI o2.c with
  | some ix=>.read y1 λo3=>(match a0O o3 4 0 with
  | true=>(match bxB o3.c with
  | some e0=>.ret ⟨[.agg [.flt .f64 a, .flt .f64 b, .flt .f64 c, .flt .f64 d], .agg [.flt .f64 qa, .flt .f64 qb, .flt .f64 qc, .flt .f64 qd], .fn (.func 185) [] [.ptr 0 0, .ptr 1 0, .ptr 2 0, .ptr 3 0]],[(0,⟨false,100,b5f px py,0⟩),(1,⟨false,4,G4 al,0⟩),(2,⟨true,3,V0 ix,0⟩),(3,⟨true,4,G4 e0,0⟩)], .tup [],[(2,⟨true,3,V0 (cpV (rcG a b c d) 4 qa qb qc qd px py al e0 ix 4).2.2,0⟩),(3,⟨true,4,G4 (cpV (rcG a b c d) 4 qa qb qc qd px py al e0 ix 4).2.1,0⟩)],[],some ((W1 a/\W1 b/\W1 c/\W1 d)/\W1 px/\W1 py)⟩
  | none=>.fail)
  | false=>.fail)
  | none=>.fail)
  | false=>.fail)
  | none=>.fail)
  | none=>.fail)
 | _=>.fail
theorem c1m(a b c d:Nat)(qa qb qc qd:Nat)(px py:Nat)(al e0:Bool)(ix:Int){w9:HC}(e9:w9=⟨[.agg [.flt .f64 a, .flt .f64 b, .flt .f64 c, .flt .f64 d], .agg [.flt .f64 qa, .flt .f64 qb, .flt .f64 qc, .flt .f64 qd], .fn (.func 185) [] [.ptr 0 0, .ptr 1 0, .ptr 2 0, .ptr 3 0]],[(0,⟨false,100,b5f px py,0⟩),(1,⟨false,4,
 G4 al,0⟩),(2,⟨true,3,V0 ix,0⟩),(3,⟨true,4,G4 e0,0⟩)], .tup [],[(2,⟨true,3,V0 (cpV (rcG a b c d) 4 qa qb qc qd px py al e0 ix 4).2.2,0⟩),(3,⟨true,4,G4 (cpV (rcG a b c d) 4 qa qb qc qd px py al e0 ix 4).2.1,0⟩)],[],
 some ((W1 a/\W1 b/\W1 c/\W1 d)/\W1 px/\W1 py)⟩){T1}(t1:T1=λ(i:Nat)=>(a1Y a b c d ((↑i:Int)+1))){T2}(t2:T2=λ(i:Nat)=>(a1Y a b c d (↑i:Int))){T3}(t3:T3=λ(i:Nat)=>(cpV (rcG a b c d) 4 qa qb qc qd px py al e0 ix i))
 {T4}(t4:T4=(Go.Fn.func 185=Go.Fn.func 185/\True/\(True/\0=0)/\(True/\0=0)/\(True/\0=0)/\(True/\0=0)/\True)) {T5}(t5:T5=λ(i':Nat)=>(cpV (rcG a b c d) 4 qa qb qc qd px py al e0 ix i')) {T6}(t6:T6=((cpV (rcG a b c d) 4 qa qb qc
 qd px py al e0 ix 4).2)) {T7}(t7:T7=(102=102/\0=0/\qa=qa/\qb=qb/\qc=qc/\qd=qd/\True)) {T8}(t8:T8=(102=102/\0=0/\a=a/\b=b/\c=c/\d=d/\True)) {T9}(t9:T9=λ(i:Nat)=>(if onW ((T2 i).1) ((T2 i).2) ((T1 i).1) ((a1Y a
 b c d ((↑i:Int)+(1:Int))).2) px py=true then(↑i:Int)else((T3 i).2).2)) {T10}(t10:T10=(True/\0=0)) {T11}(t11:T11=(px=px/\py=py/\True)):z7 b1G 4 [(4,c8C a b c d qa qb qc qd px py al e0 ix)] [] (j3 Tryz.f199) (q9 Tryz.f199.ntmps w9.args w9.heap 4) (r6 b1G.E.T Tryz.f199.results.toList λS v=>w0 4 w9 S v)=(
 (∃(i:Nat),(i<=4/\(T3 i).1=false)/\(T4/\T10/\T10/\0=(↑i:Int)/\(4:Int)=4/\0=(↑i:Int)/\True)/\True/\T11/\True/\(al=al/\True)/\True/\(3=3/\0=0/\ix=((T3 i).2).2/\True)/\True/\(4=4/\0=0/\e0=((T3
 i).2).1/\True)/\True/\T8/\True/\T7/\True)/\∀(i:Nat),i<=4/\(T3 i).1=false->(decide ((↑i:Int)<4)=true->(0<=(↑i:Int)/\(↑i:Int)<=3)/\true=true/\((!fGt .f64 (C0 ((T2 i).2) ((T1 i).2)) qd && !fLt .f64 (B8 ((T2 i).2)
 ((T1 i).2)) qb && !fGt .f64 (C0 ((T2 i).1) ((T1 i).1)) qc && !fLt .f64 (B8 ((T2 i).1) ((T1 i).1)) qa)=true->PW ((T2 i).1) ((T2 i).2) (Prod.fst (T1 i)) ((T1 i).2) px py/\((!!onW ((T2 i).1) ((T2 i).2) ((T1 i).1) ((T1 i).2) px py)=true->True
 /\True/\(3=3/\0=0/\(T9 i)=T6.2/\True)/\True/\(4=4/\0=0/\(if onW ((T2 i).1) ((T2 i).2) ((T1 i).1) ((T1 i).2) px py=true then al else((T3 i).2).1 ^^ lfW ((T2 i).1) ((T2 i).2) ((T1 i).1) (Prod.snd (T1 i)) px py)=T6.1/\True)/\
 True)/\((!!onW (Prod.fst (T2 i)) ((T2 i).2) ((T1 i).1) ((T1 i).2) px py)=false->∃(i':Nat),(i'<=4/\(T5 i').1=false)/\4-i'<4-i/\(T4/\T10/\T10/\IntKind.wrap .i64 ((↑i:Int)+(1:Int))=(↑i':Int)/\(4:Int)=4/\
 IntKind.wrap .i64 ((↑i:Int)+1)=(↑i':Int)/\True)/\True/\T11/\True/\(al=al/\True)/\True/\(3=3/\0=0/\(T9 i)=((T5 i').2).2/\True)/\True/\(4=4/\0=0/\(if onW ((T2 i).1) ((T2 i).2) (Prod.fst (T1 i)) ((T1 i).2) px py=true
 then al else((T3 i).2).1 ^^ lfW ((T2 i).1) ((T2 i).2) ((T1 i).1) (Prod.snd (T1 i)) px py)=((T5 i').2).1/\True)/\True/\T8/\True/\T7/\True))/\((!fGt .f64 (C0 ((T2 i).2) ((T1 i).2)) qd && !fLt .f64 (B8 ((T2 i).2) ((a1Y a b c d ((↑i:Int)
 + (1:Int))).2)) qb && !fGt .f64 (C0 ((T2 i).1) ((T1 i).1)) qc && !fLt .f64 (B8 (Prod.fst (T2 i)) ((T1 i).1)) qa)=false->∃(i':Nat),(i'<=4/\(T5 i').1=false)/\4-i'<4-i/\(T4/\T10/\T10/\IntKind.wrap .i64 ((↑i:Int)+1)=(↑i'
 : Int)/\(4:Int)=4/\IntKind.wrap .i64 ((↑i:Int)+1)=(↑i':Int)/\True)/\True/\T11/\True/\(al=al/\True)/\True/\(3=3/\0=0/\((T3 i).2).2=(Prod.snd (T5 i')).2/\True)/\True/\(4=4/\0=0/\((T3 i).2).1=((T5 i').2).1/\
 True)/\True/\T8/\True/\T7/\True))/\(decide ((↑i:Int)<4)=false->True/\True/\(3=3/\0=0/\(Prod.snd (T3 i)).2=T6.2/\True)/\True/\(4=4/\0=0/\((T3 i).2).1=T6.1/\True)/\True)):=by subst e9 t1 t2 t3 t4 t5 t6 t7 t8 t9 t10 t11;kernel_rfl
theorem d0r:q7 Tryz.prog 199 (p9 b6q):=by
 refine j8 c5v Tryz.func199 rfl (by kernel_rfl) λargs=>?_
 unfold b6q;split
 ·rename_i a b c d qa qb qc qd p1 a1 x1 y1;intro o0;try dsimp only
  split
  ·rename_i px py hm0;intro o1;try dsimp only
   split
   ·rename_i al hm1;intro o2;try dsimp only
    split
    ·rename_i hrw2;try dsimp only
     split
     ·rename_i ix hm2;intro o3;try dsimp only
      split
      ·rename_i hrw3;try dsimp only
       split
       ·rename_i e0 hm3;intro ho;replace ho:(W1 a/\W1 b/\W1 c/\W1 d)/\W1 px/\W1 py:=ho;refine⟨?_,_,_,(c1m a b c d qa qb qc qd px py al e0 ix rfl rfl rfl rfl rfl rfl rfl rfl rfl rfl rfl rfl).mpr ?_⟩
        ·refine g9 rfl ⟨?_,⟨trivial,b1f hm0,⟨trivial,I7 hm1,⟨trivial,K5 hrw2 (a1c hm2),⟨trivial,K5 hrw3 (I7 hm3),trivial⟩⟩⟩⟩⟩;simp[j9,o8,r8,o9,p7,nth,a8]
        ·obtain⟨⟨ha,hb,hc,hd⟩,hx,hy⟩:=ho;have hg:=b8R ha hb hc hd;simp only[true_and,and_true,eq_self];refine⟨⟨0,by simp[cpV,cpR]⟩,λi hi=>⟨λh=>?_,λh=>?_⟩⟩
         ·have h:=of_decide_eq_true h;have hiN:i<4:=by omega
          have n1:=a1q (show i<4 by omega);have hw:IntKind.i64.wrap ((i:Int)+1)=((i+1:Nat):Int):=by rw[j5 (by omega) (by omega)];omega
          have step:cpV (rcG a b c d) 4 qa qb qc qd px py al e0 ix (i+1)=if (cpV (rcG a b c d) 4 qa qb qc qd px py al e0 ix i).1=true∨mtF (rcG a b c d) 4 qa qb qc qd i=false then cpV (rcG a b c d) 4 qa qb qc qd px py al e0 ix i else if onS (rcG a b c d) 4 px py i=true then(true,al,(i:Int))else(false,xor (cpV (rcG a b c d) 4 qa qb qc qd px py al e0 ix i).2.1 (lfS (rcG a b c d) 4 px py i),(cpV (rcG a b c d) 4 qa qb qc qd px py al e0 ix i).2.2):=rfl
          rw[hw];obtain⟨e1,e2,e3,e4⟩:=b7O a b c d hiN;rw[e1,e2,e3,e4];refine⟨⟨by omega,by omega⟩,λhm=>⟨c7l (hg _ (by omega)) (hg _ (by omega)) (hg _ (by omega)) (hg _ (by omega)) hx hy,λho=>?_,λho=>?_⟩,λhm=>?_⟩
          ·have ho':onS (rcG a b c d) 4 px py i=true:=by unfold onS;simpa using ho
           have hm':mtF (rcG a b c d) 4 qa qb qc qd i=true:=hm;have s1:cpV (rcG a b c d) 4 qa qb qc qd px py al e0 ix (i+1)=(true,al,(i:Int)):=by rw[step,if_neg (by simp[hi.2,hm']),if_pos ho']
           have s2:cpV (rcG a b c d) 4 qa qb qc qd px py al e0 ix 4=cpV (rcG a b c d) 4 qa qb qc qd px py al e0 ix (i+1):=b0E (show (cpV (rcG a b c d) 4 qa qb qc qd px py al e0 ix (i+1)).1=true by rw[s1]) 4 (by omega);rw[s2,s1];unfold onS at ho';rw[if_pos ho',if_pos ho'];simp
          ·have ho':onS (rcG a b c d) 4 px py i=false:=by unfold onS;simpa using ho
           have hm':mtF (rcG a b c d) 4 qa qb qc qd i=true:=hm;have s1:cpV (rcG a b c d) 4 qa qb qc qd px py al e0 ix (i+1)=(false,xor (cpV (rcG a b c d) 4 qa qb qc qd px py al e0 ix i).2.1 (lfS (rcG a b c d) 4 px py i),(cpV (rcG a b c d) 4 qa qb qc qd px py al e0 ix i).2.2):=by rw[step,if_neg (by simp[hi.2,hm']),if_neg (by simp[ho'])]
           refine⟨i+1,⟨by omega,by rw[s1]⟩,by omega,⟨rfl,rfl⟩,?_⟩;rw[s1];unfold onS at ho';rw[if_neg (by rw[ho'];simp),if_neg (by rw[ho'];simp)];simp[lfS]
          ·have hm':mtF (rcG a b c d) 4 qa qb qc qd i=false:=hm;have s1:cpV (rcG a b c d) 4 qa qb qc qd px py al e0 ix (i+1)=cpV (rcG a b c d) 4 qa qb qc qd px py al e0 ix i:=by rw[step,if_pos (.inr hm')]
           exact⟨i+1,⟨by omega,by rw[s1];exact hi.2⟩,by omega,⟨rfl,rfl⟩,by rw[s1];simp⟩
         ·have h:=of_decide_eq_false h;have:i=4:=by omega
          subst this;simp
       ·trivial
      ·trivial
     ·trivial
    ·trivial
   ·trivial
  ·trivial
 ·trivial
noncomputable def b2i:Ctx:=⟨⟨tys,[]⟩,[(203,l8 a9s),(204,l8 a5h),(113,l8 a2s),(175,l8 a3W),(209,p9 c5M)]⟩
theorem c4p:v8 Tryz.prog b2i:=⟨⟨z6,FlatsOk.nil⟩,g8.cons (.pure c2X) (g8.cons (.pure b7i) (g8.cons (.pure b0e) (g8.cons (.pure b4i) (g8.cons isC g8.nil)))),by kernel_rfl⟩
noncomputable def c9q(a b c d:Nat)(qa qb qc qd:Nat)(ax ay bx by':Nat)(al ao bo:Bool):Fam:=⟨Nat,λi =>
 ⟨31,[(2, .fn (.func 209) [] [.ptr 0 0, .ptr 1 0, .ptr 2 0, .ptr 3 0, .ptr 4 0]),(3, .ptr 5 0),(4, .ptr 6 0),(6, .int .i64 i),(7, .int .i64 4),(8, .int .i64 i)],[(0,⟨false,111,b5y ax ay bx by',0⟩),(1,⟨false,4,G4 al,0⟩),(2,⟨true,4,G4 (isV (rcG a b c d) 4 qa qb qc qd ax ay bx by' al ao bo i).2.1,0⟩),(3,⟨true,4,G4 (isV (rcG a b c d) 4 qa qb qc qd ax ay bx by' al ao bo i).2.2.1,0⟩),(4,⟨true,3,V0 (isV (rcG a b c d) 4 qa qb qc qd ax ay bx by' al ao bo i).2.2.2,0⟩),(5,⟨true,102, .cells (qC a b c d),0⟩),(6,⟨true,102, .cells (qC qa qb qc qd),0⟩)],7⟩,λi=>i<=4/\(isV (rcG a b c d) 4 qa qb qc qd ax ay bx by' al ao bo i).1=true,λi=>4-i⟩
noncomputable def b9f:List SV->RdM
 | [.agg [.flt .f64 a, .flt .f64 b, .flt .f64 c, .flt .f64 d], .agg [.flt .f64 qa, .flt .f64 qb, .flt .f64 qc, .flt .f64 qd], .fn (.func 209) [] [.ptr p1 0, .ptr a1 0, .ptr x1 0, .ptr y1 0, .ptr z1 0]]=>.read p1 λo0=>(match bx4 o0.c with
  | some (ax,ay,bx,by')=>.read a1 λo1=>(match bxB o1.c with
  | some al=>.read x1 λo2=>(match a0O o2 4 0 with
  | true=>(match bxB o2.c with
  | some ao=>.read y1 λo3=>(match a0O o3 4 0 with
  | true=>(match bxB o3.c with
  | some bo=>.read z1 λo4=>(match a0O o4 3 0 with
  | true=>(match bxI o4.c with
  | some ct=>.ret ⟨[.agg [.flt .f64 a, .flt .f64 b, .flt .f64 c, .flt .f64 d], .agg [.flt .f64 qa, .flt .f64 qb, .flt .f64 qc, .flt .f64 qd], .fn (.func 209) [] [.ptr 0 0, .ptr 1 0, .ptr 2 0, .ptr 3 0, .ptr 4 0]],[(0,⟨false,111,b5y ax ay bx by',0⟩),(1,⟨false,4,G4 al,0⟩),(2,⟨true,4,G4 ao,0⟩),(3,⟨true,4,G4 bo,0⟩),(4,⟨true,3,V0 ct,0⟩)], .tup [],[(2,⟨true,4,G4 (isV (rcG a b c d) 4 qa qb qc qd ax ay bx by' al ao bo 4).2.1,0⟩),(3,⟨true,4,G4 (isV (rcG a b c d) 4 qa qb qc qd ax ay bx by' al ao bo 4).2.2.1,0⟩),(4,⟨true,3,V0 (isV (rcG a b c d) 4 qa qb qc qd ax ay bx by' al ao bo 4).2.2.2,0⟩)],[],some ((W1 a/\W1 b/\W1 c/\W1 d)/\(W1 ax/\W1 ay/\W1 bx/\W1 by')/\ct=0)⟩
  | none=>.fail)
  | false=>.fail)
  | none=>.fail)
  | false=>.fail)
  | none=>.fail)
  | false=>.fail)
  | none=>.fail)
  | none=>.fail)
 | _=>.fail
theorem c0e(a b c d:Nat)(qa qb qc qd:Nat)(ax ay bx by':Nat)(al ao bo:Bool)(ct:Int){w9:HC}(e9:w9=⟨[.agg [.flt .f64 a, .flt .f64 b, .flt .f64 c, .flt .f64 d], .agg [.flt .f64 qa, .flt .f64 qb, .flt .f64 qc, .flt .f64 qd], .fn (.func 209) [] [.ptr 0 0, .ptr 1 0, .ptr 2 0, .ptr 3 0, .ptr 4 0]],[(0,⟨false,111,b5y ax ay bx by',
 0⟩),(1,⟨false,4,G4 al,0⟩),(2,⟨true,4,G4 ao,0⟩),(3,⟨true,4,G4 bo,0⟩),(4,⟨true,3,V0 ct,0⟩)], .tup [],[(2,⟨true,4,G4 (isV (rcG a b c d) 4 qa qb qc qd ax ay bx by' al ao bo 4).2.1,0⟩),(3,⟨true,4,G4 (isV (rcG a b
 c d) 4 qa qb qc qd ax ay bx by' al ao bo 4).2.2.1,0⟩),(4,⟨true,3,V0 (isV (rcG a b c d) 4 qa qb qc qd ax ay bx by' al ao bo 4).2.2.2,0⟩)],[],some ((W1 a/\W1 b/\W1 c/\W1 d)/\(W1 ax/\W1 ay/\W1 bx/\W1 by')/\ct=0)⟩){T1}(t1:T1=fun
 (i:Nat)=>(isV (rcG a b c d) 4 qa qb qc qd ax ay bx by' al ao bo i)){T2}(t2:T2=λ(i:Nat)=>(a1Y a b c d ((↑i:Int)+1))){T3}(t3:T3=λ(i:Nat)=>(a1Y a b c d (↑i:Int))){T4}(t4:T4=λ(i':Nat)=>(isV (rcG a b c d) 4 qa qb qc qd ax ay bx by' al
 ao bo i')){T5}(t5:T5=λ(i:Nat) (i':Nat)=>((Go.Fn.func 209=Go.Fn.func 209/\True/\(True/\0=0)/\(True/\0=0)/\(True/\0=0)/\(True/\0=0)/\(True/\0=0)/\True)/\(True/\0=0)/\(True/\0=0)/\IntKind.wrap .i64 ((↑i:Int)+1)
 = (↑i':Int)/\(4:Int)=4/\IntKind.wrap .i64 ((↑i:Int)+1)=(↑i':Int)/\True)){T6}(t6:T6=(isV (rcG a b c d) 4 qa qb qc qd ax ay bx by' al ao bo 4)){T7}(t7:T7=λ(i:Nat)=>(R3 ax ay bx by' ((T3 i).1) ((T3 i).2) ((T2 i).1) ((T2 i).2)
 al (((T1 i).2).1) ((Prod.snd ((T1 i).2)).1) ((((T1 i).2).2).2))){T8}(t8:T8=(102=102/\0=0/\qa=qa/\qb=qb/\qc=qc/\qd=qd/\True)){T9}(t9:T9=(102=102/\0=0/\a=a/\b=b/\c=c/\d=d/\True)){T10}(t10:T10=fun
 (i:Nat)=>((Prod.snd (R3 ax ay bx by' ((T3 i).1) ((T3 i).2) ((T2 i).1) ((T2 i).2) al (((T1 i).2).1) ((((T1 i).2).2).1) ((((T1 i).2).2).2))).2)){T11}(t11:T11=(ax=ax/\ay=ay/\bx=bx/\by'=by'/\True)){T12}(t12:T12=(True/\0=0))
 {T13}(t13:T13=λ(i:Nat)=>(((T1 i).2).2)):z7 b2i 5 [(4,c9q a b c d qa qb qc qd ax ay bx by' al ao bo)] [] (j3 Tryz.f199) (q9 Tryz.f199.ntmps w9.args w9.heap 5) (r6 b2i.E.T Tryz.f199.results.toList λS v=>w0 5 w9 S v)=(
 (∃(i:Nat),(i<=4/\(T1 i).1=true)/\((Go.Fn.func 209=Go.Fn.func 209/\True/\T12/\T12/\T12/\T12/\T12/\True)/\T12/\T12/\0=(↑i:Int)/\(4:Int)=4/\0=(↑i:Int)/\True)/\True/\T11/\True/\(al=al/\True)/\True/\(4=4/\0
 = 0/\ao=((T1 i).2).1/\True)/\True/\(4=4/\0=0/\bo=(T13 i).1/\True)/\True/\(3=3/\0=0/\ct=(T13 i).2/\True)/\True/\T9/\True/\T8/\True)/\∀(i:Nat),i<=4/\(T1 i).1=true->(decide ((↑i:Int)<4)=true->(0<=(↑i :
 Int)/\(↑i:Int)<=3)/\true=true/\((!fGt .f64 (C0 (Prod.snd (T3 i)) ((T2 i).2)) qd && !fLt .f64 (B8 ((T3 i).2) ((T2 i).2)) qb && !fGt .f64 (C0 ((T3 i).1) ((T2 i).1)) qc && !fLt .f64 (B8 ((T3 i).1) ((T2 i).1)) qa)=true->(W8 ax ay bx
 by' ((T3 i).1) ((T3 i).2) ((T2 i).1) ((T2 i).2)/\(0:Int)<=((Prod.snd (T1 i)).2).2/\(T13 i).2<=(1000000:Int))/\((!(R3 ax ay bx by' ((T3 i).1) ((T3 i).2) ((T2 i).1) (Prod.snd (T2 i)) al (((T1 i).2).1) ((T13 i).1) ((T13 i).2)).1)=true->
 True/\True/\(4=4/\0=0/\((T7 i).2).1=(T6.2).1/\True)/\True/\(4=4/\0=0/\(T10 i).1=((T6.2).2).1/\True)/\True/\(3=3/\0=0/\(((R3 ax ay bx by' (Prod.fst (T3 i)) ((T3 i).2) ((T2 i).1) ((T2 i).2) al (Prod.fst ((T1 i).2))
 ((T13 i).1) ((T13 i).2)).2).2).2=((T6.2).2).2/\True)/\True)/\((!(T7 i).1)=false->∃(i':Nat),(i'<=4/\(T4 i').1=true)/\4-i'<4-i/\(T5 i i')/\True/\T11/\True/\(al=al/\True)/\True/\(4=4/\0=0/\((T7 i).2).1=((T4
 i').2).1/\True)/\True/\(4=4/\0=0/\(T10 i).1=(((T4 i').2).2).1/\True)/\True/\(3=3/\0=0/\(((R3 ax ay bx by' ((T3 i).1) ((T3 i).2) ((T2 i).1) ((T2 i).2) al ((Prod.snd (T1 i)).1) ((T13 i).1) (Prod.snd (T13 i))).2).2).2=(((T4
 i').2).2).2/\True)/\True/\T9/\True/\T8/\True))/\((!fGt .f64 (C0 ((T3 i).2) ((T2 i).2)) qd && !fLt .f64 (B8 ((T3 i).2) ((T2 i).2)) qb && !fGt .f64 (C0 ((T3 i).1) ((a1Y a b c d ((↑i:Int)+(1:Int))).1)) qc && !fLt .f64 (B8 ((T3
 i).1) ((T2 i).1)) qa)=false->∃(i':Nat),(i'<=4/\Prod.fst (T4 i')=true)/\4-i'<4-i/\(T5 i i')/\True/\T11/\True/\(al=al/\True)/\True/\(4=4/\0=0/\Prod.fst ((T1 i).2)=((T4 i').2).1/\True)/\True/\(4=4/\0=0/\(T13
 i).1=(((T4 i').2).2).1/\True)/\True/\(3=3/\0=0/\(T13 i).2=(((T4 i').2).2).2/\True)/\True/\T9/\True/\T8/\True))/\(decide ((↑i:Int)<4)=false->True/\True/\(4=4/\0=0/\((T1 i).2).1=(T6.2).1/\True)/\True/\(4=4/\0
 = 0/\(T13 i).1=((Prod.snd T6).2).1/\True)/\True/\(3=3/\0=0/\(T13 i).2=((T6.2).2).2/\True)/\True)):=by subst e9 t1 t2 t3 t4 t5 t6 t7 t8 t9 t10 t11 t12 t13;kernel_rfl
theorem d0y:q7 Tryz.prog 199 (p9 b9f):=by
 refine j8 c4p Tryz.func199 rfl (by kernel_rfl) λargs=>?_
 unfold b9f;split
 ·rename_i a b c d qa qb qc qd p1 a1 x1 y1 z1;intro o0;try dsimp only
  split
  ·rename_i ax ay bx by' hm0;intro o1;try dsimp only
   split
   ·rename_i al hm1;intro o2;try dsimp only
    split
    ·rename_i hrw2;try dsimp only
     split
     ·rename_i ao hm2;intro o3;try dsimp only
      split
      ·rename_i hrw3;try dsimp only
       split
       ·rename_i bo hm3;intro o4;try dsimp only
        split
        ·rename_i hrw4;try dsimp only
         split
         ·rename_i ct hm4;intro ho;replace ho:(W1 a/\W1 b/\W1 c/\W1 d)/\(W1 ax/\W1 ay/\W1 bx/\W1 by')/\ct=0:=ho;refine⟨?_,_,_,(c0e a b c d qa qb qc qd ax ay bx by' al ao bo ct rfl rfl rfl rfl rfl rfl rfl rfl rfl rfl rfl rfl rfl rfl).mpr ?_⟩
          ·refine g9 rfl ⟨?_,⟨trivial,b0C hm0,⟨trivial,I7 hm1,⟨trivial,K5 hrw2 (I7 hm2),⟨trivial,K5 hrw3 (I7 hm3),⟨trivial,K5 hrw4 (a1c hm4),trivial⟩⟩⟩⟩⟩⟩;simp[j9,o8,r8,o9,p7,nth,a8]
          ·obtain⟨⟨ha,hb,hc,hd⟩,⟨h1,h2,h3,h4⟩,hct⟩:=ho;have hg:=b8R ha hb hc hd;simp only[true_and,and_true,eq_self];refine⟨⟨0,by simp[isV,isR,hct]⟩,λi hi=>⟨λh=>?_,λh=>?_⟩⟩
           ·have h:=of_decide_eq_true h;have hiN:i<4:=by omega
            have n1:=a1q (show i<4 by omega);have hw:IntKind.i64.wrap ((i:Int)+1)=((i+1:Nat):Int):=by rw[j5 (by omega) (by omega)];omega
            have step:isV (rcG a b c d) 4 qa qb qc qd ax ay bx by' al ao bo (i+1)=if (isV (rcG a b c d) 4 qa qb qc qd ax ay bx by' al ao bo i).1=false∨mtF (rcG a b c d) 4 qa qb qc qd i=false then isV (rcG a b c d) 4 qa qb qc qd ax ay bx by' al ao bo i else R3 ax ay bx by' (rcG a b c d (2*i)) (rcG a b c d (2*i+1)) (rcG a b c d (2*nx 4 i)) (rcG a b c d (2*nx 4 i+1)) al (isV (rcG a b c d) 4 qa qb qc qd ax ay bx by' al ao bo i).2.1 (isV (rcG a b c d) 4 qa qb qc qd ax ay bx by' al ao bo i).2.2.1 (isV (rcG a b c d) 4 qa qb qc qd ax ay bx by' al ao bo i).2.2.2:=rfl
            have hcb:0<=(isV (rcG a b c d) 4 qa qb qc qd ax ay bx by' al ao bo i).2.2.2/\(isV (rcG a b c d) 4 qa qb qc qd ax ay bx by' al ao bo i).2.2.2<=i:=b8y i;rw[hw];obtain⟨e1,e2,e3,e4⟩:=b7O a b c d hiN;rw[e1,e2,e3,e4];refine⟨⟨by omega,by omega⟩,λhm=>?_,λhm=>?_⟩
            ·have hm':mtF (rcG a b c d) 4 qa qb qc qd i=true:=hm;have s1:isV (rcG a b c d) 4 qa qb qc qd ax ay bx by' al ao bo (i+1)=R3 ax ay bx by' (rcG a b c d (2*i)) (rcG a b c d (2*i+1)) (rcG a b c d (2*nx 4 i)) (rcG a b c d (2*nx 4 i+1)) al (isV (rcG a b c d) 4 qa qb qc qd ax ay bx by' al ao bo i).2.1 (isV (rcG a b c d) 4 qa qb qc qd ax ay bx by' al ao bo i).2.2.1 (isV (rcG a b c d) 4 qa qb qc qd ax ay bx by' al ao bo i).2.2.2:=by rw[step,if_neg (by simp[hi.2,hm'])]
             rw[<-s1];refine⟨⟨⟨⟨h1,h2,h3,h4⟩,hg _ (by omega),hg _ (by omega),hg _ (by omega),hg _ (by omega)⟩,hcb.1,by omega⟩,λho=>?_,λho=>?_⟩
             ·have ho':(isV (rcG a b c d) 4 qa qb qc qd ax ay bx by' al ao bo (i+1)).1=false:=by simpa using ho
              have s2:isV (rcG a b c d) 4 qa qb qc qd ax ay bx by' al ao bo 4=isV (rcG a b c d) 4 qa qb qc qd ax ay bx by' al ao bo (i+1):=b0l ho' 4 (by omega);rw[s2];simp
             ·have ho':(isV (rcG a b c d) 4 qa qb qc qd ax ay bx by' al ao bo (i+1)).1=true:=by simpa using ho
              exact⟨i+1,⟨by omega,ho'⟩,by omega,⟨rfl,rfl⟩,by simp⟩
            ·have hm':mtF (rcG a b c d) 4 qa qb qc qd i=false:=hm;have s1:isV (rcG a b c d) 4 qa qb qc qd ax ay bx by' al ao bo (i+1)=isV (rcG a b c d) 4 qa qb qc qd ax ay bx by' al ao bo i:=by rw[step,if_pos (.inr hm')]
             exact⟨i+1,⟨by omega,by rw[s1];exact hi.2⟩,by omega,⟨rfl,rfl⟩,by rw[s1];simp⟩
           ·have h:=of_decide_eq_false h;have:i=4:=by omega
            subst this;simp
         ·trivial
        ·trivial
       ·trivial
      ·trivial
     ·trivial
    ·trivial
   ·trivial
  ·trivial
 ·trivial
noncomputable def Gcg:Ctx:=⟨⟨tys,[]⟩,[(199,p9 b6q)]⟩
theorem gcg:v8 Tryz.prog Gcg:=⟨⟨z6,FlatsOk.nil⟩,g8.cons d0r g8.nil,by kernel_rfl⟩
noncomputable def b8W:List SV->RdM
 | [.agg [.flt .f64 qa, .flt .f64 qb, .flt .f64 qc, .flt .f64 qd], .ifc 102 (.agg [.flt .f64 a, .flt .f64 b, .flt .f64 c, .flt .f64 d]), .agg [.flt .f64 px, .flt .f64 py],v]=>(match v.toB with
  | some al=>.ret ⟨[.agg [.flt .f64 qa, .flt .f64 qb, .flt .f64 qc, .flt .f64 qd], .ifc 102 (.agg [.flt .f64 a, .flt .f64 b, .flt .f64 c, .flt .f64 d]), .agg [.flt .f64 px, .flt .f64 py], .bool al],[], .tup [.bool (cpV (rcG a b c d) 4 qa qb qc qd px py al false (-1) 4).2.1, .int .i64 (cpV (rcG a b c d) 4 qa qb qc qd px py al false (-1) 4).2.2],[],[],some ((W1 a/\W1 b/\W1 c/\W1 d)/\W1 px/\W1 py)⟩
  | none=>.fail)
 | _=>.fail
theorem b9K(a b c d qa qb qc qd px py:Nat)(al:Bool){w9:HC}(e9:w9=⟨[.agg [.flt .f64 qa, .flt .f64 qb, .flt .f64 qc, .flt .f64 qd], .ifc 102 (.agg [.flt .f64 a, .flt .f64 b, .flt .f64 c, .flt .f64 d]), .agg [.flt .f64 px, .flt .f64 py], .bool al],[], .tup [.bool (cpV (rcG a b c d) 4 qa qb qc qd px py
 al false (-1) 4).2.1, .int .i64 (cpV (rcG a b c d) 4 qa qb qc qd px py al false (-1) 4).2.2],[],[],some ((W1 a/\W1 b/\W1 c/\W1 d)/\W1 px/\W1 py)⟩){T1}(t1:T1=((cpV (rcG a b c d) 4 qa qb qc qd px py al false (-1:Int) 4).2)):z7 Gcg 0 [] [] (j3 Tryz.f180) (q9 Tryz.f180.ntmps w9.args w9.heap 0) (r6 Gcg.E.T Tryz.f180.results.toList λS v=>w0 0 w9 S v)=(
 ((W1 a/\W1 b/\W1 c/\W1 d)/\W1 px/\W1 py)/\true=true/\(T1.1=T1.1/\T1.2=T1.2/\True)/\True):=by subst e9 t1;kernel_rfl
theorem d1p:q7 Tryz.prog 180 (p9 b8W):=by
 refine j8 gcg Tryz.func180 rfl (by kernel_rfl) λargs=>?_
 unfold b8W;split
 ·rename_i qa qb qc qd a b c d px py v;try dsimp only
  split
  ·rename_i al hal;intro ho;replace ho:(W1 a/\W1 b/\W1 c/\W1 d)/\W1 px/\W1 py:=ho;refine⟨?_,_,_,(b9K a b c d qa qb qc qd px py al rfl rfl).mpr ?_⟩
   ·refine g9 rfl ⟨?_,trivial⟩;simp[j9,o8,r8,p7,C7 hal]
   ·simp[ho]
  ·trivial
 ·trivial
def b9u(x y z w px py:Nat):Bool:=fGe .f64 px x&&fLe .f64 px z&&fGe .f64 py y&&fLe .f64 py w
noncomputable def rcp(g:Nat->Nat)(n ns x y z w px py:Nat)(al:Bool):Bool×Int :=
 if b9u x y z w px py=true then(cpV g n a2K py Y6 py px py al false (-1) ns).2 else(false,-1)
noncomputable def Gcr:Ctx:=⟨⟨tys,[]⟩,[(198,l8 a3Y),(169,l8 b9n),(100,l8 b7f),(180,p9 b8W)]⟩
theorem gcr:v8 Tryz.prog Gcr:=⟨⟨z6,FlatsOk.nil⟩,g8.cons (.pure b3T) (g8.cons (.pure d0i) (g8.cons (.pure d0m) (g8.cons d1p g8.nil))),by kernel_rfl⟩
noncomputable def b4q:List SV->RdM
 | [.ifc 102 (.agg [.flt .f64 a, .flt .f64 b, .flt .f64 c, .flt .f64 d]), .agg [.flt .f64 px, .flt .f64 py],v]=>(match v.toB with
  | some al=>.ret ⟨[.ifc 102 (.agg [.flt .f64 a, .flt .f64 b, .flt .f64 c, .flt .f64 d]), .agg [.flt .f64 px, .flt .f64 py], .bool al],[], .agg [.bool (rcp (rcG a b c d) 4 4 a b c d px py al).1, .int .i64 (rcp (rcG a b c d) 4 4 a b c d px py al).2],[],[],some ((W1 a/\W1 b/\W1 c/\W1 d)/\W1 px/\W1 py)⟩
  | none=>.fail)
 | _=>.fail
theorem c0G(a b c d px py:Nat)(al:Bool){w9:HC}(e9:w9=⟨[.ifc 102 (.agg [.flt .f64 a, .flt .f64 b, .flt .f64 c, .flt .f64 d]), .agg [.flt .f64 px, .flt .f64 py], .bool al],[], .agg [.bool (rcp (rcG a b c d) 4 4 a b c d px py al).1, .int .i64 (rcp (rcG a b c d) 4 4 a b c d px py al).2],[],
 [],some ((W1 a/\W1 b/\W1 c/\W1 d)/\W1 px/\W1 py)⟩){T1}(t1:T1=(rcp (rcG a b c d) 4 4 a b c d px py al)){T2}(t2:T2=((cpV (rcG a b c d) 4 18442240474082181120 py 9218868437227405312 py px py al false (-1:Int) 4).2)){T3}(t3:T3=(!(fGe .f64 px
 a&&fLe .f64 px c&&fGe .f64 py b&&fLe .f64 py d))):z7 Gcr 0 [] [] (j3 Tryz.f174) (q9 Tryz.f174.ntmps w9.args w9.heap 0) (r6 Gcr.E.T Tryz.f174.results.toList λS v=>w0 0 w9 S v)=(
 true=true/\(T3=true->(T1.1=false/\(-1:Int)=T1.2/\True)/\True)/\(T3=false->true=true/\((W1 a/\W1 b/\W1 c/\W1 d)/\W1 px/\W1 py)/\(T2.1=T1.1/\T2.2=T1.2/\True)/\True)):=by subst e9 t1 t2 t3;kernel_rfl
theorem c7V:q7 Tryz.prog 174 (p9 b4q):=by
 refine j8 gcr Tryz.func174 rfl (by kernel_rfl) λargs=>?_
 unfold b4q;split
 ·rename_i a b c d px py v;try dsimp only
  split
  ·rename_i al hal;intro ho;replace ho:(W1 a/\W1 b/\W1 c/\W1 d)/\W1 px/\W1 py:=ho;refine⟨?_,_,_,(c0G a b c d px py al rfl rfl rfl rfl).mpr ?_⟩
   ·refine g9 rfl ⟨?_,trivial⟩;simp[j9,o8,r8,p7,C7 hal]
   ·have e:(fGe .f64 px a&&fLe .f64 px c&&fGe .f64 py b&&fLe .f64 py d)=b9u a b c d px py:=rfl;unfold rcp;simp only[e];cases b9u a b c d px py <;> simp[ho,a2K,Y6]
  ·trivial
 ·trivial
def mt4(a b c d p q r s:Nat):Bool := !(fGt .f64 b s) && !(fLt .f64 d q) && !(fGt .f64 a r) && !(fLt .f64 c p)
noncomputable def ris(g:Nat->Nat)(n ns x y z w ax ay bx by':Nat)(al:Bool):Bool :=
 mt4 (C0 ax bx) (C0 ay by') (B8 ax bx) (B8 ay by') x y z w&&((rcp g n ns x y z w ax ay al).1||(rcp g n ns x y z w bx by' al).1 ||
  decide (2<=(isV g n (C0 ax bx) (C0 ay by') (B8 ax bx) (B8 ay by') ax ay bx by' al false false ns).2.2.2))
noncomputable def c5n:Ctx:=⟨⟨tys,[]⟩,[(198,l8 a3Y),(113,l8 a2s),(175,l8 a3W),(174,p9 b4q),(199,p9 b9f)]⟩
theorem d0b:v8 Tryz.prog c5n:=⟨⟨z6,FlatsOk.nil⟩,g8.cons (.pure b3T) (g8.cons (.pure b0e) (g8.cons (.pure b4i) (g8.cons c7V (g8.cons d0y g8.nil)))),by kernel_rfl⟩
noncomputable def b9x:List SV->RdM
 | [.ifc 102 (.agg [.flt .f64 a, .flt .f64 b, .flt .f64 c, .flt .f64 d]), .agg [.flt .f64 ax, .flt .f64 ay, .flt .f64 bx, .flt .f64 by'],v]=>(match v.toB with
  | some al=>.ret ⟨[.ifc 102 (.agg [.flt .f64 a, .flt .f64 b, .flt .f64 c, .flt .f64 d]), .agg [.flt .f64 ax, .flt .f64 ay, .flt .f64 bx, .flt .f64 by'], .bool al],[], .bool (ris (rcG a b c d) 4 4 a b c d ax ay bx by' al),[],[],some ((W1 a/\W1 b/\W1 c/\W1 d)/\W1 ax/\W1 ay/\W1 bx/\W1 by')⟩
  | none=>.fail)
 | _=>.fail
theorem c0E(a b c d ax ay bx by':Nat)(al:Bool){w9:HC}(e9:w9=⟨[.ifc 102 (.agg [.flt .f64 a, .flt .f64 b, .flt .f64 c, .flt .f64 d]), .agg [.flt .f64 ax, .flt .f64 ay, .flt .f64 bx, .flt .f64 by'], .bool al],[], .bool (ris (rcG a b c d) 4 4 a b c d ax ay bx by' al),[],[],some ((W1 a/\W1 b/\
 W1 c/\W1 d)/\W1 ax/\W1 ay/\W1 bx/\W1 by')⟩){T1}(t1:T1=(!(!fGt .f64 (C0 ay by') d && !fLt .f64 (B8 ay by') b && !fGt .f64 (C0 ax bx) c && !fLt .f64 (B8 ax bx) a))){T2}(t2:T2=(rcG a b c d)){T3}(t3:T3=(W1 a/\W1 b/\W1 c/\W1 d)):z7 c5n 0 [] [] (j3 Tryz.f207) (q9 Tryz.f207.ntmps w9.args w9.heap 0) (r6 c5n.E.T Tryz.f207.results.toList λS v=>w0 0 w9 S v)=(
 (T1=true->ris T2 4 4 a b c d ax ay bx by' al=false/\True)/\(T1=false->(T3/\W1 ax/\W1 ay)/\(Prod.fst (rcp T2 4 4 a b c d ax ay al)=true->ris T2 4 4 a b c d ax ay bx by' al=true/\True)/\((rcp T2 4 4 a b c d ax ay al).1=false->(T3
 /\W1 bx/\W1 by')/\(Prod.fst (rcp T2 4 4 a b c d bx by' al)=true->ris T2 4 4 a b c d ax ay bx by' al=true/\True)/\((rcp T2 4 4 a b c d bx by' al).1=false->(T3/\(W1 ax/\W1 ay/\W1 bx/\W1 by')/\(0:Int)=0)/\true=true/\decide ((2 :
 Int)<=(((isV T2 4 (C0 ax bx) (C0 ay by') (B8 ax bx) (B8 ay by') ax ay bx by' al false false 4).2).2).2)=ris T2 4 4 a b c d ax ay bx by' al/\True)))):=by subst e9 t1 t2 t3;kernel_rfl
theorem d1g:q7 Tryz.prog 207 (p9 b9x):=by
 refine j8 d0b Tryz.func207 rfl (by kernel_rfl) λargs=>?_
 unfold b9x;split
 ·rename_i a b c d ax ay bx by' v;try dsimp only
  split
  ·rename_i al hal;intro ho;replace ho:(W1 a/\W1 b/\W1 c/\W1 d)/\W1 ax/\W1 ay/\W1 bx/\W1 by':=ho;refine⟨?_,_,_,(c0E a b c d ax ay bx by' al rfl rfl rfl rfl).mpr ?_⟩
   ·refine g9 rfl ⟨?_,trivial⟩;simp[j9,o8,r8,p7,C7 hal]
   ·have e:(!(fGt .f64 (C0 ay by') d) && !(fLt .f64 (B8 ay by') b) && !(fGt .f64 (C0 ax bx) c) && !(fLt .f64 (B8 ax bx) a))=mt4 (C0 ax bx) (C0 ay by') (B8 ax bx) (B8 ay by') a b c d:=rfl;unfold ris;simp only[e];generalize mt4 (C0 ax bx) (C0 ay by') (B8 ax bx) (B8 ay by') a b c d=m;generalize (rcp (rcG a b c d) 4 4 a b c d ax ay al).1=r1;generalize (rcp (rcG a b c d) 4 4 a b c d bx by' al).1=r2;cases m <;> cases r1 <;> cases r2 <;> simp[ho]
  ·trivial
 ·trivial
def emp(cl:Bool)(n:Nat):Bool:=decide (n<2∨cl=true/\n<3)
section
variable (g:Nat->Nat) (n ns:Nat) (cl cw cv:Bool) (x y z w:Nat)
noncomputable def sPs(g2:Nat->Nat)(al:Bool)(i:Nat):Bool:=(rcp g n ns x y z w (g2 (2*i)) (g2 (2*i+1)) al).1
end
theorem a0d{p:Nat->Bool}:∀ {m:Nat},(∀ i,i<m->p i=false)->H8 p m=false
 | 0,_=>rfl
 | m+1,h=>by
  show (H8 p m||p m)=false;rw[a0d (λi hi=>h i (by omega)),h m (by omega)];rfl
section
variable (g:Nat->Nat) (n ns x y z w:Nat)
noncomputable def sIs(g2:Nat->Nat)(n2:Nat)(al:Bool)(i:Nat):Bool:=ris g n ns x y z w (g2 (2*i)) (g2 (2*i+1)) (g2 (2*nx n2 i)) (g2 (2*nx n2 i+1)) al
end
def G9(p:Nat->Bool)(i:Nat):Prop:=∀ j,j<i->p j=false
def rsR(on lf:Nat->Bool):Nat->Bool×Bool
 | 0=>(false,false)
 | i+1=>if (rsR on lf i).1=true then rsR on lf i else if on i=true then(true,(rsR on lf i).2)else(false,(rsR on lf i).2 != lf i)
theorem b1m(len:Nat)(b:Bool)(g:Nat->Int):o6 len b g<=len:=by
 unfold o6;split
 ·omega
 ·split <;> omega
end Go.Proofs.Tryz.Sx

namespace Go.Proofs.Tryz.Sx
open Go Go.Sx Go.Proofs Go.Fl Go.Geo
theorem c2q{meet onS lfS on lf:Nat->Bool}{al:Bool}{E:Nat}(h1:∀ i,i<E->meet i=false->on i=false/\lf i=false)(h2:∀ i,i<E->onS i=on i)(h3:∀ i,i<E->on i=false->lfS i=lf i) :
  ∀ m,m<=E->(cpR meet onS lfS al false (-1) m).1=(rsR on lf m).1/\((rsR on lf m).1=false->(cpR meet onS lfS al false (-1) m).2.1=(rsR on lf m).2)/\((rsR on lf m).1=true->(cpR meet onS lfS al false (-1) m).2.1=al)
 | 0,_=>⟨rfl,λ_=>rfl,λh=>(nomatch h)⟩
 | m+1,hm=>by
  obtain⟨i1,i2,i3⟩:=c2q h1 h2 h3 m (by omega);have ec:cpR meet onS lfS al false (-1) (m+1)=if (cpR meet onS lfS al false (-1) m).1=true∨meet m=false then cpR meet onS lfS al false (-1) m else if onS m=true then(true,al,(m:Int))else(false,xor (cpR meet onS lfS al false (-1) m).2.1 (lfS m),(cpR meet onS lfS al false (-1) m).2.2):=rfl
  have er:rsR on lf (m+1)=if (rsR on lf m).1=true then rsR on lf m else if on m=true then(true,(rsR on lf m).2)else(false,(rsR on lf m).2 != lf m):=rfl
  rw[ec,er,i1]
  cases hr:(rsR on lf m).1 with
  | true =>
   rw[if_pos (.inl rfl),if_pos rfl,hr];exact⟨by rw[i1,hr],λh=>(nomatch h),λ_=>i3 hr⟩
  | false =>
   rw[if_neg (show ¬false=true by decide)]
   cases hmt:meet m with
   | false =>
    obtain⟨o1,o2⟩:=h1 m (by omega) hmt;rw[if_pos (.inr rfl),if_neg (by rw[o1];decide),o2];refine⟨by rw[i1,hr],λ_=>?_,λh=>(nomatch h)⟩;rw[i2 hr];simp
   | true =>
    rw[if_neg (by simp),h2 m (by omega)]
    cases ho:on m with
    | true=>exact⟨rfl,λh=>(nomatch h),λ_=>rfl⟩
    | false =>
     rw[if_neg (by decide),if_neg (by decide)];refine⟨rfl,λ_=>?_,λh=>(nomatch h)⟩;show xor _ _=_;rw[i2 hr,h3 m (by omega) ho]
def par(lf:Nat->Bool):Nat->Bool
 | 0=>false
 | i+1=>par lf i != lf i
theorem b6E{on lf:Nat->Bool}:∀ m,(∀ i,i<m->on i=false)->rsR on lf m=(false,par lf m)
 | 0,_=>rfl
 | m+1,h=>by
  have er:rsR on lf (m+1)=if (rsR on lf m).1=true then rsR on lf m else if on m=true then(true,(rsR on lf m).2)else(false,(rsR on lf m).2 != lf m):=rfl
  rw[er,b6E m (λi hi=>h i (by omega)),if_neg (by simp),if_neg (by rw[h m (by omega)];simp)];rfl
theorem Y2{x y:Nat}{a b:Int}(hx:FI x a)(hy:FI y b):FI (C0 x y) (min a b):=by
 unfold C0;rw[E6 hx hy];by_cases e:b<a
 ·rw[if_pos (decide_eq_true e),Int.min_eq_right (by omega)];exact hy
 ·rw[if_neg (by simpa using e),Int.min_eq_left (by omega)];exact hx
theorem Y7{x y:Nat}{a b:Int}(hx:FI x a)(hy:FI y b):FI (B8 x y) (max a b):=by
 unfold B8;rw[E6 hx hy];by_cases e:b<a
 ·rw[if_pos (decide_eq_true e),Int.max_eq_left (by omega)];exact hx
 ·rw[if_neg (by simpa using e),Int.max_eq_right (by omega)];exact hy
end Go.Proofs.Tryz.Sx

namespace Go.Proofs.Tryz.Sx
open Go Go.Sx Go.Proofs Go.Fl Go.Geo
end Go.Proofs.Tryz.Sx

namespace Go.Proofs.Tryz.Sx
open Go Go.Sx Go.Proofs Go.Fl Go.Geo
set_option maxRecDepth 100000
def ig2(g:Nat->Int):Fam:=⟨Nat,λi =>
 ⟨30,[(5, .slc 0 0 2 2),(6, .int .i64 2),(7, .int .i64 i)],[(0,⟨false,28, .ints .i64 4 g,0⟩)],1⟩,λi=>i<=2/\∀ j,j<2*i->j7 (g j),λi=>2-i⟩
noncomputable def a8E:List SV->RdM
 | [.slc n 0 2 2]=>.read n λo0=>(match o7 .i64 o0.c with
  | some (m0,g)=>.ret ⟨[.slc 0 0 2 2],[(0,⟨false,28, .ints .i64 m0 g,0⟩)], .bool (F6 4 g),[],[],some (m0=4/\True)⟩
  | none=>.fail)
 | _=>.fail
theorem b4X(g:Nat->Int){w9:HC}(e9:w9=⟨[.slc 0 0 2 2],[(0,⟨false,28, .ints .i64 (4) g,0⟩)], .bool (F6 4 g),[],[],some (4=4/\True)⟩){T1}(t1:T1=λ(i:Nat)=>(0+Int.toNat (↑i:Int)*2+1)){T2}(t2:T2=λ(i:Nat)=>(0+Int.toNat (↑i:Int)*2))
 {T3}(t3:T3=(-1048576:Int)):z7 G0 1 [(2,ig2 g)] [] (j3 Tryz.f19) (q9 Tryz.f19.ntmps w9.args w9.heap 1) (r6 G0.E.T Tryz.f19.results.toList λS v=>w0 1 w9 S v)=(
 (∃(i:Nat),(i<=2/\∀(j:Nat),j<2*i->j7 (g j))/\((True/\0=0/\2=2/\2=2)/\(2:Int)=2/\0=(↑i:Int)/\True)/\True/\(4<=4/\∀(i:Nat),i<4->g i=g i)/\True)/\∀(i:Nat),(i<=2/\∀(j:Nat),j<2*i->j7
 (g j))->(decide ((↑i:Int)<2)=true->((0<=(↑i:Int)/\(↑i:Int)<(2:Int))/\1<=4)/\0+Int.toNat (↑i:Int)*2+2<=4/\(decide (g (T2 i)<T3)=true->F6 4 g=false/\True)/\(decide (g (T2 i)<T3)=false->(decide ((1048576
 : Int)<g (T2 i))=true->F6 4 g=false/\True)/\(decide ((1048576:Int)<g (T2 i))=false->(decide (g (T1 i)<T3)=true->F6 4 g=false/\True)/\(decide (g (T1 i)<T3)=false->(decide ((1048576:Int)<g (T1 i))=true->
 F6 4 g=false/\True)/\(decide ((1048576:Int)<g (T1 i))=false->∃(i':Nat),(i'<=2/\∀(j:Nat),j<2*i'->j7 (g j))/\2-i'<2-i/\((True/\0=0/\2=2/\2=2)/\(2:Int)=2/\IntKind.wrap .i64 ((↑i:Int)+1)=(↑i'
 : Int)/\True)/\True/\(4<=4/\∀(i:Nat),i<4->g i=g i)/\True)))))/\(decide ((↑i:Int)<(2:Int))=false->F6 4 g=true/\True)):=by subst e9 t1 t2 t3;kernel_rfl
theorem c5p:q7 Tryz.prog 19 (p9 a8E):=by
 refine j8 g0 Tryz.func19 rfl (by kernel_rfl) λargs=>?_
 unfold a8E;split
 ·rename_i n;intro o0;try dsimp only
  split
  ·rename_i m0 g hm0;intro ho;replace ho:m0=4/\True:=ho;obtain⟨hsz0,ho⟩:=ho;subst hsz0;refine⟨?_,_,_,(b4X g rfl rfl rfl rfl).mpr ?_⟩
   ·refine g9 rfl ⟨?_,⟨trivial,(o5 hm0).1,trivial⟩⟩;simp[j9,o8,o9,p7,nth,a8]
   ·have bad:∀ j,j<4->¬j7 (g j)->F6 4 g=false:=λj hj h=>decide_eq_false λhh=>h (hh j hj)
    refine⟨⟨0,⟨by omega,λj hj=>by omega⟩,by simp⟩,λi hi=>⟨λh=>?_,λh=>?_⟩⟩
    ·have hi2:i<2:=by have:=of_decide_eq_true h;omega
     have hw:IntKind.i64.wrap ((i:Int)+1)=((i+1:Nat):Int):=by rw[j5 (by omega) (by omega)];omega
     have e0:g (0+i*2)=g (2*i):=by congr 1;omega
     have e1:g (0+i*2+1)=g (2*i+1):=by congr 1;omega
     simp only[true_and,and_true,eq_self,Nat.le_refl,implies_true,Int.toNat_natCast,hw,e0,e1,decide_eq_true_eq,decide_eq_false_iff_not];refine⟨⟨⟨by omega,by omega⟩,by omega⟩,by omega,λq=>bad (2*i) (by omega) (by unfold j7;omega),λq1=>⟨λq=>bad (2*i) (by omega) (by unfold j7;omega),λq2=>⟨λq=>bad (2*i+1) (by omega) (by unfold j7;omega),λq3=>⟨λq=>bad (2*i+1) (by omega) (by unfold j7;omega),λq4=>⟨i+1,⟨by omega,λj hj=>?_⟩,by omega,rfl⟩⟩⟩⟩⟩;by_cases u:j<2*i
     ·exact hi.2 j u
     ·have:j=2*i∨j=2*i+1:=by omega
      rcases this with rfl|rfl <;> (unfold j7;omega)
    ·have h:=of_decide_eq_false h;have:i=2:=by omega
     subst this;exact⟨decide_eq_true λj hj=>hi.2 j hj,trivial⟩
  ·trivial
 ·trivial
set_option maxHeartbeats 4000000
end Go.Proofs.Tryz.Sx

namespace Go.Sx
open Go.RowKit
end Go.Sx
namespace Go.Sx
open Go.RowKit
def c1o(n:Nm):Option Eff->Option Eff
 | some e=>some ⟨e.val,e.wr,e.news,n :: e.rds,e.obl⟩
 | none=>none
def a7u(q:a9->Bool)(a b:Con):Con:=λargs rd nm=>match args with
 | .ptr n _ :: _=>match rd n with
  | some o=>match q o.c with
   | true=>c1o n (a args rd nm)
   | false=>c1o n (b args rd nm)
  | none=>none
 | _=>none
theorem q7.kind{P:Program}{f:Nat}{a b:Con}{q:a9->Bool}(ha:q7 P f a)(hb:q7 P f b):q7 P f (a7u q a b) where
 calls:=by
  intro W0 Fr U H ρ w nm args e hH hbd hn hc ho;unfold a7u at hc;split at hc
  ·split at hc
   ·split at hc
    ·cases he:a _ (look H) nm with
     | none=>rw[he]at hc;cases hc
     | some e1=>rw[he]at hc;cases hc;exact ha.calls (e:=e1) hH hbd hn he ho
    ·cases he:b _ (look H) nm with
     | none=>rw[he]at hc;cases hc
     | some e1=>rw[he]at hc;cases hc;exact hb.calls (e:=e1) hH hbd hn he ho
   ·cases hc
  ·cases hc
 loc:=by
  intro args rd rd' nm e hc hr;unfold a7u at hc ⊢;split at hc
  ·rename_i n _ _;split at hc
   ·rename_i o hno;split at hc
    ·rename_i hq
     cases he:a _ rd nm with
     | none=>rw[he]at hc;cases hc
     | some e1 =>
      rw[he]at hc;cases hc;simp only[hr _ List.mem_cons_self,hno,hq,ha.loc he (λm hm=>hr m (List.mem_cons_of_mem _ hm)),c1o]
    ·rename_i hq
     cases he:b _ rd nm with
     | none=>rw[he]at hc;cases hc
     | some e1 =>
      rw[he]at hc;cases hc;simp only[hr _ List.mem_cons_self,hno,hq,hb.loc he (λm hm=>hr m (List.mem_cons_of_mem _ hm)),c1o]
   ·cases hc
  ·cases hc
end Go.Sx
namespace Go.Sx
open Go.RowKit
end Go.Sx

namespace Go.Proofs.Tryz.Sx
open Go Go.Sx Go.Proofs Go.Fl Go.Geo
set_option maxRecDepth 100000
set_option maxHeartbeats 4000000
set_option maxHeartbeats 1000000
set_option maxHeartbeats 4000000
set_option maxHeartbeats 1000000
set_option maxHeartbeats 1000000
def b4L:a9->Option (Int×Nat×Nat×Nat×Nat×Nm)
 | .cells [.ff, .ff, .ff, .int .u8 k, .nili, .flt .f64 x, .flt .f64 y, .flt .f64 z, .flt .f64 w, .slc p 0 2 2]=>some (k,x,y,z,w,p)
 | _=>none
def a2h(k:Int)(x y z w:Nat)(p:Nm):a9:=.cells [.ff, .ff, .ff, .int .u8 k, .nili, .flt .f64 x, .flt .f64 y, .flt .f64 z, .flt .f64 w, .slc p 0 2 2]
theorem a1K{σ:Sig}{c:a9}{k:Int}{x y z w:Nat}{p q:Nm}(h:b4L c=some (k,x,y,z,w,p))(hs:K3 (σ q) p):H6 σ c (a2h k x y z w q):=by
 unfold b4L at h;split at h
 ·simp only[Option.some.injEq,Prod.mk.injEq]at h;obtain⟨rfl,rfl,rfl,rfl,rfl,rfl⟩:=h;show j9 σ _ _;simp[j9,o8,p8,r8,hs]
 ·cases h
noncomputable def a6C:List SV->RdM
 | [.ptr s 0]=>.read s λo0=>(match b4L o0.c with
  | some (ko,xo,yo,zo,wo,po)=>.read po λo1=>(match r7 .f64 o1.c with
  | some (m1,h)=>.ret ⟨[.ptr 0 0],[(0,⟨false,152,a2h ko xo yo zo wo 1,0⟩),(1,⟨false,100, .flts .f64 m1 h,0⟩)], .ff,[],[],some (m1=4/\True)⟩
  | none=>.fail)
  | none=>.fail)
 | _=>.fail
theorem b3a(ko:Int)(xo yo zo wo:Nat)(_:Nm)(h:Nat->Nat){w9:HC}(e9:w9=⟨[.ptr 0 0],[(0,⟨false,152,a2h ko xo yo zo wo 1,0⟩),(1,⟨false,100, .flts .f64 (4) h,0⟩)], .ff,[],[],some (4=4/\True)⟩):z7 G0 2 [] [] (j3 Tryz.f163) (q9 Tryz.f163.ntmps w9.args w9.heap 2) (r6 G0.E.T Tryz.f163.results.toList λS v=>w0 2 w9 S v)=(
 false=false/\True):=by subst e9;kernel_rfl
theorem c1w:q7 Tryz.prog 163 (p9 a6C):=by
 refine j8 g0 Tryz.func163 rfl (by kernel_rfl) λargs=>?_
 unfold a6C;split
 ·rename_i s;intro o0;try dsimp only
  split
  ·rename_i ko xo yo zo wo po hm0;intro o1;try dsimp only
   split
   ·rename_i m1 h hm1;intro ho;replace ho:m1=4/\True:=ho;obtain⟨hsz1,ho⟩:=ho;subst hsz1;refine⟨?_,_,_,(b3a ko xo yo zo wo po h rfl).mpr ?_⟩
    ·refine g9 rfl ⟨?_,⟨trivial,a1K hm0 a8,⟨trivial,(r9 hm1).1,trivial⟩⟩⟩;simp[j9,o8,o9,p7,nth,a8]
    ·simp
   ·trivial
  ·trivial
 ·trivial
noncomputable def b1H:List SV->RdM
 | [.ptr s 0]=>.read s λo0=>(match b4L o0.c with
  | some (ko,xo,yo,zo,wo,po)=>.read po λo1=>(match r7 .f64 o1.c with
  | some (m1,h)=>.ret ⟨[.ptr 0 0],[(0,⟨false,152,a2h ko xo yo zo wo 1,0⟩),(1,⟨false,100, .flts .f64 m1 h,0⟩)], .int .i64 1,[],[],some (m1=4/\True)⟩
  | none=>.fail)
  | none=>.fail)
 | _=>.fail
theorem b7o(ko:Int)(xo yo zo wo:Nat)(_:Nm)(h:Nat->Nat){w9:HC}(e9:w9=⟨[.ptr 0 0],[(0,⟨false,152,a2h ko xo yo zo wo 1,0⟩),(1,⟨false,100, .flts .f64 (4) h,0⟩)], .int .i64 1,[],[],some (4=4/\True)⟩):z7 G0 2 [] [] (j3 Tryz.f111) (q9 Tryz.f111.ntmps w9.args w9.heap 2) (r6 G0.E.T Tryz.f111.results.toList λS v=>w0 2 w9 S v)=(
 (false=true->(0:Int)=1/\True)/\(false=false->(1:Int)=1/\True)):=by subst e9;kernel_rfl
theorem c6S:q7 Tryz.prog 111 (p9 b1H):=by
 refine j8 g0 Tryz.func111 rfl (by kernel_rfl) λargs=>?_
 unfold b1H;split
 ·rename_i s;intro o0;try dsimp only
  split
  ·rename_i ko xo yo zo wo po hm0;intro o1;try dsimp only
   split
   ·rename_i m1 h hm1;intro ho;replace ho:m1=4/\True:=ho;obtain⟨hsz1,ho⟩:=ho;subst hsz1;refine⟨?_,_,_,(b7o ko xo yo zo wo po h rfl).mpr ?_⟩
    ·refine g9 rfl ⟨?_,⟨trivial,a1K hm0 a8,⟨trivial,(r9 hm1).1,trivial⟩⟩⟩;simp[j9,o8,o9,p7,nth,a8]
    ·simp
   ·trivial
  ·trivial
 ·trivial
noncomputable def b1I:List SV->RdM
 | [.ptr s 0, .int .i64 0]=>.read s λo0=>(match b4L o0.c with
  | some (ko,xo,yo,zo,wo,po)=>.read po λo1=>(match r7 .f64 o1.c with
  | some (m1,h)=>.ret ⟨[.ptr 0 0, .int .i64 0],[(0,⟨false,152,a2h ko xo yo zo wo 1,0⟩),(1,⟨false,100, .flts .f64 m1 h,0⟩)], .agg [.flt .f64 (h 0), .flt .f64 (h 1), .flt .f64 (h 2), .flt .f64 (h 3)],[],[],some (m1=4/\True)⟩
  | none=>.fail)
  | none=>.fail)
 | _=>.fail
theorem b6I(ko:Int)(xo yo zo wo:Nat)(_:Nm)(h:Nat->Nat){w9:HC}(e9:w9=⟨[.ptr 0 0, .int .i64 0],[(0,⟨false,152,a2h ko xo yo zo wo 1,0⟩),(1,⟨false,100, .flts .f64 (4) h,0⟩)], .agg [.flt .f64 (h 0), .flt .f64 (h 1), .flt .f64 (h 2), .flt .f64 (h 3)],[],[],some (4=4/\True)⟩){T1}(t1:T1=(((0 :
 Int)<=0/\(0:Int)<2)/\1<=4)):z7 G0 2 [] [] (j3 Tryz.f112) (q9 Tryz.f112.ntmps w9.args w9.heap 2) (r6 G0.E.T Tryz.f112.results.toList λS v=>w0 2 w9 S v)=(
 T1/\2<=4/\(false=true->T1/\2<=4/\(h 0=h 0/\h 1=h 1/\h 0=h 2/\h 1=h 3/\True)/\True)/\(false=false->(((0:Int)<=1/\(1:Int)<2)/\1<=4)/\4<=4/\(h 0=h 0/\h 1=h 1/\h 2=h 2/\h 3=h 3/\True)/\True)):=by subst e9 t1;kernel_rfl
theorem c8K:q7 Tryz.prog 112 (p9 b1I):=by
 refine j8 g0 Tryz.func112 rfl (by kernel_rfl) λargs=>?_
 unfold b1I;split
 ·rename_i s;intro o0;try dsimp only
  split
  ·rename_i ko xo yo zo wo po hm0;intro o1;try dsimp only
   split
   ·rename_i m1 h hm1;intro ho;replace ho:m1=4/\True:=ho;obtain⟨hsz1,ho⟩:=ho;subst hsz1;refine⟨?_,_,_,(b6I ko xo yo zo wo po h rfl rfl).mpr ?_⟩
    ·refine g9 rfl ⟨?_,⟨trivial,a1K hm0 a8,⟨trivial,(r9 hm1).1,trivial⟩⟩⟩;simp[j9,o8,p8,o9,p7,nth,a8]
    ·simp
   ·trivial
  ·trivial
 ·trivial
def isO:a9->Bool
 | .cells [_,_,_,_,_,_,_,_,_, .slc _ _ _ _]=>true
 | _=>false
noncomputable def lon(g:Nat->Nat)(n a b c d:Nat)(j:Nat):Bool:=onW (g (2*j)) (g (2*j+1)) (g (2*nx n j)) (g (2*nx n j+1)) a b&&onW (g (2*j)) (g (2*j+1)) (g (2*nx n j)) (g (2*nx n j+1)) c d
end Go.Proofs.Tryz.Sx
