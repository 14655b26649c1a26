/- Parts of a proof, in order: what each says stands at its head. No conditions. -/
import Derived.Test.YtfhkmkhcofodmaaGreatProg
import Derived.KernelRfl
import Derived.Test.YtfhkmkhcofodmaaGreatM2
import Derived.Test.YtfhkmkhcofodmaaGreatM1
namespace Go.Sx
open Go.RowKit
inductive Xt where
 | normal
 | exit (id:Nat)
 | ret
def B6(N0:Nat)(S S':St):Prop :=
 N0<=S'.N/\∀ W0 Fr ρ a w,Sat W0 Fr S ρ a w->∃ ρ',Sat W0 Fr S' ρ' a w/\∀ n,n<N0->ρ' n=ρ n
structure b6x (N0:Nat) (body:St->(Xt->St->Prop)->Prop) (S:St) (K:Xt->St->Prop):Prop where
 ex:∃(ι:Type)(I:ι->St)(μ:ι->Nat)(i0:ι),B6 N0 S (I i0)/\
  ∀ i,body (I i) (λe S'=>match e with
   | .normal=>∃ i',μ i'<μ i/\B6 N0 S' (I i')
   | e=>K e S')
def a0A(G:Ctx)(N0:Nat):Code->St->(Xt->St->Prop)->Prop
 | .skip,S,K=>K .normal S
 | .region _ ops draw,S,K=>match draw with
  | false=>a9h G ops.toList ops.toList S (K .normal)
  | true=>b2I G ops.toList S (K .normal) 20 []
 | .seq x y,S,K=>a0A G N0 x S (λe S'=>match e with
  | .normal=>a0A G N0 y S' K
  | e=>K e S')
 | .cond c x y,S,K=>match opr S.sl c with
  | some .tt=>a0A G N0 x S K
  | some .ff=>a0A G N0 y S K
  | some (.bool b)=>(b=true->a0A G N0 x S K)/\(b=false->a0A G N0 y S K)
  | _=>False
 | .block id x,S,K=>a0A G N0 x S (λe S'=>match e with
  | .exit j=>match Nat.beq j id with
   | true=>K .normal S'
   | false=>K (.exit j) S'
  | e=>K e S')
 | .exit id,S,K=>K (.exit id) S
 | .ret,S,K=>K .ret S
 | .loop x,S,K=>b6x N0 (a0A G N0 x) S K
 | _,_,_=>False
section
variable {P:Program} {W0:World} {Fr:Nat->Prop} {G:Ctx}
def b6p(W0:World)(Fr:Nat->Prop)(N0:Nat)(ρ0:Rho)(K:Xt->St->Prop)(Q:Exit->Act->World->Prop):Prop :=
 ∀ e S' ρ' a' w',K e S'->Sat W0 Fr S' ρ' a' w'->N0<=S'.N->(∀ n,n<N0->ρ' n=ρ0 n)->
  match e with
  | .normal=>Q .normal a' w'
  | .exit id=>Q (.exit id) a' w'
  | .ret=>Q .ret a' w'
theorem a0h{Q:Exit->Act->World->Prop}{c:Code}{ι:Type}(J:ι->Act->World->Prop)(μ:ι->Nat)
  (round:∀ i a w,J i a w->c.wp P (Exit.then (λa' w'=>∃ i',J i' a' w'/\μ i'<μ i) Q) a w) {i0:ι} {a:Act} {w:World} (h0:J i0 a w):(Code.loop c).wp P Q a w:=by
 classical
 have least:∀ a w,(∃ i,J i a w)->∃ i,J i a w/\∀ j,J j a w->μ i<=μ j:=by
  intro a w ⟨i,hi⟩
  have key:∀ n (i:ι),J i a w->μ i=n->∃ i,J i a w/\∀ j,J j a w->μ i<=μ j:=by
   intro n
   induction n using Nat.strongRecOn with
   | _ n ih =>
    intro i hi hn;by_cases h:∃ j,J j a w/\μ j<μ i
    ·obtain⟨j,hj,hlt⟩:=h;exact ih (μ j) (hn▸hlt) j hj rfl
    ·exact⟨i,hi,λj hj=>Nat.le_of_not_lt λhlt=>h ⟨j,hj,hlt⟩⟩
  exact key _ i hi rfl
 let m:Act->World->Nat:=λa w=>if h:∃ i,J i a w then μ (Classical.choose (least a w h))else 0
 refine wp_loop (λa w=>∃ i,J i a w) m ⟨i0,h0⟩ λa w hI=>?_
 obtain⟨h1,h2⟩:=Classical.choose_spec (least a w hI);refine wp_mono (round _ a w h1) λe a' w' hq=>?_
 cases e with
 | normal =>
  obtain⟨i',hi',hlt⟩:=hq;refine⟨⟨i',hi'⟩,?_⟩;have hI':∃ i,J i a' w':=⟨i',hi'⟩;obtain⟨h3,h4⟩:=Classical.choose_spec (least a' w' hI');show m a' w'<m a w;simp only[m,dif_pos hI',dif_pos hI];exact Nat.lt_of_le_of_lt (h4 i' hi') hlt
 | exit id=>exact hq
 | goto l=>exact hq
 | ret=>exact hq
 | panic ch=>exact hq
 | outgrown=>exact hq
theorem a6b(hG:A0 P G){N0:Nat}{ρ0:Rho}:∀(c:Code) {S:St} {ρ:Rho} {a:Act} {w:World} {K:Xt->St->Prop} {Q:Exit->Act->World->Prop},a0A G N0 c S K->Sat W0 Fr S ρ a w->N0<=S.N->
  (∀ n,n<N0->ρ n=ρ0 n)->b6p W0 Fr N0 ρ0 K Q->c.wp P Q a w:=by
 intro c
 induction c with
 | skip=>intro S ρ a w K Q h hS hN hρ hK;exact wp_skip (hK .normal S ρ a w h hS hN hρ)
 | region id ops draw =>
  intro S ρ a w K Q h hS hN hρ hK
  cases draw with
  | false =>
   simp only[a0A]at h;refine wp_region ?_;have:=a3N hG (Q:=Q) ops.toList 0 (λj=>by simp) h hS hN hρ (λS' ρ' a' w' h' hS' hN' hρ'=>hK .normal S' ρ' a' w' h' hS' hN' hρ');rw[List.range_eq_range'];simpa using this
  | true =>
   simp only[a0A]at h;exact b2K hG hG.mix 20 [] h hS hN hρ (λS' ρ' a' w' h' hS' hN' hρ'=>hK .normal S' ρ' a' w' h' hS' hN' hρ')
 | seq x y ihx ihy =>
  intro S ρ a w K Q h hS hN hρ hK;simp only[a0A]at h;refine wp_seq (ihx h hS hN hρ λe S' ρ' a' w' h' hS' hN' hρ'=>?_)
  cases e with
  | normal=>exact ihy h' hS' hN' hρ' hK
  | exit id=>exact hK (.exit id) S' ρ' a' w' h' hS' hN' hρ'
  | ret=>exact hK .ret S' ρ' a' w' h' hS' hN' hρ'
 | cond c x y ihx ihy =>
  intro S ρ a w K Q h hS hN hρ hK;simp only[a0A]at h;split at h
  ·rename_i hv;exact wp_cond_true (by simpa [SV.den]using (H6 hS.s hv).1) (ihx h hS hN hρ hK)
  ·rename_i hv;exact wp_cond_false (by simpa [SV.den]using (H6 hS.s hv).1) (ihy h hS hN hρ hK)
  ·rename_i b hv;have hb:=(H6 hS.s hv).1;simp only[SV.den]at hb;exact wp_cond_split hb (λe=>ihx (h.1 e) hS hN hρ hK) (λe=>ihy (h.2 e) hS hN hρ hK)
  ·exact h.elim
 | block id x ih =>
  intro S ρ a w K Q h hS hN hρ hK;simp only[a0A]at h;refine wp_block (ih h hS hN hρ λe S' ρ' a' w' h' hS' hN' hρ'=>?_)
  cases e with
  | normal=>exact hK .normal S' ρ' a' w' h' hS' hN' hρ'
  | ret=>exact hK .ret S' ρ' a' w' h' hS' hN' hρ'
  | exit j =>
   simp only at h';simp only[Exit.inBlock];split at h'
   ·rename_i hj;rw[if_pos (Nat.eq_of_beq_eq_true hj)];exact hK .normal S' ρ' a' w' h' hS' hN' hρ'
   ·rename_i hj;rw[if_neg (λe=>by subst e;simp at hj)];exact hK (.exit j) S' ρ' a' w' h' hS' hN' hρ'
 | exit id=>intro S ρ a w K Q h hS hN hρ hK;exact wp_exit (hK (.exit id) S ρ a w h hS hN hρ)
 | ret=>intro S ρ a w K Q h hS hN hρ hK;exact wp_ret (hK .ret S ρ a w h hS hN hρ)
 | loop x ih =>
  intro S ρ a w K Q h hS hN hρ hK;simp only[a0A]at h;obtain⟨ι,I,μ,i0,h0,hr⟩:=h.ex
  have a6o:∀ {S1:St} {i:ι},B6 N0 S1 (I i)->∀ {ρ1 a1 w1},Sat W0 Fr S1 ρ1 a1 w1->(∀ n,n<N0->ρ1 n=ρ0 n)->
    ∃ ρ',Sat W0 Fr (I i) ρ' a1 w1/\N0<=(I i).N/\∀ n,n<N0->ρ' n=ρ0 n:=by
   intro S1 i hR ρ1 a1 w1 hS1 hρ1;obtain⟨ρ',h1,h2⟩:=hR.2 W0 Fr ρ1 a1 w1 hS1;exact⟨ρ',h1,hR.1,λn hn=>(h2 n hn).trans (hρ1 n hn)⟩
  refine a0h (λi a w=>∃ ρ',Sat W0 Fr (I i) ρ' a w/\N0<=(I i).N/\∀ n,n<N0->ρ' n=ρ0 n) μ ?_ (a6o h0 hS hρ);rintro i a1 w1 ⟨ρ1,hS1,hN1,hρ1⟩;refine ih (hr i) hS1 hN1 hρ1 λe S' ρ' a' w' h' hS' hN' hρ'=>?_
  cases e with
  | normal =>
   obtain⟨i',hlt,hR⟩:=h';exact⟨i',a6o hR hS' hρ',hlt⟩
  | exit id=>exact hK (.exit id) S' ρ' a' w' h' hS' hN' hρ'
  | ret=>exact hK .ret S' ρ' a' w' h' hS' hN' hρ'
 | _=>intro S ρ a w K Q h;exact(h:False).elim
def b8U(T:Tys)(S:St):ResultVar->Option (SV×Option Prop)
 | .tmp t=>match slot S.sl t with
  | some v=>some (v,none)
  | none=>none
 | .cell a t=>match slot S.sl a with
  | some (.ptr n i)=>match ty T t with
   | some ti=>match Nat.ble 1 ti.size with
    | true=>match look S.H n with
     | some ob=>a8H ti ob.c i
     | none=>none
    | false=>none
   | none=>none
  | _=>none
def b4Y(T:Tys)(S:St):List ResultVar->Option (List SV×Option Prop)
 | []=>some ([],none)
 | x :: r=>match b8U T S x with
  | some (v,p)=>match b4Y T S r with
   | some (vs,q)=>some (v :: vs,match p,q with
    | none,q=>q
    | p,none=>p
    | some p,some q=>some (p/\q))
   | none=>none
  | none=>none
def a8L(vs:List SV):SV :=
 match vs with
 | [v]=>v
 | vs=>.tup vs
def a8d(a:Array Value):ResultVar->Sem Value
 | .tmp t=>pure (a.getD t undef)
 | .cell a' t=>do loadVar t (<-asAddr (a.getD a' undef))
theorem b1W(fn:Func)(a:Array Value):results fn a=(do
  let vs <-fn.results.mapM (a8d a)
  pure (if h:vs.size=1 then vs[0]else .tuple vs)):=by
 unfold results;congr 1
theorem b2V{T:Tys}(hT:TysOk P T){S:St}{ρ:Rho}{a:Act}{w:World}(hS:Sat W0 Fr S ρ a w){x:ResultVar}{v:SV}{p:Option Prop}(h:b8U T S x=some (v,p))(hp:okP p) :
  (a8d a.tmps x).run P w=.ok (v.den ρ) w/\v.bd (·< S.N):=by
 cases x with
 | tmp t =>
  simp only[b8U]at h;split at h
  ·rename_i u hu;simp only[Option.some.injEq,Prod.mk.injEq]at h;obtain⟨rfl,rfl⟩:=h;have:=hS.s.val _ _ hu;exact⟨by simp[a8d,Array.getD_eq_getD_getElem?,this],hS.s.bd _ _ hu⟩
  ·cases h
 | cell a' t =>
  simp only[b8U]at h;split at h
  ·rename_i n i hn;split at h
   ·rename_i ti hti;split at h
    ·rename_i hsz;split at h
     ·rename_i ob hob;obtain⟨h1,h2⟩:=a3c (hT t ti hti) hS.h hob h hp (λ_=>Nat.le_of_ble_eq_true hsz);refine⟨?_,h2⟩;have hv:=hS.s.val _ _ hn;simp only[SV.den]at hv;simp only[a8d,Array.getD_eq_getD_getElem?,hv,Option.getD_some];simp only[Instr.loadAt]at h1;rw[<-h1]
      cases ha:ρ.addr n i with
      | none=>rw[ha]at h1;simp[Instr.sureAddr]at h1
      | some ad=>simp[Instr.sureAddr,asAddr]
     ·cases h
    ·cases h
   ·cases h
  ·cases h
theorem a5Z{T:Tys}(hT:TysOk P T){S:St}{ρ:Rho}{a:Act}{w:World}(hS:Sat W0 Fr S ρ a w):∀ {xs:List ResultVar} {vs:List SV} {p:Option Prop},b4Y T S xs=some (vs,p)->okP p->
  (xs.mapM (a8d a.tmps)).run P w=.ok (q8 ρ vs) w/\bdL (·< S.N) vs
 | [],vs,p,h,hp=>by
  simp only[b4Y,Option.some.injEq,Prod.mk.injEq]at h;obtain⟨rfl,rfl⟩:=h;simp[q8,bdL]
 | x :: r,vs,p,h,hp=>by
  simp only[b4Y]at h;split at h
  ·rename_i v p1 h1;split at h
   ·rename_i us q h2;simp only[Option.some.injEq,Prod.mk.injEq]at h;obtain⟨rfl,rfl⟩:=h
    have hpq:okP p1/\okP q:=by
     cases p1 <;> cases q <;> first|exact⟨trivial,trivial⟩|exact⟨trivial,hp⟩|exact⟨hp,trivial⟩|exact hp
    obtain⟨h3,h4⟩:=b2V hT hS h1 hpq.1;obtain⟨h5,h6⟩:=a5Z hT hS h2 hpq.2;refine⟨?_,h4,h6⟩;simp only[List.mapM_cons,Sem.run_bind,h3,h5,Result.andThen_ok,Sem.run_pure,q8]
   ·cases h
  ·cases h
theorem a2G{T:Tys}(hT:TysOk P T){S:St}{ρ:Rho}{a:Act}{w:World}(hS:Sat W0 Fr S ρ a w){fn:Func}{vs:List SV}{p:Option Prop}(h:b4Y T S fn.results.toList=some (vs,p))(hp:okP p) :
  (results fn a.tmps).run P w=.ok ((a8L vs).den ρ) w/\(a8L vs).bd (·< S.N):=by
 obtain⟨h1,h2⟩:=a5Z hT hS h hp
 have h3:(fn.results.mapM (a8d a.tmps)).run P w=.ok (q8 ρ vs).toArray w:=by
  rw[<-Array.toArray_toList (xs:=fn.results),List.mapM_toArray];simp only[Sem.run_map,h1,Result.andThen_ok]
 rw[b1W];simp only[Sem.run_bind];rw[h3];simp only[Result.andThen_ok,Sem.run_pure]
 match vs with
 | [v]=>exact⟨by simp[q8,a8L],by simpa [a8L,bdL]using h2⟩
 | []=>exact⟨by simp[q8,a8L,SV.den],by simp[a8L,SV.bd,bdL]⟩
 | v :: u :: r=>exact⟨by simp[q8,a8L,SV.den],by simpa [a8L,SV.bd]using h2⟩
end
mutual
def eqv:SV->SV->Prop
 | .tt, .tt=>True
 | .ff, .ff=>True
 | .tt, .bool b=>b=true
 | .ff, .bool b=>b=false
 | .bool b, .tt=>b=true
 | .bool b, .ff=>b=false
 | .bool a, .bool b=>a=b
 | .int k a, .int k' b=>match kEq k k' with
  | true=>a=b
  | false=>False
 | .flt k a, .flt k' b=>match a4j k k' with
  | true=>a=b
  | false=>False
 | .str a, .str b=>a=b
 | .ptr n o, .ptr n' o'=>match Nat.beq n n' with
  | true=>o=o'
  | false=>False
 | .nilp, .nilp=>True
 | .slc n o l c, .slc n' o' l' c'=>match Nat.beq n n' with
  | true=>o=o'/\l=l'/\c=c'
  | false=>False
 | .nils, .nils=>True
 | .slcc n l, .slcc n' l'=>match Nat.beq n n' with
  | true=>l=l'
  | false=>False
 | .agg a, .agg b=>a1r a b
 | .tup a, .tup b=>a1r a b
 | .ifc t v, .ifc t' v'=>match Nat.beq t t' with
  | true=>eqv v v'
  | false=>False
 | .nili, .nili=>True
 | .fn f a c, .fn f' a' c'=>f=f'/\a1r a a'/\a1r c c'
 | .nilf, .nilf=>True
 | _,_=>False
def a1r:List SV->List SV->Prop
 | [],[]=>True
 | x :: xs,y :: ys=>eqv x y/\a1r xs ys
 | _,_=>False
end
mutual
theorem a5g(ρ:Rho):∀(x y:SV),eqv x y->x.den ρ=y.den ρ
 | .slcc n l,y,h=>by
  cases y <;> simp only[eqv]at h
  split at h
  ·rename_i ht;have:=Nat.eq_of_beq_eq_true ht;subst this;simp[SV.den,h]
  ·exact h.elim
 | .agg a,y,h=>by cases y <;> simp only[eqv]at h;simp[SV.den,a1z ρ a _ h]
 | .tup a,y,h=>by cases y <;> simp only[eqv]at h;simp[SV.den,a1z ρ a _ h]
 | .ifc t v,y,h=>by
  cases y <;> simp only[eqv]at h
  split at h
  ·rename_i ht;have:=Nat.eq_of_beq_eq_true ht;subst this;simp[SV.den,a5g ρ v _ h]
  ·exact h.elim
 | .fn f a c,y,h=>by
  cases y <;> simp only[eqv]at h
  obtain⟨rfl,h1,h2⟩:=h;simp[SV.den,a1z ρ a _ h1,a1z ρ c _ h2]
 | .int k a,y,h=>by
  cases y <;> simp only[eqv]at h
  split at h
  ·rename_i ht;have:=a0i ht;subst this;simp[SV.den,h]
  ·exact h.elim
 | .flt k a,y,h=>by
  cases y <;> simp only[eqv]at h
  split at h
  ·rename_i ht;have:=Q2 ht;subst this;simp[SV.den,h]
  ·exact h.elim
 | .ptr n o,y,h=>by
  cases y <;> simp only[eqv]at h
  split at h
  ·rename_i ht;have:=Nat.eq_of_beq_eq_true ht;subst this;simp[SV.den,h]
  ·exact h.elim
 | .slc n o l c,y,h=>by
  cases y <;> simp only[eqv]at h
  split at h
  ·rename_i ht;have:=Nat.eq_of_beq_eq_true ht;subst this;simp[SV.den,h]
  ·exact h.elim
 | .tt,y,h | .ff,y,h | .bool _,y,h | .str _,y,h | .nilp,y,h | .nils,y,h | .nili,y,h | .nilf,y,h | .sla _ _ _,y,h=>by
  cases y <;> simp_all[eqv,SV.den]
theorem a1z(ρ:Rho):∀(x y:List SV),a1r x y->q8 ρ x=q8 ρ y
 | [],y,h=>by cases y <;> simp_all[a1r]
 | x :: r,y,h=>by
  cases y with
  | nil=>simp[a1r]at h
  | cons u s=>simp only[a1r]at h;simp[q8,a5g ρ x u h.1,a1z ρ r s h.2]
end
def a6j:Nat->List SV->Slots
 | _,[]=>[]
 | i,v :: r=>(i,v) :: a6j (i+1) r
theorem a1f:∀(l:List SV)(i t:Nat),slot (a6j i l) t=if i<=t then l[t-i]? else none
 | [],i,t=>by simp[a6j,slot]
 | v :: r,i,t=>by
  simp only[a6j,F1,a1f r (i+1) t];by_cases h:i=t
  ·subst h;simp
  ·rw[if_neg h];by_cases h2:i<=t
   ·rw[if_pos h2,if_pos (by omega)];rw[show t-i=(t-(i+1))+1 by omega];simp
   ·rw[if_neg h2,if_neg (by omega)]
def z6(nt:Nat)(args:List SV)(H:A2)(N:Nat):St:={nt:=nt,sl:=a6j 0 args,H:=H,N:=N}
theorem a5L{W0:World}{Fr:Nat->Prop}{nt N:Nat}{args:List SV}{H:A2}{ρ:Rho}{w:World}(hH:HSat W0 Fr (·< N) H ρ w)(hb:bdL (·< N) args)(hl:args.length<=nt) :
  Sat W0 Fr (z6 nt args H N) ρ {tmps:=(q8 ρ args).toArray++Array.replicate (nt-(q8 ρ args).toArray.size) undef,defers:=[]} w where
 h:=hH
 s:={
  nd:=rfl
  size:=by simp[A6,z6];omega
  bd:=λt v hv=>by
   simp only[z6,a1f,Nat.zero_le,if_true,Nat.sub_zero]at hv;exact(G6 _ _).1 hb v (List.mem_of_getElem? hv)
  val:=λt v hv=>by
   simp only[z6,a1f,Nat.zero_le,if_true,Nat.sub_zero]at hv;obtain⟨h1,h2⟩:=List.getElem?_eq_some_iff.1 hv
   simp[A6,Array.getElem?_append,h1,h2]}
def a6Y(T:Tys)(rs:List ResultVar)(K:St->SV->Prop)(S:St):Prop :=
 match b4Y T S rs with
 | some (vs,p)=>okK p (K S (a8L vs))
 | none=>False
def z8(T:Tys)(rs:List ResultVar)(K:St->SV->Prop)(e:Xt)(S:St):Prop :=
 match e with
 | .exit _=>False
 | _=>a6Y T rs K S
theorem H4 {P:Program} {G:Ctx} (hG:A0 P G) {f:Nat} {fn:Func} {c:Code} (hf:P.funcs[f]? = some fn) (hb:fn.body=some c) (hnm:(fn.name == "runtime.NumGoroutine")=false) {F:PF}
  (h:∀ args v p,F args=some (v,p)->okP p->v.closed=true/\E7 args=true/\Nat.ble args.length fn.ntmps=true/\
   a0A G 0 c (z6 fn.ntmps args [] 0) (z8 G.E.T fn.results.toList λ_ v'=>eqv v' v)):C6 P f F:=by
 intro args v p hF hp;obtain⟨h1,h2,h3,h4⟩:=h args v p hF hp;refine⟨h1,λρ w=>.inl ⟨⟨fn,hf,hnm,by rw[hb];rfl⟩,?_⟩⟩;refine calls_of_wp hf hb ?_
 have hH:HSat w (·< w.heap.size) (·< 0) [] ρ w :=
  {os:=rfl,tape:=rfl,output:=rfl,size:=Nat.le_refl _,frlt:=λ_ h=>h,frame:=λ_ _=>rfl
   used:=λn o hn=>by simp[look]at hn
   bd:=λn o hn=>by simp[look]at hn
   obj:=λn o hn=>by simp[look]at hn
   inj:=λn m o o' p q hn=>by simp[look]at hn
   free:=λn o p hn=>by simp[look]at hn
   rawd:=λn o ts D sz F hn=>by simp[look]at hn}
 refine a6b hG (ρ0:=ρ) c h4 (a5L hH (H8 _ _ h2) (Nat.le_of_ble_eq_true h3)) (Nat.zero_le _) (λ_ _=>rfl) ?_;intro e S' ρ' a' w' hK hS hN hρ
 have fin:a6Y G.E.T fn.results.toList (λ_ v'=>eqv v' v) S'->a'.defers=[]/\∃ u,(results fn a'.tmps).run P w'=.ok u w'/\(Ending.returned u=.returned (v.den ρ)/\Below w.heap.size w w'):=by
  intro hr;unfold a6Y at hr;split at hr
  ·rename_i vs q hvs;obtain⟨hq,he⟩:=V8 hr;obtain⟨h5,h6⟩:=a2G hG.E.T hS hvs hq;refine⟨hS.s.nd,_,h5,?_,⟨hS.h.os,hS.h.tape,hS.h.output,hS.h.size,λk hk=>hS.h.frame k hk⟩⟩;rw[a5g ρ' _ _ he,SV.den_closed ρ ρ' h1]
  ·exact hr.elim
 cases e with
 | normal=>exact fin hK
 | ret=>exact fin hK
 | exit id=>exact hK.elim
end Go.Sx

namespace Go.Sx
open Go.RowKit
def Wp(P:Program)(N0:Nat)(c:Code)(S:St)(K:Xt->St->Prop):Prop :=
 ∀(W0:World)(Fr:Nat->Prop)(ρ0 ρ:Rho)(a:Act)(w:World)(Q:Exit->Act->World->Prop),Sat W0 Fr S ρ a w->N0<=S.N->(∀ n,n<N0->ρ n=ρ0 n)->b6p W0 Fr N0 ρ0 K Q->c.wp P Q a w
section
variable {P:Program} {G:Ctx} {N0:Nat} {S:St} {K:Xt->St->Prop}
theorem Wp.run(hG:A0 P G){c:Code}(h:a0A G N0 c S K):Wp P N0 c S K :=
 λ_ _ _ _ _ _ _ hS hN hρ hK=>a6b hG c h hS hN hρ hK
theorem Wp.mono{c:Code}{K':Xt->St->Prop}(h:Wp P N0 c S K)(hk:∀ e S',K e S'->K' e S'):Wp P N0 c S K' :=
 λW0 Fr ρ0 ρ a w Q hS hN hρ hK=>h W0 Fr ρ0 ρ a w Q hS hN hρ λe S' ρ' a' w' h'=>hK e S' ρ' a' w' (hk e S' h')
theorem Wp.seq{x y:Code}{K1:Xt->St->Prop}(h:Wp P N0 x S K1)(hn:∀ S',K1 .normal S'->Wp P N0 y S' K)(hx:∀ id S',K1 (.exit id) S'->K (.exit id) S')(hr:∀ S',K1 .ret S'->K .ret S'):Wp P N0 (.seq x y) S K:=by
 intro W0 Fr ρ0 ρ a w Q hS hN hρ hK;refine wp_seq (h W0 Fr ρ0 ρ a w _ hS hN hρ λe S' ρ' a' w' h' hS' hN' hρ'=>?_)
 cases e with
 | normal=>exact hn S' h' W0 Fr ρ0 ρ' a' w' Q hS' hN' hρ' hK
 | exit id=>exact hK (.exit id) S' ρ' a' w' (hx id S' h') hS' hN' hρ'
 | ret=>exact hK .ret S' ρ' a' w' (hr S' h') hS' hN' hρ'
theorem Wp.block{id:Nat}{x:Code}(h:Wp P N0 x S (λe S'=>match e with
  | .exit j=>match Nat.beq j id with
   | true=>K .normal S'
   | false=>K (.exit j) S'
  | e=>K e S')):Wp P N0 (.block id x) S K:=by
 intro W0 Fr ρ0 ρ a w Q hS hN hρ hK;refine wp_block (h W0 Fr ρ0 ρ a w _ hS hN hρ λe S' ρ' a' w' h' hS' hN' hρ'=>?_)
 cases e with
 | normal=>exact hK .normal S' ρ' a' w' h' hS' hN' hρ'
 | ret=>exact hK .ret S' ρ' a' w' h' hS' hN' hρ'
 | exit j =>
  simp only at h';simp only[Exit.inBlock];split at h'
  ·rename_i hj;rw[if_pos (Nat.eq_of_beq_eq_true hj)];exact hK .normal S' ρ' a' w' h' hS' hN' hρ'
  ·rename_i hj;rw[if_neg (λe=>by subst e;simp at hj)];exact hK (.exit j) S' ρ' a' w' h' hS' hN' hρ'
theorem Wp.loop{x:Code}{ι:Type}(I:ι->St)(μ:ι->Nat)(i0:ι)(h0:B6 N0 S (I i0))
  (hr:∀ i,Wp P N0 x (I i) (λe S'=>match e with
   | .normal=>∃ i',μ i'<μ i/\B6 N0 S' (I i')
   | e=>K e S')):Wp P N0 (.loop x) S K:=by
 intro W0 Fr ρ0 ρ a w Q hS hN hρ hK
 have a6o:∀ {S1:St} {i:ι},B6 N0 S1 (I i)->∀ {ρ1 a1 w1},Sat W0 Fr S1 ρ1 a1 w1->(∀ n,n<N0->ρ1 n=ρ0 n)->
   ∃ ρ',Sat W0 Fr (I i) ρ' a1 w1/\N0<=(I i).N/\∀ n,n<N0->ρ' n=ρ0 n:=by
  intro S1 i hR ρ1 a1 w1 hS1 hρ1;obtain⟨ρ',h1,h2⟩:=hR.2 W0 Fr ρ1 a1 w1 hS1;exact⟨ρ',h1,hR.1,λn hn=>(h2 n hn).trans (hρ1 n hn)⟩
 refine a0h (λi a w=>∃ ρ',Sat W0 Fr (I i) ρ' a w/\N0<=(I i).N/\∀ n,n<N0->ρ' n=ρ0 n) μ ?_ (a6o h0 hS hρ);rintro i a1 w1 ⟨ρ1,hS1,hN1,hρ1⟩;refine hr i W0 Fr ρ0 ρ1 a1 w1 _ hS1 hN1 hρ1 λe S' ρ' a' w' h' hS' hN' hρ'=>?_
 cases e with
 | normal =>
  obtain⟨i',hlt,hR⟩:=h';exact⟨i',a6o hR hS' hρ',hlt⟩
 | exit id=>exact hK (.exit id) S' ρ' a' w' h' hS' hN' hρ'
 | ret=>exact hK .ret S' ρ' a' w' h' hS' hN' hρ'
def b4k(t:Nat):Slots->Bool
 | []=>false
 | (m,_) :: r=>Nat.beq m t||b4k t r
def a2k:Slots->Slots->Bool
 | [],_=>true
 | (t,_) :: r,s => !b4k t s&&a2k r s
def c0B(t:Nat):A2->Bool
 | []=>false
 | (m,_) :: r=>Nat.beq m t||c0B t r
def a3i:A2->A2->Bool
 | [],_=>true
 | (t,_) :: r,s => !c0B t s&&a3i r s
structure b8q (S S':St):Prop where
 nt:S'.nt=S.nt
 sl:S'.sl.drop (S'.sl.length-S.sl.length)=S.sl
 ks:a2k (S'.sl.take (S'.sl.length-S.sl.length)) S.sl=true
 hp:S'.H.drop (S'.H.length-S.H.length)=S.H
 kh:a3i (S'.H.take (S'.H.length-S.H.length)) S.H=true
theorem a7G{t:Nat}:∀ {s:Slots},b4k t s=false->slot s t=none
 | [],_=>rfl
 | (m,v) :: r,h=>by
  simp only[b4k,Bool.or_eq_false_iff]at h;rw[F1,if_neg (λe=>by subst e;simp at h),a7G h.2]
theorem a7B{s:Slots}:∀ {p:Slots},a2k p s=true->∀ t v,slot s t=some v->slot (p++s) t=some v
 | [],_,_,_,h=>h
 | (m,u) :: r,h,t,v,hv=>by
  simp only[a2k,Bool.and_eq_true,Bool.not_eq_true']at h;have hm:m≠t:=λe=>by subst e;rw[a7G h.1]at hv;cases hv
  rw[List.cons_append,F1,if_neg hm];exact a7B h.2 t v hv
theorem a7A{t:Nat}:∀ {s:A2},c0B t s=false->look s t=none
 | [],_=>rfl
 | (m,v) :: r,h=>by
  simp only[c0B,Bool.or_eq_false_iff]at h;rw[g9,if_neg (λe=>by subst e;simp at h),a7A h.2]
theorem b0c{s:A2}:∀ {p:A2},a3i p s=true->∀ t v,look s t=some v->look (p++s) t=some v
 | [],_,_,_,h=>h
 | (m,u) :: r,h,t,v,hv=>by
  simp only[a3i,Bool.and_eq_true,Bool.not_eq_true']at h;have hm:m≠t:=λe=>by subst e;rw[a7A h.1]at hv;cases hv
  rw[List.cons_append,g9,if_neg hm];exact b0c h.2 t v hv
theorem b8q.slot{S':St}(h:b8q S S'){t:Nat}{v:SV}(hv:slot S.sl t=some v):Sx.slot S'.sl t=some v:=by
 have:=a7B h.ks t v hv;rw[<-List.take_append_drop (S'.sl.length-S.sl.length) S'.sl,h.sl];exact this
theorem b8q.look{S':St}(h:b8q S S'){n:Nm}{o:Ob}(hv:Sx.look S.H n=some o):Sx.look S'.H n=some o:=by
 have:=b0c h.kh n o hv;rw[<-List.take_append_drop (S'.H.length-S.H.length) S'.H,h.hp];exact this
theorem Wp.keep{x y:Code}(Φ:Prop)(h:Wp P S.N x S (λe S'=>match e with
   | .normal=>Φ/\b8q S S'
   | e=>K e S'))
  (hy:Φ->Wp P N0 y S K):Wp P N0 (.seq x y) S K:=by
 intro W0 Fr ρ0 ρ a w Q hS hN hρ hK;refine wp_seq (h W0 Fr ρ ρ a w _ hS (Nat.le_refl _) (λ_ _=>rfl) λe S' ρ' a' w' h' hS' hN' hρ'=>?_);have hρ0:∀ n,n<N0->ρ' n=ρ0 n:=λn hn=>(hρ' n (Nat.lt_of_lt_of_le hn hN)).trans (hρ n hn)
 cases e with
 | normal =>
  obtain⟨hΦ,hk⟩:=h';refine hy hΦ W0 Fr ρ0 ρ' a' w' Q ⟨?_,?_⟩ hN hρ0 hK
  ·exact {
    os:=hS'.h.os,tape:=hS'.h.tape,output:=hS'.h.output,size:=hS'.h.size,frlt:=hS'.h.frlt,frame:=hS'.h.frame
    used:=hS.h.used
    bd:=hS.h.bd
    obj:=λn o hn=>hS'.h.obj n o (hk.look hn)
    inj:=λn m o o' p q hn hm=>hS'.h.inj n m o o' p q (hk.look hn) (hk.look hm)
    free:=λn o p hn=>hS'.h.free n o p (hk.look hn)
    rawd:=λn o ts D sz F hn hr hc =>
     have k:=hS'.h.rawd n o ts D sz F (hk.look hn) hr hc
     ⟨k.sat,k.free,λm o' q hm=>k.sep m o' q (hk.look hm),λm o' ts' D' sz' F' hm=>k.sepr m o' ts' D' sz' F' (hk.look hm)⟩}
  ·exact {
    nd:=hS'.s.nd
    size:=by rw[hS'.s.size,hk.nt]
    bd:=hS.s.bd
    val:=λt v hv=>hS'.s.val t v (hk.slot hv)}
 | exit id=>exact hK (.exit id) S' ρ' a' w' h' hS' (Nat.le_trans hN hN') hρ0
 | ret=>exact hK .ret S' ρ' a' w' h' hS' (Nat.le_trans hN hN') hρ0
end
theorem a5C {P:Program} {G:Ctx} (hG:A0 P G) {f:Nat} {fn:Func} {c:Code} (hf:P.funcs[f]? = some fn) (hb:fn.body=some c) (hnm:(fn.name == "runtime.NumGoroutine")=false) {F:PF}
  (h:∀ args v p,F args=some (v,p)->okP p->v.closed=true/\E7 args=true/\Nat.ble args.length fn.ntmps=true/\
   Wp P 0 c (z6 fn.ntmps args [] 0) (z8 G.E.T fn.results.toList λ_ v'=>eqv v' v)):C6 P f F:=by
 intro args v p hF hp;obtain⟨h1,h2,h3,h4⟩:=h args v p hF hp;refine⟨h1,λρ w=>.inl ⟨⟨fn,hf,hnm,by rw[hb];rfl⟩,?_⟩⟩;refine calls_of_wp hf hb ?_
 have hH:HSat w (·< w.heap.size) (·< 0) [] ρ w :=
  {os:=rfl,tape:=rfl,output:=rfl,size:=Nat.le_refl _,frlt:=λ_ h=>h,frame:=λ_ _=>rfl
   used:=λn o hn=>by simp[look]at hn
   bd:=λn o hn=>by simp[look]at hn
   obj:=λn o hn=>by simp[look]at hn
   inj:=λn m o o' p q hn=>by simp[look]at hn
   free:=λn o p hn=>by simp[look]at hn
   rawd:=λn o ts D sz F hn=>by simp[look]at hn}
 refine h4 w (·< w.heap.size) ρ ρ _ w _ (a5L hH (H8 _ _ h2) (Nat.le_of_ble_eq_true h3)) (Nat.zero_le _) (λ_ _=>rfl) ?_;intro e S' ρ' a' w' hK hS hN hρ
 have fin:a6Y G.E.T fn.results.toList (λ_ v'=>eqv v' v) S'->a'.defers=[]/\∃ u,(results fn a'.tmps).run P w'=.ok u w'/\(Ending.returned u=.returned (v.den ρ)/\Below w.heap.size w w'):=by
  intro hr;unfold a6Y at hr;split at hr
  ·rename_i vs q hvs;obtain⟨hq,he⟩:=V8 hr;obtain⟨h5,h6⟩:=a2G hG.E.T hS hvs hq;refine⟨hS.s.nd,_,h5,?_,⟨hS.h.os,hS.h.tape,hS.h.output,hS.h.size,λk hk=>hS.h.frame k hk⟩⟩;rw[a5g ρ' _ _ he,SV.den_closed ρ ρ' h1]
  ·exact hr.elim
 cases e with
 | normal=>exact fin hK
 | ret=>exact fin hK
 | exit id=>exact hK.elim
theorem a2b {P:Program} {f:Nat} {fn:Func} {e:Array Value->Sem Value} (hf:P.funcs[f]? = some fn) (hb:fn.body.isNone=true) (hnm:(fn.name == "runtime.NumGoroutine")=false) (h1:Extern.findNext fn=none) (h2:Extern.find fn=some e) {F:PF}
  (h:∀ args v p,F args=some (v,p)->okP p->v.closed=true/\∀ (ρ:Rho) (w:World),(e (q8 ρ args).toArray).run P w=.ok (v.den ρ) w):C6 P f F:=by
 intro args v p hF hp;obtain⟨h3,h4⟩:=h args v p hF hp;refine⟨h3,λρ w=>.inr ⟨v.den ρ,w,?_,rfl,Below.refl _ _⟩⟩;simp only[callFunc,Sem.run_bind,run_program,Result.andThen_ok,hf,hnm,hb,Bool.false_eq_true,if_false,if_true,run_mark,h1,h2,h4,Sem.run_pure]
end Go.Sx

namespace Go.Sx
open Go.RowKit
def a2O(X:F7)(o:Oper)(S:St)(K:St->Prop):Prop :=
 match a2w S o.dst with
 | true=>match b0X X o.op with
  | some R=>∀ i,match R.ev i (opr S.sl) (look S.H) S.N with
   | some (e,p)=>okK e.obl (p->K (S.app o.dst e))
   | none=>False
  | none=>match c3G S o.op with
   | some (k,a,b)=>∀ r,D4 k a b r->K (S.app o.dst (Eff.pure (.flt k r)))
   | none=>match evX X (opr S.sl) (look S.H) S.N o.op with
    | some e=>okK e.obl (K (S.app o.dst e))
    | none=>False
 | false=>False
def b1P(X:F7)(ops:List Oper)(o:Oper)(S:St)(K:St->Prop):Prop :=
 match o.guard with
 | none=>a2O X o S K
 | some (j,want)=>match a4W ops j with
  | none=>False
  | some d=>match slot S.sl d with
   | some .tt=>match want with
    | true=>a2O X o S K
    | false=>a0S o S K
   | some .ff=>match want with
    | true=>a0S o S K
    | false=>a2O X o S K
   | some (.tup [])=>a0S o S K
   | some (.bool b) =>
    (b=true->match want with
     | true=>a2O X o (U5 S d .tt) K
     | false=>a0S o (U5 S d .tt) K)/\
    (b=false->match want with
     | true=>a0S o (U5 S d .ff) K
     | false=>a2O X o (U5 S d .ff) K)
   | _=>False
def a9X(X:F7)(ops:List Oper):List Oper->St->(St->Prop)->Prop
 | [],S,K=>K S
 | o :: r,S,K=>b1P X ops o S (λS'=>a9X X ops r S' K)
section
variable {P:Program} {W0:World} {Fr:Nat->Prop} {X:F7} {S:St} {ρ:Rho} {a:Act} {w:World}
theorem a7P{N0:Nat}{ρ0:Rho}{o:Oper}{K:St->Prop}{e:Eff}(hd:a2w S o.dst=true)(hS:Sat W0 Fr S ρ a w)(hN:N0<=S.N)(hρ:∀ n,n<N0->ρ n=ρ0 n){next:Act->World->Prop}(hK:a1i W0 Fr N0 ρ0 K next)
  (h2:K (S.app o.dst e)) {ρ':Rho} {w':World} (hr:∀ n,n<S.N->ρ' n=ρ n) (hH:HSat W0 Fr (UU (·< S.N) S.N) (e.wr++(e.news++S.H)) ρ' w') :
  match e.val with
  | some v=>v.bd (UU (·< S.N) S.N)->next (a.put o.dst (v.den ρ')) w'
  | none=>next (a.put o.dst undef) w':=by
 have hU:∀ n,UU (·< S.N) S.N n->n<S.N+24:=by
  intro n hn;rcases hn with hn|hn
  ·exact Nat.lt_of_lt_of_le hn (Nat.le_add_right _ _)
  ·exact hn.2
 have hH':=hH.mono (U':=(·< S.N+24)) hU;have hs':=hS.s.mono (U':=(·< S.N+24)) (λn hn=>Nat.lt_of_lt_of_le hn (Nat.le_add_right _ _)) hr;have hρ':∀ n,n<N0->ρ' n=ρ0 n:=λn hn=>(hr n (Nat.lt_of_lt_of_le hn hN)).trans (hρ n hn)
 have hN':N0<=S.N+24:=Nat.le_trans hN (Nat.le_add_right _ _);split
 ·rename_i v hv;intro hb;refine hK (S.app o.dst e) ρ' _ _ h2 ⟨hH',?_⟩ hN' hρ'
  cases hdst:o.dst with
  | none=>simpa [St.app,Act.put]using hs'
  | some d =>
   have hd':d<S.nt:=by rw[hdst]at hd;simpa [a2w]using hd
   simp only[St.app,hv];exact hs'.put hd' (SV.bd_mono hU v hb)
 ·rename_i hv;refine hK (S.app o.dst e) ρ' _ _ h2 ⟨hH',?_⟩ hN' hρ'
  cases hdst:o.dst with
  | none=>simpa [St.app,Act.put]using hs'
  | some d =>
   have hd':d<S.nt:=by rw[hdst]at hd;simpa [a2w]using hd
   simp only[St.app,hv];exact hs'.put (v:=.tup []) hd' (by simp[SV.bd,bdL])
theorem Q5(hX:B5 P X){N0:Nat}{ρ0:Rho}{o:Oper}{K:St->Prop}(h:a2O X o S K)(hS:Sat W0 Fr S ρ a w)(hN:N0<=S.N)(hρ:∀ n,n<N0->ρ n=ρ0 n)
  {next:Act->World->Prop} {Q:Exit->Act->World->Prop} (hK:a1i W0 Fr N0 ρ0 K next):o.wp P a w next Q:=by
 unfold a2O at h;split at h
 ·rename_i hd;split at h
  ·rename_i R hR
   have each:∀ i,∃ e p,R.ev i (opr S.sl) (look S.H) S.N=some (e,p)/\okP e.obl/\(p->K (S.app o.dst e)):=by
    intro i;have:=h i;split at this
    ·rename_i e p he;obtain⟨h1,h2⟩:=V8 this;exact⟨e,p,he,h1,h2⟩
    ·exact this.elim
   refine(b0S hX hR).sound (nm:=S.N) rfl hS.h (λj _=>by simp) (λx v hx=>H6 hS.s hx) (λi=>?_) λi e p ρ' w' h1 h2 hr hH=>?_
   ·obtain⟨e,p,h1,h2,_⟩:=each i;exact⟨e,p,h1,h2⟩
   ·obtain⟨e',p',h3,_,h4⟩:=each i;rw[h1]at h3;simp only[Option.some.injEq,Prod.mk.injEq]at h3;obtain⟨rfl,rfl⟩:=h3;exact a7P hd hS hN hρ hK (h4 h2) hr hH
  ·split at h
   ·rename_i k x y hq;exact P0 hX.G (o:=o) (K:=K) (by unfold a4F;rw[hd,hq];exact h) hS hN hρ hK
   ·split at h
    ·rename_i e he;obtain⟨h1,h2⟩:=V8 h;exact a8a hX hS.h (λj _=>by simp) (λx v hx=>H6 hS.s hx) (λc v hc=>a2g hc ρ) he h1 (λρ' w' hr hH=>a7P hd hS hN hρ hK h2 hr hH)
    ·exact h.elim
 ·exact h.elim
theorem a8N(hX:B5 P X){N0:Nat}{ρ0:Rho}{ops:List Oper}{o:Oper}{K:St->Prop}(h:b1P X ops o S K)(hS:Sat W0 Fr S ρ a w)(hN:N0<=S.N)(hρ:∀ n,n<N0->ρ n=ρ0 n)
  {next:Act->World->Prop} {Q:Exit->Act->World->Prop} (hK:a1i W0 Fr N0 ρ0 K next):a7f P ops.toArray o a w next Q:=by
 unfold b1P at h;unfold a7f;split at h
 ·rename_i hg;rw[if_pos (by simp[Region.wanted,hg])];exact .inl (Q5 hX h hS hN hρ hK)
 ·rename_i j want hg;split at h
  ·exact h.elim
  ·rename_i d hd
   have hdst:(ops.toArray[j]?).bind (·.dst)=some d:=by
    unfold a4W at hd;rw[U7]at hd;split at hd
    ·rename_i o' ho';simp[ho',hd]
    ·cases hd
   have wantedIs:∀(v:Value),a.tmps[d]? = some v->Region.wanted o (yielded ops.toArray a.tmps)=((match v with | .bool b=>some b|_=>none)==some want):=by
    intro v hv;simp only[Region.wanted,hg,yielded,hdst,Option.bind_some,hv];cases v <;> rfl
   split at h
   ·rename_i hv;have hw:=wantedIs _ (hS.s.val _ _ hv);simp only[SV.den]at hw;split at h
    ·rw[hw];exact .inl (Q5 hX h hS hN hρ hK)
    ·rw[hw];exact G1 h hS hN hρ hK
   ·rename_i hv;have hw:=wantedIs _ (hS.s.val _ _ hv);simp only[SV.den]at hw;split at h
    ·rw[hw];exact G1 h hS hN hρ hK
    ·rw[hw];exact .inl (Q5 hX h hS hN hρ hK)
   ·rename_i hv;have hw:=wantedIs _ (hS.s.val _ _ hv);simp only[SV.den]at hw;rw[hw];exact G1 h hS hN hρ hK
   ·rename_i b hv;have hw:=wantedIs _ (hS.s.val _ _ hv);simp only[SV.den]at hw;rw[hw];cases b
    ·have h2:=h.2 rfl;have hS':Sat W0 Fr (U5 S d .ff) ρ a w:=hS.set hv rfl trivial;split at h2
     ·exact G1 h2 hS' hN hρ hK
     ·exact .inl (Q5 hX h2 hS' hN hρ hK)
    ·have h1:=h.1 rfl;have hS':Sat W0 Fr (U5 S d .tt) ρ a w:=hS.set hv rfl trivial;split at h1
     ·exact .inl (Q5 hX h1 hS' hN hρ hK)
     ·exact G1 h1 hS' hN hρ hK
   ·exact h.elim
theorem a2u(hX:B5 P X){N0:Nat}{ρ0:Rho}{ops:List Oper}{Q:Exit->Act->World->Prop}:∀(l:List Oper)(k:Nat) {S:St} {ρ:Rho} {a:Act} {w:World} {K:St->Prop},(∀ j,l[j]? = ops[k+j]?)->
  a9X X ops l S K->Sat W0 Fr S ρ a w->N0<=S.N->(∀ n,n<N0->ρ n=ρ0 n)->a1i W0 Fr N0 ρ0 K (Q .normal)->wpOps P ops.toArray Q (List.range' k l.length) a w
 | [],k,S,ρ,a,w,K,_,h,hS,hN,hρ,hK=>hK S ρ a w h hS hN hρ
 | o :: r,k,S,ρ,a,w,K,hl,h,hS,hN,hρ,hK=>by
  have ho:ops[k]? = some o:=by simpa using (hl 0).symm
  simp only[List.length_cons,List.range'_succ];unfold wpOps;simp only[List.getElem?_toArray,ho];refine a8N hX h hS hN hρ λS' ρ' a' w' h' hS' hN' hρ'=>?_
  refine a2u hX r (k+1) (λj=>?_) h' hS' hN' hρ' hK;have:=hl (j+1);simp only[List.getElem?_cons_succ]at this;rw[this];congr 1;omega
end
inductive DRX where
 | done (s:AS) (log:List Ent) (p:Option Prop)
 | need (j:Nat) (b:Bool)
 | fail
def b4c(ops:List Oper)(o:Oper)(s:AS):DRX :=
 match o.guard with
 | some (j,_)=>match a4W ops j with
  | some d=>match slot s.1 d with
   | some (.bool b)=>.need j b
   | _=>.fail
  | none=>.fail
 | none=>.fail
def b3W{α:Type}:Option α->Bool
 | none=>true
 | some _=>false
def c1M(nt:Nat):Option Nat->Bool
 | none=>true
 | some d=>Nat.blt d nt
def V4(X:F7)(nt N:Nat)(ops:List Oper)(dec:List (Nat×Bool))(r:Nat)(g:ChF):List Oper->Nat->AS->DRX
 | [],_,s=>.done s [] none
 | o :: l,i,s=>match Nat.beq i r with
  | true=>match c1M nt o.dst&&b3W o.guard with
   | true=>match g (opr s.1) (look s.2) (N+24*i)with
    | some (e,p)=>match V4 X nt N ops dec r g l (i+1) (E4 o e s)with
     | .done s' log _=>.done s' ((i,o,e) :: log) (some p)
     | x=>x
    | none=>.fail
   | false=>.fail
  | false=>match a1D X nt N ops dec i o s with
   | some e=>match V4 X nt N ops dec r g l (i+1) (E4 o e s)with
    | .done s' log p=>.done s' ((i,o,e) :: log) p
    | x=>x
   | none=>b4c ops o s
def a4v(p:Option Prop)(q:Prop):Prop:=match p with
 | none=>q
 | some p=>p->q
def a8q(X:F7)(ops:List Oper)(S:St)(K:St->Prop):Nat->List (Nat×Bool)->Prop
 | fuel,dec=>match V4 X S.nt S.N ops dec ops.length (λ_ _ _=>none) ops 0 (S.sl,S.H)with
  | .done s log _=>b1r log (chk ops log=true/\K {nt:=S.nt,sl:=s.1,H:=s.2,N:=S.N+24*ops.length})
  | .need j b=>match fuel with
   | 0=>False
   | f+1=>(b=true->a8q X ops S K f ((j,true) :: dec))/\(b=false->a8q X ops S K f ((j,false) :: dec))
  | .fail=>False
def c5b(X:F7)(ops:List Oper)(S:St)(K:St->Prop)(r:Nat)(R:ROp):Prop :=
 ∀ i,match V4 X S.nt S.N ops [] r (R.ev i) ops 0 (S.sl,S.H)with
  | .done s log p=>b1r log (chk ops log=true/\a4v p (K {nt:=S.nt,sl:=s.1,H:=s.2,N:=S.N+24*ops.length}))
  | _=>False
def b6Y(ops:List Oper)(r i:Nat):Bool:=((nth (I6 ops []) i).getD 0).testBit r
def a4w(late:Nat->Bool)(p:Option Prop):List Ent->Prop->Prop
 | [],q=>q
 | (i,_,e) :: l,q=>match e.obl with
  | none=>a4w late p l q
  | some o=>(match late i with
   | true=>a4v p o
   | false=>o)/\a4w late p l q
theorem a2y{ops:List Oper}{r:Nat}{p:Option Prop}:∀ {l:List Ent} {q:Prop},a4w (b6Y ops r) p l q->(∀ x∈l,okP x.2.2.obl∨((((I6 ops [])[x.1]?).getD 0).testBit r=true/\a4v p (okP x.2.2.obl)))/\q
 | [],_,h=>⟨λx hx=>absurd hx List.not_mem_nil,h⟩
 | (i,o,e) :: l,q,h=>by
  cases ho:e.obl with
  | none =>
   simp only[a4w,ho]at h;obtain⟨h1,h2⟩:=a2y h;refine⟨λx hx=>?_,h2⟩;rcases List.mem_cons.1 hx with rfl|hx
   ·left
    show okP e.obl;rw[ho];trivial
   ·exact h1 x hx
  | some ob =>
   simp only[a4w,ho]at h;obtain⟨h0,h⟩:=h;obtain⟨h1,h2⟩:=a2y h;refine⟨λx hx=>?_,h2⟩;rcases List.mem_cons.1 hx with rfl|hx
   ·show okP e.obl∨(_/\a4v p (okP e.obl));rw[ho];split at h0
    ·rename_i hl
     right
     refine⟨?_,h0⟩;unfold b6Y at hl;rw[U7]at hl;exact hl
    ·exact .inl h0
   ·exact h1 x hx
def c5S(X:F7):Bool:=match b7d X.al 1000000 with
 | some _=>true
 | none=>false
def c4S(X:F7)(ops:List Oper)(S:St)(K:St->Prop)(r:Nat)(R:ROp):Prop :=
 ∀ i,match V4 X S.nt S.N ops [] r (R.ev i) ops 0 (S.sl,S.H)with
  | .done s log p=>a4w (b6Y ops r) p log (chk ops log=true/\a4v p (K {nt:=S.nt,sl:=s.1,H:=s.2,N:=S.N+24*ops.length}))
  | _=>False
noncomputable def b0l(X:F7):List Oper->Nat->Option (Nat×ROp)
 | [],_=>none
 | o :: l,i=>match b0X X o.op with
  | some R=>some (i,R)
  | none=>b0l X l (i+1)
def b6L(X:F7)(ops:List Oper)(S:St)(K:St->Prop):Prop :=
 match b0l X ops 0 with
 | none=>a8q X ops S K 20 []
 | some (r,R)=>match c5S X with
  | false=>c5b X ops S K r R
  | true=>c4S X ops S K r R
section
variable {P:Program} {W0:World} {Fr:Nat->Prop} {X:F7}
theorem a6p{r:Nat}{R:ROp}:∀ {l:List Oper} {i:Nat},b0l X l i=some (r,R)->i<=r/\∃ o,l[r-i]? = some o/\b0X X o.op=some R
 | [],i,h=>by simp[b0l]at h
 | o :: l,i,h=>by
  unfold b0l at h;split at h
  ·rename_i R' hR;simp only[Option.some.injEq,Prod.mk.injEq]at h;obtain⟨rfl,rfl⟩:=h;exact⟨Nat.le_refl _,o,by simp,hR⟩
  ·obtain⟨h1,o',h2,h3⟩:=a6p h;refine⟨by omega,o',?_,h3⟩;rw[show r-i=(r-(i+1))+1 by omega];simpa using h2
theorem a2B{nt N:Nat}{ops:List Oper}{dec:List (Nat×Bool)}{r:Nat}{g:ChF}:∀(l:List Oper)(k:Nat)(s s':AS)(log:List Ent)(p:Option Prop),(∀ j,l[j]? = ops[k+j]?)->V4 X nt N ops dec r g l k s=.done s' log p->
  (∀ asm,(∀ q,p=some q->q=asm)->a0s X nt N ops dec r g asm log s)/\fin log s=s'/\(∀ x∈log,ops[x.1]? = some x.2.1)/\log.map (·.1)=List.range' k l.length/\(k<=r->r<k+l.length->∃ q,p=some q)
 | [],k,s,s',log,p,_,h=>by
  simp only[V4,DRX.done.injEq]at h;obtain⟨rfl,rfl,rfl⟩:=h;exact⟨λ_ _=>trivial,rfl,by simp,rfl,λh1 h2=>by simp at h2;omega⟩
 | o :: l,k,s,s',log,p,hl,h=>by
  have ho:ops[k]? = some o:=by simpa using (hl 0).symm
  have hl':∀ j,l[j]? = ops[k+1+j]? := λj=>by
   have:=hl (j+1);simp only[List.getElem?_cons_succ]at this;rw[this];congr 1;omega
  simp only[V4]at h;split at h
  ·rename_i hk;have hk:=Nat.eq_of_beq_eq_true hk;split at h
   ·rename_i hok;simp only[Bool.and_eq_true]at hok;split at h
    ·rename_i e q hq;split at h
     ·rename_i s1 log1 p1 h1;simp only[DRX.done.injEq]at h;obtain⟨rfl,rfl,rfl⟩:=h;obtain⟨h2,h3,h4,h5,h6⟩:=a2B l (k+1) _ _ _ _ hl' h1
      have hp1:∀(l:List Oper)(k':Nat)(s:AS)(s1:AS)(log1:List Ent)(p1:Option Prop),r<k'->V4 X nt N ops dec r g l k' s=.done s1 log1 p1->p1=none:=by
       intro l
       induction l with
       | nil=>intro k' s s1 log1 p1 _ h;simp only[V4,DRX.done.injEq]at h;exact h.2.2.symm
       | cons o l ih =>
        intro k' s s1 log1 p1 hlt h;simp only[V4]at h;split at h
        ·rename_i hb;have:=Nat.eq_of_beq_eq_true hb;omega
        ·split at h
         ·split at h
          ·rename_i h9;simp only[DRX.done.injEq]at h;obtain⟨_,_,rfl⟩:=h;exact ih (k'+1) _ _ _ _ (by omega) h9
          ·rename_i hno;exact absurd h (hno _ _ _)
         ·unfold b4c at h;split at h
          ·split at h
           ·split at h <;> cases h
           ·cases h
          ·cases h
      have hpn:=hp1 l (k+1) _ _ _ _ (by omega) h1;subst hpn;refine⟨λasm ha=>⟨.inl ⟨hk,λd hd=>?_,?_,?_⟩,h2 asm (λq hq=>by cases hq)⟩,h3,λx hx=>?_,by simp[h5,List.range'_succ],λ_ _=>⟨q,rfl⟩⟩
      ·have:=hok.1;rw[hd]at this;simpa [c1M]using this
      ·have:=hok.2
       cases hgd:o.guard with
       | none=>rfl
       | some x=>rw[hgd]at this;simp[b3W]at this
      ·rw[<-ha q rfl];exact hq
      ·rcases List.mem_cons.1 hx with rfl|hx
       ·exact ho
       ·exact h4 x hx
     ·rename_i hno;exact absurd h (hno _ _ _)
    ·cases h
   ·cases h
  ·rename_i hk;have hk:k≠r:=λe=>by subst e;simp at hk
   split at h
   ·rename_i e he;split at h
    ·rename_i s1 log1 p1 h1;simp only[DRX.done.injEq]at h;obtain⟨rfl,rfl,rfl⟩:=h;obtain⟨h2,h3,h4,h5,h6⟩:=a2B l (k+1) _ _ _ _ hl' h1;refine⟨λasm ha=>⟨.inr ⟨hk,he⟩,h2 asm ha⟩,h3,λx hx=>?_,by simp[h5,List.range'_succ],λh7 h8=>h6 (by omega) (by simp at h8;omega)⟩;rcases List.mem_cons.1 hx with rfl|hx
     ·exact ho
     ·exact h4 x hx
    ·rename_i hno;exact absurd h (hno _ _ _)
   ·unfold b4c at h;split at h
    ·split at h
     ·split at h <;> cases h
     ·cases h
    ·cases h
theorem a1N(hX:B5 P X)(hm:P.follows .mixedOrders=true){N0:Nat}{ρ0:Rho}{id:Nat}{ops:Array Oper}{S:St}{K:St->Prop}{Q:Exit->Act->World->Prop}{R:ROp}{r:Nat}{dec:List (Nat×Bool)}(hR:∀ o,ops.toList[r]? = some o->b3z P R o.op)
  (h:∀ i,∃ s log p,V4 X S.nt S.N ops.toList dec r (R.ev i) ops.toList 0 (S.sl,S.H)=.done s log p/\(∀ x∈log,okP x.2.2.obl∨((((I6 ops.toList [])[x.1]?).getD 0).testBit r=true/\a4v p (okP x.2.2.obl)))/\(chk ops.toList log=true/\a4v p (K {nt:=S.nt,sl:=s.1,H:=s.2,N:=S.N+24*ops.toList.length})))
  {ρ:Rho} {a:Act} {w:World} (hS:Sat W0 Fr S ρ a w) (hN:N0<=S.N) (hρ:∀ n,n<N0->ρ n=ρ0 n) (hK:a1i W0 Fr N0 ρ0 K (Q .normal)):(Code.region id ops true).wp P Q a w:=by
 obtain⟨i0⟩:=R.ne
 let F:R.ι->AS:=λi=>Classical.choose (h i)
 let L:R.ι->List Ent:=λi=>Classical.choose (Classical.choose_spec (h i))
 let p:R.ι->Option Prop:=λi=>Classical.choose (Classical.choose_spec (Classical.choose_spec (h i)))
 have hc:∀ i,V4 X S.nt S.N ops.toList dec r (R.ev i) ops.toList 0 (S.sl,S.H)=.done (F i) (L i) (p i)/\(∀ x∈L i,okP x.2.2.obl∨((((I6 ops.toList [])[x.1]?).getD 0).testBit r=true/\a4v (p i) (okP x.2.2.obl)))/\(chk ops.toList (L i)=true/\a4v (p i) (K {nt:=S.nt,sl:=(F i).1,H:=(F i).2,N:=S.N+24*ops.toList.length})) :=
  λi=>Classical.choose_spec (Classical.choose_spec (Classical.choose_spec (h i)))
 let asm:R.ι->Prop:=λi=>match p i with
  | some q=>q
  | none=>True
 have hasm:∀ i q,p i=some q->q=asm i:=λi q hq=>by simp only[asm,hq]
 have sp:=λi=>a2B ops.toList 0 _ _ _ _ (λj=>by simp) (hc i).1
 have ob:=λi=>(hc i).2
 have ck:∀ i,a2m ops.toList=true/\a1S ops.toList (I6 ops.toList []) (L i)=true:=λi=>by
  have:=(ob i).2.1;simpa only[chk,Bool.and_eq_true]using this
 refine wp_region_any hm ?_
 have:=b2q (nt:=S.nt) (N:=S.N) (dec:=dec) (W0:=W0) (Fr:=Fr) (ρ0:=ρ0) (Q:=Q) hX (ck i0).1 (R:=R) (r:=r) hR (asm:=asm) (F:=F) hN (λi hi ρ' a' w' hS' hρ'=>?_) ops.toList.length (List.range' 0 ops.toList.length) (λ_=>True) L (Array.replicate ops.size false) (S.sl,S.H) ρ a {w with drawn:=w.drawn+1}
  (by simp) (by simp) (λj hj=>?_) ⟨i0,trivial⟩ (λi _=>(sp i).2.2.2.1) (λi _=>(sp i).2.2.1) ?_ (λi _=>S2 (ck i).2) (λi _ x hx=>((ob i).1 x hx).imp (λh9=>h9) λh9=>⟨h9.1,λha=>by
   have h8:=h9.2;unfold a4v at h8;split at h8
   ·exact h8
   ·rename_i q hq
    exact h8 (by rw[hasm i q hq];exact ha)⟩) ?_ ?_ (λi _=>(sp i).1 (asm i) (hasm i)) (λi _=>by rw[(sp i).2.1];exact R4.refl _) ?_ hρ
 ·simpa using this
 ·refine hK _ ρ' a' w' (show K {nt:=S.nt,sl:=(F i).1,H:=(F i).2,N:=S.N+24*ops.toList.length} from ?_) ⟨?_,?_⟩ ?_ hρ'
  ·have h1:=(ob i).2.2;unfold a4v at h1;split at h1
   ·exact h1
   ·rename_i q hq;exact h1 (by rw[hasm i q hq];exact hi)
  ·exact hS'.h.mono λn hn=>hn.1
  ·exact hS'.s.mono (λn hn=>hn.1) (λ_ _=>rfl)
  ·exact Nat.le_trans hN (Nat.le_add_right _ _)
 ·have hj':j<ops.size:=by simpa using hj
  simp[hj']
 ·exact List.pairwise_lt_range'
 ·intro i o _ hl;rw[Array.getD_eq_getD_getElem?,Array.getElem?_replicate]at hl;split at hl <;> simp at hl
 ·by_cases hr:r<ops.toList.length
  ·exact .inl ⟨by simpa using hr,λ_=>trivial⟩
  ·refine .inr ⟨by simpa using hr,λi _=>?_⟩
   have hnone:∀(l:List Oper)(k:Nat)(s s1:AS)(log:List Ent)(q:Option Prop),k+l.length<=r->V4 X S.nt S.N ops.toList dec r (R.ev i) l k s=.done s1 log q->q=none:=by
    intro l
    induction l with
    | nil=>intro k s s1 log q _ h;simp only[V4,DRX.done.injEq]at h;exact h.2.2.symm
    | cons o l ih =>
     intro k s s1 log q hlt h;simp only[List.length_cons]at hlt;simp only[V4]at h;split at h
     ·rename_i hb;have:=Nat.eq_of_beq_eq_true hb;omega
     ·split at h
      ·split at h
       ·rename_i h9;simp only[DRX.done.injEq]at h;obtain⟨_,_,rfl⟩:=h;exact ih (k+1) _ _ _ _ (by omega) h9
       ·rename_i hno;exact absurd h (hno _ _ _)
      ·unfold b4c at h;split at h
       ·split at h
        ·split at h <;> cases h
        ·cases h
       ·cases h
   have:=hnone ops.toList 0 _ _ _ _ (by omega) (hc i).1;simp only[asm,this]
 ·have hU:∀ n,n<S.N->UI S.N ops.toList.length (List.range' 0 ops.toList.length) n:=λn hn=>⟨Nat.lt_of_lt_of_le hn (Nat.le_add_right _ _),λx _ hx=>absurd (Nat.lt_of_lt_of_le hn (Nat.le_trans (Nat.le_add_right _ _) hx.1)) (Nat.lt_irrefl _)⟩
  exact⟨(hS.h.mono hU).drew,hS.s.mono hU (λ_ _=>rfl)⟩
theorem b0L(hX:B5 P X){N0:Nat}{ρ0:Rho}{id:Nat}{ops:Array Oper}{S:St}{K:St->Prop}{Q:Exit->Act->World->Prop}(h:b6L X ops.toList S K)
  {ρ:Rho} {a:Act} {w:World} (hS:Sat W0 Fr S ρ a w) (hN:N0<=S.N) (hρ:∀ n,n<N0->ρ n=ρ0 n) (hK:a1i W0 Fr N0 ρ0 K (Q .normal)):(Code.region id ops true).wp P Q a w:=by
 unfold b6L at h;split at h
 ·have key:∀(fuel:Nat)(dec:List (Nat×Bool)),a8q X ops.toList S K fuel dec->(Code.region id ops true).wp P Q a w:=by
   intro fuel
   induction fuel with
   | zero =>
    intro dec h;unfold a8q at h;split at h
    ·rename_i s log p hrun
     exact a1N hX hX.G.mix (R:=⟨Unit,⟨()⟩,λ_ _ _ _=>none⟩) (r:=ops.toList.length) (dec:=dec) (λo ho=>by simp at ho) (λi=>⟨s,log,p,hrun,λx hx=>.inl (R7 (F0 h).1 x hx),(F0 h).2.1,by
      unfold a4v;split
      ·exact(F0 h).2.2
      ·exact λ_=>(F0 h).2.2⟩) hS hN hρ hK
    ·exact h.elim
    ·exact h.elim
   | succ fuel ih =>
    intro dec h;unfold a8q at h;split at h
    ·rename_i s log p hrun
     exact a1N hX hX.G.mix (R:=⟨Unit,⟨()⟩,λ_ _ _ _=>none⟩) (r:=ops.toList.length) (dec:=dec) (λo ho=>by simp at ho) (λi=>⟨s,log,p,hrun,λx hx=>.inl (R7 (F0 h).1 x hx),(F0 h).2.1,by
      unfold a4v;split
      ·exact(F0 h).2.2
      ·exact λ_=>(F0 h).2.2⟩) hS hN hρ hK
    ·rename_i j b hrun
     cases b with
     | true=>exact ih _ (h.1 rfl)
     | false=>exact ih _ (h.2 rfl)
    ·exact h.elim
  exact key 20 [] h
 ·rename_i r R hR;obtain⟨_,o,ho,hro⟩:=a6p hR;simp only[Nat.sub_zero]at ho;refine a1N hX hX.G.mix (R:=R) (r:=r) (dec:=[]) (λo' ho'=>?_) (λi=>?_) hS hN hρ hK
  ·rw[ho]at ho';injection ho' with ho'
   subst ho';exact b0S hX hro
  ·split at h
   ·have:=h i;split at this
    ·rename_i s log p hrun;exact⟨s,log,p,hrun,λx hx=>.inl (R7 (F0 this).1 x hx),(F0 this).2⟩
    ·exact this.elim
   ·have:=h i;split at this
    ·rename_i s log p hrun;exact⟨s,log,p,hrun,a2y this⟩
    ·exact this.elim
end
end Go.Sx

namespace Go.Sx
open Go.RowKit
abbrev Sig:=Nm->Option Nm
def Rho.under(ρ:Rho)(σ:Sig):Rho:=λn=>match σ n with
 | some m=>ρ m
 | none=>none
def L3:Option Nm->Nm->Prop
 | some m,n=>match Nat.beq m n with
  | true=>True
  | false=>False
 | none,_=>False
theorem a6g{o:Option Nm}{n:Nm}(h:L3 o n):o=some n:=by
 cases o with
 | none=>exact h.elim
 | some m =>
  simp only[L3]at h;split at h
  ·rename_i hb;rw[Nat.eq_of_beq_eq_true hb]
  ·exact h.elim
mutual
def y7(σ:Sig):SV->SV->Prop
 | .tt, .tt=>True
 | .ff, .ff=>True
 | .tt, .bool b=>b=true
 | .ff, .bool b=>b=false
 | .bool b, .tt=>b=true
 | .bool b, .ff=>b=false
 | .bool a, .bool b=>a=b
 | .int k a, .int k' b=>match kEq k k' with
  | true=>a=b
  | false=>False
 | .flt k a, .flt k' b=>match a4j k k' with
  | true=>a=b
  | false=>False
 | .str a, .str b=>a=b
 | .ptr n o, .ptr n' o'=>L3 (σ n') n/\o=o'
 | .nilp, .nilp=>True
 | .slc n o l c, .slc n' o' l' c'=>L3 (σ n') n/\o=o'/\l=l'/\c=c'
 | .nils, .nils=>True
 | .slcc n l, .slcc n' l'=>L3 (σ n') n/\l=l'
 | .nils, .slcc n' l'=>match σ n' with
  | none=>l'=0
  | some _=>False
 | .agg a, .agg b=>p9 σ a b
 | .tup a, .tup b=>p9 σ a b
 | .ifc t v, .ifc t' v'=>match Nat.beq t t' with
  | true=>y7 σ v v'
  | false=>False
 | .nili, .nili=>True
 | .fn f a c, .fn f' a' c'=>f=f'/\p9 σ a a'/\p9 σ c c'
 | .nilf, .nilf=>True
 | .sla a l c, .sla a' l' c'=>a=a'/\l=l'/\c=c'
 | .pb n b c, .pb n' b' c'=>L3 (σ n') n/\b=b'/\c=c'
 | .dv n v, .dv n' v'=>L3 (σ n') n/\v=v'
 | .slb n b c l k, .slb n' b' c' l' k'=>L3 (σ n') n/\b=b'/\c=c'/\l=l'/\k=k'
 | .nils, .dv _ v=>v=.slice none 0 0
 | .nilp, .dv _ v=>v=.pointer none
 | .nili, .dv _ v=>v=.nilIface
 | .nili, .opt b _ _=>b=false
 | .opt b _ _, .nili=>b=false
 | .ifc t v, .opt b t' v'=>match Nat.beq t t' with
  | true=>b=true/\y7 σ v v'
  | false=>False
 | .opt b t v, .ifc t' v'=>match Nat.beq t t' with
  | true=>b=true/\y7 σ v v'
  | false=>False
 | .opt b t v, .opt b' t' v'=>match Nat.beq t t' with
  | true=>b=b'/\y7 σ v v'
  | false=>False
 | .pb n b c, .dv n' v=>L3 (σ n') n/\v=.pointer (some ⟨b,c,none⟩)
 | .slb n b c l k, .dv n' v=>L3 (σ n') n/\v=.slice (some ⟨b,c,none⟩) l k
 | .dv n v, .pb n' b c=>L3 (σ n') n/\v=.pointer (some ⟨b,c,none⟩)
 | .dv n v, .slb n' b c l k=>L3 (σ n') n/\v=.slice (some ⟨b,c,none⟩) l k
 | _,_=>False
def p9(σ:Sig):List SV->List SV->Prop
 | [],[]=>True
 | x :: xs,y :: ys=>y7 σ x y/\p9 σ xs ys
 | _,_=>False
end
theorem a6E{ρ:Rho}{σ:Sig}{n n':Nm}(h:L3 (σ n') n)(o:Nat):ρ.addr n o=(ρ.under σ).addr n' o:=by
 simp[Rho.addr,Rho.under,a6g h]
theorem b0y{ρ:Rho}{σ:Sig}{n n':Nm}(h:L3 (σ n') n):ρ.addrC n=(ρ.under σ).addrC n':=by
 simp[Rho.addrC,Rho.under,a6g h]
theorem b4B{ρ:Rho}{σ:Sig}{n n':Nm}(h:L3 (σ n') n):ρ.cap n=(ρ.under σ).cap n':=by
 simp[Rho.cap,Rho.under,a6g h]
mutual
theorem I8(ρ:Rho)(σ:Sig):∀(x y:SV),y7 σ x y->x.den ρ=y.den (ρ.under σ)
 | .agg a,y,h=>by cases y <;> simp only[y7]at h;simp[SV.den,W2 ρ σ a _ h]
 | .tup a,y,h=>by cases y <;> simp only[y7]at h;simp[SV.den,W2 ρ σ a _ h]
 | .ifc t v,y,h=>by
  cases y <;> simp only[y7]at h
  ·split at h
   ·rename_i ht;have:=Nat.eq_of_beq_eq_true ht;subst this;simp[SV.den,I8 ρ σ v _ h]
   ·exact h.elim
  ·split at h
   ·rename_i ht;have:=Nat.eq_of_beq_eq_true ht;subst this;obtain⟨rfl,h⟩:=h;simp[SV.den,I8 ρ σ v _ h]
   ·exact h.elim
 | .opt b t v,y,h=>by
  cases y <;> simp only[y7]at h
  ·split at h
   ·rename_i ht;have:=Nat.eq_of_beq_eq_true ht;subst this;obtain⟨rfl,h⟩:=h;simp[SV.den,I8 ρ σ v _ h]
   ·exact h.elim
  ·subst h;rfl
  ·split at h
   ·rename_i ht;have:=Nat.eq_of_beq_eq_true ht;subst this;obtain⟨rfl,h⟩:=h;cases b <;> simp[SV.den,I8 ρ σ v _ h]
   ·exact h.elim
 | .fn f a c,y,h=>by
  cases y <;> simp only[y7]at h
  obtain⟨rfl,h1,h2⟩:=h;simp[SV.den,W2 ρ σ a _ h1,W2 ρ σ c _ h2]
 | .int k a,y,h=>by
  cases y <;> simp only[y7]at h
  split at h
  ·rename_i ht;have:=a0i ht;subst this;simp[SV.den,h]
  ·exact h.elim
 | .flt k a,y,h=>by
  cases y <;> simp only[y7]at h
  split at h
  ·rename_i ht;have:=Q2 ht;subst this;simp[SV.den,h]
  ·exact h.elim
 | .ptr n o,y,h=>by
  cases y <;> simp only[y7]at h
  obtain⟨h1,rfl⟩:=h;simp[SV.den,a6E h1]
 | .slc n o l c,y,h=>by
  cases y <;> simp only[y7]at h
  obtain⟨h1,rfl,rfl,rfl⟩:=h;simp[SV.den,a6E h1]
 | .slcc n l,y,h=>by
  cases y <;> simp only[y7]at h
  obtain⟨h1,rfl⟩:=h;simp[SV.den,b0y h1,b4B h1]
 | .nils,y,h=>by
  cases y <;> simp only[y7]at h
  ·rfl
  ·split at h
   ·rename_i hs;subst h;simp[SV.den,Rho.addrC,Rho.cap,Rho.under,hs]
   ·exact h.elim
  ·subst h;simp[SV.den,Value.oneCell']
 | .sla a l c,y,h=>by
  cases y <;> simp only[y7]at h
  obtain⟨rfl,rfl,rfl⟩:=h;rfl
 | .pb n b c,y,h=>by
  cases y <;> simp only[y7]at h
  ·obtain⟨_,rfl,rfl⟩:=h;rfl
  ·obtain⟨_,rfl⟩:=h;simp[SV.den,Value.oneCell']
 | .dv n v,y,h=>by
  cases y <;> simp only[y7]at h
  ·obtain⟨_,rfl⟩:=h;simp[SV.den,Value.oneCell']
  ·obtain⟨_,rfl⟩:=h;rfl
  ·obtain⟨_,rfl⟩:=h;simp[SV.den,Value.oneCell']
 | .slb n b c l k,y,h=>by
  cases y <;> simp only[y7]at h
  ·obtain⟨_,rfl⟩:=h;simp[SV.den,Value.oneCell']
  ·obtain⟨_,rfl,rfl,rfl,rfl⟩:=h;rfl
 | .tt,y,h | .ff,y,h | .bool _,y,h | .str _,y,h | .nilp,y,h | .nili,y,h | .nilf,y,h=>by
  cases y <;> simp_all[y7,SV.den,Value.oneCell']
theorem W2(ρ:Rho)(σ:Sig):∀(x y:List SV),p9 σ x y->q8 ρ x=q8 (ρ.under σ) y
 | [],y,h=>by cases y <;> simp_all[p9,q8]
 | x :: r,y,h=>by
  cases y with
  | nil=>simp[p9]at h
  | cons u s=>simp only[p9]at h;simp[q8,I8 ρ σ x u h.1,W2 ρ σ r s h.2]
end
mutual
def SV.und(N:Nat):SV->Bool
 | .ptr n _=>Nat.blt n N
 | .slc n _ _ _=>Nat.blt n N
 | .slcc n _=>Nat.blt n N
 | .pb n _ _=>Nat.blt n N
 | .dv n _=>Nat.blt n N
 | .slb n _ _ _ _=>Nat.blt n N
 | .agg cs=>a0t N cs
 | .tup vs=>a0t N vs
 | .ifc _ v=>v.und N
 | .opt _ _ v=>v.und N
 | .fn _ a c=>a0t N a&&a0t N c
 | _=>true
def a0t(N:Nat):List SV->Bool
 | []=>true
 | v :: r=>v.und N&&a0t N r
end
theorem a2Q{n m:Nat}(h:Nat.blt n m=true):n<m:=by
 have:=Nat.le_of_ble_eq_true h;omega
mutual
theorem SV.und_bd{N:Nat}:∀ v:SV,v.und N=true->v.bd (·< N)
 | .ptr n _=>by intro h;exact a2Q h
 | .slc n _ _ _=>by intro h;exact a2Q h
 | .slcc n _=>by intro h;exact a2Q h
 | .pb n _ _ | .dv n _ | .slb n _ _ _ _=>by intro h;exact a2Q h
 | .agg cs=>by simpa [SV.bd,SV.und]using a0d cs
 | .tup cs=>by simpa [SV.bd,SV.und]using a0d cs
 | .ifc _ v=>by simpa [SV.bd,SV.und]using SV.und_bd v
 | .opt _ _ v=>by simpa [SV.bd,SV.und]using SV.und_bd v
 | .fn _ a c=>by simpa [SV.bd,SV.und]using λh1 h2=>⟨a0d a h1,a0d c h2⟩
 | .tt | .ff | .bool _ | .int _ _ | .flt _ _ | .str _ | .nilp | .nils | .nili | .nilf | .sla _ _ _=>by simp[SV.bd]
theorem a0d{N:Nat}:∀ l:List SV,a0t N l=true->bdL (·< N) l
 | []=>by simp[bdL]
 | v :: r=>by simpa [bdL,a0t]using λh1 h2=>⟨SV.und_bd v h1,a0d r h2⟩
end
def b3n(σ:Sig)(i n:Nat):List SV->List SV->Prop
 | [],_=>n=i
 | x :: xs,y :: ys=>y7 σ x y/\b3n σ (i+1) n xs ys
 | _ :: _,[]=>False
theorem a5R{σ:Sig}{n:Nat}:∀ {l l':List SV} {i:Nat},b3n σ i n l l'->n=i+l.length/\∀ j,j<l.length->y7 σ ((H9 l j).getD .nilp) ((H9 l' j).getD .nilp)
 | [],_,i,h=>⟨h,λj hj=>by simp at hj⟩
 | x :: xs,y :: ys,i,h=>by
  obtain⟨h1,h2⟩:=h;obtain⟨h3,h4⟩:=a5R h2;refine⟨by simp;omega,λj hj=>?_⟩
  cases j with
  | zero=>simpa [H9]using h1
  | succ j=>simpa [H9]using h4 j (by simpa using hj)
 | _ :: _,[],_,h=>by simp[b3n]at h
def b2D(σ:Sig)(i n:Nat):List SV->List SV->Prop
 | [],[]=>True
 | x :: xs,y :: ys=>(i<n->y7 σ x y)/\b2D σ (i+1) n xs ys
 | [],_ :: _=>n<=i
 | _ :: _,[]=>n<=i
def c4u(σ:Sig)(f:Nat->SV)(i n:Nat):List SV->Prop
 | []=>n<=i
 | y :: ys=>(i<n->y7 σ (f i) y)/\c4u σ f (i+1) n ys
def c2Y(σ:Sig)(f:Nat->SV)(i n:Nat):List SV->Prop
 | []=>i<=n
 | y :: ys=>y7 σ (f i) y/\c2Y σ f (i+1) n ys
theorem a4B{σ:Sig}{n:Nat}:∀ {l l':List SV} {i:Nat},b2D σ i n l l'->∀ j,i+j<n->y7 σ ((H9 l j).getD .nilp) ((H9 l' j).getD .nilp)
 | [],[],i,_,j,_=>by simp[H9,y7]
 | x :: xs,y :: ys,i,h,j,hj=>by
  obtain⟨h1,h2⟩:=h
  cases j with
  | zero=>simpa [H9]using h1 (by omega)
  | succ j=>simpa [H9]using a4B h2 j (by omega)
 | [],_ :: _,i,h,j,hj=>by have h:n<=i:=h;omega
 | _ :: _,[],i,h,j,hj=>by have h:n<=i:=h;omega
theorem a7X{σ:Sig}{f:Nat->SV}{n:Nat}:∀ {l':List SV} {i:Nat},c4u σ f i n l'->∀ j,i+j<n->y7 σ (f (i+j)) ((H9 l' j).getD .nilp)
 | [],i,h,j,hj=>by have h:n<=i:=h;omega
 | y :: ys,i,h,j,hj=>by
  obtain⟨h1,h2⟩:=h
  cases j with
  | zero=>simpa [H9]using h1 (by omega)
  | succ j =>
   have:=a7X h2 j (by omega);rw[show i+(j+1)=i+1+j by omega];simpa [H9]using this
theorem a7J{σ:Sig}{f:Nat->SV}{n:Nat}:∀ {l':List SV} {i:Nat},c2Y σ f i n l'->i+l'.length<=n/\∀ j,j<l'.length->y7 σ (f (i+j)) ((H9 l' j).getD .nilp)
 | [],i,h=>⟨h,λj hj=>by simp at hj⟩
 | y :: ys,i,h=>by
  obtain⟨h1,h2⟩:=h;obtain⟨h3,h4⟩:=a7J h2;refine⟨by simp;omega,λj hj=>?_⟩
  cases j with
  | zero=>simpa [H9]using h1
  | succ j =>
   have:=h4 j (by simpa using hj);rw[show i+(j+1)=i+1+j by omega];simpa [H9]using this
def L4(σ:Sig)(c c':b9):Prop :=
 match c,c' with
 | .cells l, .cells l'=>p9 σ l l'
 | .ints k n g, .ints k' n' g'=>match kEq k k' with
  | true=>n'<=n/\∀ i,i<n'->g i=g' i
  | false=>False
 | .flts k n g, .flts k' n' g'=>match a4j k k' with
  | true=>n'<=n/\∀ i,i<n'->g i=g' i
  | false=>False
 | .cells l, .ints k n g=>match a1R k l with
  | some xs=>n<=xs.length/\∀ i,i<n->xs.getD i 0=g i
  | none=>False
 | .cells l, .flts k n g=>match a1w k l with
  | some xs=>n<=xs.length/\∀ i,i<n->xs.getD i 0=g i
  | none=>False
 | .cells l, .upto n l'=>b3n σ 0 n l l'
 | .upto n l, .upto n' l'=>n'=n/\b2D σ 0 n' l l'
 | .gen n f, .upto n' l'=>n'<=n/\c4u σ f 0 n' l'
 | .gen n f, .cells l'=>c2Y σ f 0 n l'
 | .raw ts D sz F, .raw ts' D' sz' F'=>ts=ts'/\F=F'/\sz=sz'/\D=D'
 | _, .raw _ _ _ _=>False
 | c,c'=>c'.size<=c.size/\∀ i,i<c'.size->y7 σ (c.at i) (c'.at i)
theorem a7S{σ:Sig}:∀ {x y:List SV},p9 σ x y->x.length=y.length
 | [],[],_=>rfl
 | [],_ :: _,h=>by simp[p9]at h
 | _ :: _,[],h=>by simp[p9]at h
 | x :: r,y :: s,h=>by simp only[p9]at h;simp[a7S h.2]
theorem a8n{σ:Sig}:∀ {x y:List SV},p9 σ x y->∀ {i:Nat},i<y.length->y7 σ ((H9 x i).getD .nilp) ((H9 y i).getD .nilp)
 | [],[],_,i,h=>by simp at h
 | [],_ :: _,h,_,_=>by simp[p9]at h
 | _ :: _,[],h,_,_=>by simp[p9]at h
 | x :: r,y :: s,h,i,hi=>by
  simp only[p9]at h
  cases i with
  | zero=>simpa [H9]using h.1
  | succ i=>simpa [H9]using a8n h.2 (by simpa using hi)
theorem a2z{σ:Sig}{c c':b9}(h:L4 σ c c'):c'.size<=c.size/\∀(ρ:Rho) i,i<c'.size->(c.at i).den ρ=(c'.at i).den (ρ.under σ):=by
 unfold L4 at h;split at h
 ·refine⟨by simp[b9.size,a7S h],λρ i hi=>I8 ρ σ _ _ (a8n h hi)⟩
 ·split at h
  ·rename_i hk;have:=a0i hk;subst this;exact⟨h.1,λρ i hi=>by simp[b9.at,SV.den,h.2 i hi]⟩
  ·exact h.elim
 ·split at h
  ·rename_i hk;have:=Q2 hk;subst this;exact⟨h.1,λρ i hi=>by simp[b9.at,SV.den,h.2 i hi]⟩
  ·exact h.elim
 ·split at h
  ·rename_i xs hx;have:=O1 hx;subst this;refine⟨by simpa [b9.size]using h.1,λρ i hi=>?_⟩;have hi':i<xs.length:=Nat.lt_of_lt_of_le hi h.1;have:=h.2 i hi;simp only[b9.at,E6,List.getElem?_map,List.getElem?_eq_getElem hi',Option.map_some,Option.getD_some,SV.den];rw[List.getD_eq_getElem?_getD,List.getElem?_eq_getElem hi',Option.getD_some]at this;rw[this]
  ·exact h.elim
 ·split at h
  ·rename_i xs hx;have:=O0 hx;subst this;refine⟨by simpa [b9.size]using h.1,λρ i hi=>?_⟩;have hi':i<xs.length:=Nat.lt_of_lt_of_le hi h.1;have:=h.2 i hi;simp only[b9.at,E6,List.getElem?_map,List.getElem?_eq_getElem hi',Option.map_some,Option.getD_some,SV.den];rw[List.getD_eq_getElem?_getD,List.getElem?_eq_getElem hi',Option.getD_some]at this;rw[this]
  ·exact h.elim
 ·rename_i l n l';obtain⟨h1,h2⟩:=a5R h;rw[Nat.zero_add]at h1;refine⟨by simp[b9.size,h1],λρ i hi=>I8 ρ σ _ _ (h2 i (by have hi':i<n:=hi;omega))⟩
 ·rename_i n l n' l';obtain⟨rfl,h⟩:=h;refine⟨Nat.le_refl _,λρ i hi=>?_⟩;have hi':0+i<n':=by have:i<n':=hi;omega
  exact I8 ρ σ _ _ (a4B h i hi')
 ·rename_i n f n' l';refine⟨h.1,λρ i hi=>?_⟩;have hi':0+i<n':=by have:i<n':=hi;omega
  have:=a7X h.2 i hi';rw[Nat.zero_add]at this;exact I8 ρ σ _ _ this
 ·rename_i n f l';obtain⟨h1,h2⟩:=a7J h;refine⟨by rw[Nat.zero_add]at h1;exact h1,λρ i hi=>?_⟩;have:=h2 i hi;rw[Nat.zero_add]at this;exact I8 ρ σ _ _ this
 ·exact⟨Nat.le_refl _,λρ i hi=>absurd hi (Nat.not_lt_zero i)⟩
 ·exact h.elim
 ·exact⟨h.1,λρ i hi=>I8 ρ σ _ _ (h.2 i hi)⟩
theorem a3Q{σ:Sig}{c:b9}{ts D sz F}(h:L4 σ c (.raw ts D sz F)):c=.raw ts D sz F:=by
 cases c <;> simp only[L4]at h
 obtain⟨rfl,rfl,rfl,rfl⟩:=h;rfl
def b9.void:b9->Prop
 | .raw _ D _ _=>∀ b,¬D b
 | c=>c.size=0
theorem b9.void_size{c:b9}(h:c.void):c.size=0:=by
 cases c <;> first|exact h|rfl
def obR(σ:Sig)(o o':Ob):Prop :=
 match o'.rw with
 | false=>L4 σ o.c o'.c
 | true=>match o.rw with
  | false=>False
  | true=>o.elem=o'.elem/\o.es=o'.es/\L4 σ o.c o'.c
theorem P9{σ:Sig}{o o':Ob}(h:obR σ o o'):L4 σ o.c o'.c/\(o'.rw=true->o.rw=true/\o.elem=o'.elem/\o.es=o'.es):=by
 unfold obR at h;split at h
 ·rename_i hr;exact⟨h,λh'=>by rw[hr]at h';cases h'⟩
 ·split at h
  ·exact h.elim
  ·rename_i hr;exact⟨h.2.2,λ_=>⟨hr,h.1,h.2.1⟩⟩
theorem Y9.other{w:World}{ρ:Rho}{σ:Sig}{o o':Ob}(h:obR σ o o'){p:Option (Nat×Nat×Nat)}(hs:Y9 w ρ o p):Y9 w (ρ.under σ) o' p:=by
 obtain⟨hc,hr⟩:=P9 h;obtain⟨h1,h2⟩:=a2z hc
 cases p with
 | none =>
  have:o.c.size=0:=hs;show o'.c.size=0;omega
 | some q =>
  obtain⟨b,off,cp⟩:=q;refine⟨λi hi=>?_,λh'=>?_,λh'=>hs.2.2 (by omega)⟩
  ·rw[<-h2 ρ i hi];exact hs.1 i (by omega)
  ·obtain⟨h3,h4,h5⟩:=hr h';obtain⟨h6,arr,h7,h8,h9,h10⟩:=hs.2.1 h3;exact⟨h6,arr,by rw[<-h4];exact h7,by omega,λhh=>by rw[<-h5];exact h9 (by rw[h5];exact hh),h10⟩
def b9.und(N:Nat):b9->Prop
 | .cells l=>a0t N l=true
 | .ints _ _ _=>True
 | .flts _ _ _=>True
 | .gen n f=>∀ i,i<n->(f i).und N=true
 | .upto _ l=>a0t N l=true
 | .raw _ _ _ _=>True
theorem b9.und_bd{N:Nat}{c:b9}(h:c.und N):c.bd (·< N):=by
 intro i hi
 cases c with
 | cells l =>
  have:=a0d l h;have hi':i<l.length:=hi;simp only[b9.at,E6,List.getElem?_eq_getElem hi',Option.getD_some];exact(G6 _ l).1 this _ (List.getElem_mem hi')
 | ints k n g=>trivial
 | flts k n g=>trivial
 | gen n f=>exact SV.und_bd _ (h i hi)
 | upto n l =>
  have:=a0d l h;simp only[b9.at,E6]
  cases hg:l[i]? with
  | none=>trivial
  | some v=>exact(G6 _ l).1 this _ (List.mem_of_getElem? hg)
 | raw ts D sz F=>exact absurd hi (Nat.not_lt_zero i)
abbrev Q8:=List (Nm×Option Nm)
def a1L:Q8->Sig
 | [],n=>some n
 | (m,x) :: r,n=>match Nat.beq m n with
  | true=>x
  | false=>a1L r n
def a3Z(σ:Sig)(sl:Slots)(N:Nat):Slots->Prop
 | []=>True
 | (t,v') :: r=>(match slot sl t with
  | some v=>v'.und N=true/\y7 σ v v'
  | none=>False)/\a3Z σ sl N r
def a1j(σ:Sig)(H:A2)(N:Nat):A2->Prop
 | []=>True
 | (n,o') :: r=>(Nat.blt n N=true/\o'.c.und N/\match σ n with
  | some m=>match look H m with
   | some o=>obR σ o o'
   | none=>False
  | none=>o'.c.void)/\a1j σ H N r
def a8P(n:Nm):List Nm->Bool
 | []=>false
 | m :: r=>Nat.beq m n||a8P n r
def R0:List Nm->Bool
 | []=>true
 | n :: r => !a8P n r&&R0 r
def Ob.gone:Ob->Bool
 | ⟨false,_, .cells [],_⟩=>true
 | _=>false
theorem Ob.gone_spec{o:Ob}(h:o.gone=true):o.rw=false/\o.c.size=0/\∀ ts D sz F,o.c≠ .raw ts D sz F:=by
 unfold Ob.gone at h;split at h
 ·exact⟨rfl,rfl,λ_ _ _ _ h=>by cases h⟩
 ·cases h
theorem Ob.gone_not{o:Ob}(h:o.rw=true∨0<o.c.size):o.gone=false:=by
 cases hg:o.gone
 ·rfl
 ·obtain⟨h1,h2,_⟩:=Ob.gone_spec hg;rcases h with h|h
  ·rw[h1]at h;cases h
  ·omega
def L5(σ:Sig):A2->List Nm
 | []=>[]
 | (n,o) :: r=>match o.gone with
  | true=>L5 σ r
  | false=>match σ n with
   | some m=>m :: L5 σ r
   | none=>L5 σ r
def b7B(N0:Nat):Q8->Bool
 | []=>true
 | (n,_) :: r=>Nat.ble N0 n&&b7B N0 r
theorem a7H{N0:Nat}:∀ {s:Q8},b7B N0 s=true->∀ n,n<N0->a1L s n=some n
 | [],_,n,_=>rfl
 | (m,x) :: r,h,n,hn=>by
  simp only[b7B,Bool.and_eq_true]at h;have hm:=Nat.le_of_ble_eq_true h.1;simp only[a1L];cases hb:Nat.beq m n
  ·exact a7H h.2 n hn
  ·have:=Nat.eq_of_beq_eq_true hb;omega
theorem a9U{σ:Sig}{n m:Nm}:∀ {H:A2} {o:Ob},look H n=some o->o.gone=false->σ n=some m->a8P m (L5 σ H)=true
 | [],o,h,_,_=>by simp[look]at h
 | (k,u) :: r,o,h,hg,hs=>by
  rw[g9]at h;simp only[L5];split at h
  ·rename_i e;subst e;cases h;simp[hs,hg,a8P]
  ·have:=a9U h hg hs;split
   ·exact this
   ·split
    ·simp[a8P,this]
    ·exact this
theorem a2Z{σ:Sig}:∀ {H:A2},R0 (L5 σ H)=true->∀ {n m:Nm} {o o':Ob} {x:Nm},look H n=some o->look H m=some o'->o.gone=false->o'.gone=false->n≠m->σ n=some x->σ m=some x->False
 | [],_,n,m,o,o',x,h,_,_,_,_,_,_=>by simp[look]at h
 | (k,u) :: r,hd,n,m,o,o',x,hn,hm,hg,hg',hne,h1,h2=>by
  rw[g9]at hn hm;simp only[L5]at hd;split at hn
  ·rename_i e;subst e;cases hn;rw[if_neg hne]at hm;rw[hg,h1]at hd;simp only[R0,Bool.and_eq_true,Bool.not_eq_true']at hd;rw[a9U hm hg' h2]at hd;exact absurd hd.1 (by decide)
  ·split at hm
   ·rename_i e;subst e;cases hm;rw[hg',h2]at hd;simp only[R0,Bool.and_eq_true,Bool.not_eq_true']at hd;rw[a9U hn hg h1]at hd;exact absurd hd.1 (by decide)
   ·refine a2Z ?_ hn hm hg hg' hne h1 h2;split at hd
    ·exact hd
    ·split at hd
     ·simp only[R0,Bool.and_eq_true]at hd;exact hd.2
     ·exact hd
theorem a1a{σ:Sig}{sl:Slots}{N:Nat}:∀ {sl':Slots},a3Z σ sl N sl'->∀ t v',slot sl' t=some v'->v'.und N=true/\∃ v,slot sl t=some v/\y7 σ v v'
 | [],_,t,v',h=>by simp[slot]at h
 | (s,u) :: r,h,t,v',hv=>by
  simp only[a3Z]at h;rw[F1]at hv;split at hv
  ·rename_i e;subst e;simp only[Option.some.injEq]at hv;subst hv;have h1:=h.1;split at h1
   ·rename_i v hsv;exact⟨h1.1,v,hsv,h1.2⟩
   ·exact h1.elim
  ·exact a1a h.2 t v' hv
theorem F5{σ:Sig}{H:A2}{N:Nat}:∀ {H':A2},a1j σ H N H'->∀ n o',look H' n=some o'->n<N/\o'.c.bd (·< N)/\
  ((∃ m o,σ n=some m/\look H m=some o/\obR σ o o')∨(σ n=none/\o'.c.void))
 | [],_,n,o',h=>by simp[look]at h
 | (s,u) :: r,h,n,o',ho=>by
  simp only[a1j]at h;rw[g9]at ho;split at ho
  ·rename_i e;subst e;simp only[Option.some.injEq]at ho;subst ho;obtain⟨⟨h1,h2,h3⟩,_⟩:=h;refine⟨a2Q h1,b9.und_bd h2,?_⟩;split at h3
   ·rename_i m hm;split at h3
    ·rename_i o hmo;exact .inl ⟨m,o,hm,hmo,h3⟩
    ·exact h3.elim
   ·rename_i hm;exact .inr ⟨hm,h3⟩
  ·exact F5 h.2 n o' ho
theorem HSat.other{W0:World}{Fr:Nat->Prop}{U:Nm->Prop}{H H':A2}{ρ:Rho}{w:World}{σ:Sig}{N:Nat}(h:HSat W0 Fr U H ρ w)(hh:a1j σ H N H')(hd:R0 (L5 σ H')=true) :
  HSat W0 Fr (·< N) H' (ρ.under σ) w where
 os:=h.os
 tape:=h.tape
 output:=h.output
 size:=h.size
 frlt:=h.frlt
 frame:=h.frame
 used:=λn o' hn=>(F5 hh n o' hn).1
 bd:=λn o' hn=>(F5 hh n o' hn).2.1
 obj:=λn o' hn=>by
  rcases (F5 hh n o' hn).2.2 with⟨m,o,h1,h2,h3⟩|⟨h1,h2⟩
  ·have:=Y9.other h3 (h.obj m o h2);simpa [Rho.under,h1]using this
  ·simp only[Rho.under,h1];exact b9.void_size h2
 inj:=λn m o o' p q hn hm hne hr hr2 hp hq=>by
  rcases (F5 hh n o hn).2.2 with⟨n1,o1,h1,h2,h3⟩|⟨h1,h2⟩
  ·rcases (F5 hh m o' hm).2.2 with⟨n2,o2,h4,h5,h6⟩|⟨h4,h5⟩
   ·simp only[Rho.under,h1,h4]at hp hq;have hne2:n1≠n2:=λe=>a2Z hd hn hm (Ob.gone_not (.inl hr)) (Ob.gone_not hr2) hne h1 (e▸h4)
    obtain⟨hc,hr'⟩:=P9 h3;obtain⟨hc2,hr2'⟩:=P9 h6;refine h.inj n1 n2 o1 o2 p q h2 h5 hne2 (hr' hr).1 ?_ hp hq;rcases hr2 with hr2|hr2
    ·exact .inl (hr2' hr2).1
    ·exact .inr (Nat.lt_of_lt_of_le hr2 (a2z hc2).1)
   ·simp only[Rho.under,h4]at hq;cases hq
  ·simp only[Rho.under,h1]at hp;cases hp
 free:=λn o' p hn hr hp=>by
  rcases (F5 hh n o' hn).2.2 with⟨m,o,h1,h2,h3⟩|⟨h1,h2⟩
  ·simp only[Rho.under,h1]at hp;exact h.free m o p h2 ((P9 h3).2 hr).1 hp
  ·simp only[Rho.under,h1]at hp;cases hp
 rawd:=λn o' ts D sz F hn hr hc=>by
  rcases (F5 hh n o' hn).2.2 with⟨m,o,h1,h2,h3⟩|⟨h1,h2⟩
  ·obtain⟨h4,h5⟩:=P9 h3;rw[hc]at h4;have k:=h.rawd m o ts D sz F h2 (h5 hr).1 (a3Q h4);refine⟨k.sat,k.free,λm' o2 q hm' hne hr2 hq=>?_,λm' o2 ts' D' sz' F' hm' hne hr2 hc2=>?_⟩
   ·rcases (F5 hh m' o2 hm').2.2 with⟨m1,o1,h6,h7,h8⟩|⟨h6,h7⟩
    ·simp only[Rho.under,h6]at hq;obtain⟨h9,h10⟩:=P9 h8;refine k.sep m1 o1 q h7 (λe=>a2Z hd hm' hn (Ob.gone_not hr2) (Ob.gone_not (.inl hr)) hne h6 (e▸h1)) ?_ hq;rcases hr2 with hr2|hr2
     ·exact .inl (h10 hr2).1
     ·exact .inr (Nat.lt_of_lt_of_le hr2 (a2z h9).1)
    ·simp only[Rho.under,h6]at hq;cases hq
   ·rcases (F5 hh m' o2 hm').2.2 with⟨m1,o1,h6,h7,h8⟩|⟨h6,h7⟩
    ·obtain⟨h9,h10⟩:=P9 h8;rw[hc2]at h9;exact k.sepr m1 o1 ts' D' sz' F' h7 (λe=>a2Z hd hm' hn (Ob.gone_not (.inl hr2)) (Ob.gone_not (.inl hr)) hne h6 (e▸h1)) (h10 hr2).1 (a3Q h9)
    ·rw[hc2]at h7;exact λb _=>h7 b
  ·rw[hc]at h2;exact⟨λb hb=>absurd hb (h2 b),λb hb=>absurd hb (h2 b),λ_ _ _ _ _ _ _=>h2 _,λ_ _ _ _ _ _ _ _ _ _ b hb=>absurd hb (h2 b)⟩
structure b6j (N0:Nat) (s:Q8) (S S':St):Prop where
 N:Nat.ble N0 S'.N=true
 fx:b7B N0 s=true
 nt:S'.nt=S.nt
 dist:R0 (L5 (a1L s) S'.H)=true
 sl:a3Z (a1L s) S.sl S'.N S'.sl
 hp:a1j (a1L s) S.H S'.N S'.H
theorem B6.by_names{N0:Nat}{S S':St}(s:Q8)(h:b6j N0 s S S'):B6 N0 S S':=by
 refine⟨Nat.le_of_ble_eq_true h.N,λW0 Fr ρ a w hS=>⟨ρ.under (a1L s),⟨hS.h.other h.hp h.dist,?_⟩,λn hn=>by simp[Rho.under,a7H h.fx n hn]⟩⟩
 exact {
  nd:=hS.s.nd
  size:=by rw[hS.s.size,h.nt]
  bd:=λt v hv=>SV.und_bd _ (a1a h.sl t v hv).1
  val:=λt v hv=>by
   obtain⟨_,u,hu,he⟩:=a1a h.sl t v hv;rw[<-I8 ρ (a1L s) u v he]
   exact hS.s.val t u hu}
end Go.Sx

namespace Go.Sx
open Go.RowKit
mutual
def SV.ren(θ:Nm->Nm):SV->SV
 | .ptr n o=>.ptr (θ n) o
 | .slc n o l c=>.slc (θ n) o l c
 | .slcc n l=>.slcc (θ n) l
 | .agg cs=>.agg (Z1 θ cs)
 | .tup vs=>.tup (Z1 θ vs)
 | .ifc t v=>.ifc t (v.ren θ)
 | .opt b t v=>.opt b t (v.ren θ)
 | .fn f a c=>.fn f (Z1 θ a) (Z1 θ c)
 | .tt=>.tt
 | .ff=>.ff
 | .bool b=>.bool b
 | .int k n=>.int k n
 | .flt k n=>.flt k n
 | .str s=>.str s
 | .nilp=>.nilp
 | .nils=>.nils
 | .nili=>.nili
 | .nilf=>.nilf
 | .sla a l c=>.sla a l c
 | .pb n b c=>.pb (θ n) b c
 | .dv n v=>.dv (θ n) v
 | .slb n b c l k=>.slb (θ n) b c l k
def Z1(θ:Nm->Nm):List SV->List SV
 | []=>[]
 | v :: r=>v.ren θ :: Z1 θ r
end
mutual
theorem SV.ren_den(ρ:Rho)(θ:Nm->Nm):∀ v:SV,(v.ren θ).den ρ=v.den λi=>ρ (θ i)
 | .ptr n o=>by simp[SV.ren,SV.den,Rho.addr]
 | .slc n o l c=>by simp[SV.ren,SV.den,Rho.addr]
 | .slcc n l=>by simp[SV.ren,SV.den,Rho.addrC,Rho.cap]
 | .agg cs=>by simp[SV.ren,SV.den,a1o ρ θ cs]
 | .tup cs=>by simp[SV.ren,SV.den,a1o ρ θ cs]
 | .ifc t v=>by simp[SV.ren,SV.den,SV.ren_den ρ θ v]
 | .opt b t v=>by cases b <;> simp[SV.ren,SV.den,SV.ren_den ρ θ v]
 | .fn f a c=>by simp[SV.ren,SV.den,a1o ρ θ a,a1o ρ θ c]
 | .tt | .ff | .bool _ | .int _ _ | .flt _ _ | .str _ | .nilp | .nils | .nili | .nilf | .sla _ _ _ | .pb _ _ _ | .dv _ _ | .slb _ _ _ _ _=>by simp[SV.ren,SV.den]
theorem a1o(ρ:Rho)(θ:Nm->Nm):∀ l:List SV,q8 ρ (Z1 θ l)=q8 (λi=>ρ (θ i)) l
 | []=>by simp[Z1,q8]
 | v :: r=>by simp[Z1,q8,SV.ren_den ρ θ v,a1o ρ θ r]
end
mutual
theorem SV.ren_bd{U V:Nm->Prop}{θ:Nm->Nm}(h:∀ n,U n->V (θ n)):∀ v:SV,v.bd U->(v.ren θ).bd V
 | .ptr n o=>by simpa [SV.ren,SV.bd]using h n
 | .slc n o l c=>by simpa [SV.ren,SV.bd]using h n
 | .slcc n l=>by simpa [SV.ren,SV.bd]using h n
 | .pb n _ _ | .dv n _ | .slb n _ _ _ _=>by simpa [SV.ren,SV.bd]using h n
 | .agg cs=>by simpa [SV.ren,SV.bd]using a3w h cs
 | .tup cs=>by simpa [SV.ren,SV.bd]using a3w h cs
 | .ifc t v=>by simpa [SV.ren,SV.bd]using SV.ren_bd h v
 | .opt b t v=>by simpa [SV.ren,SV.bd]using SV.ren_bd h v
 | .fn f a c=>by simpa [SV.ren,SV.bd]using λh1 h2=>⟨a3w h a h1,a3w h c h2⟩
 | .tt | .ff | .bool _ | .int _ _ | .flt _ _ | .str _ | .nilp | .nils | .nili | .nilf | .sla _ _ _=>by simp[SV.ren,SV.bd]
theorem a3w{U V:Nm->Prop}{θ:Nm->Nm}(h:∀ n,U n->V (θ n)):∀ l:List SV,bdL U l->bdL V (Z1 θ l)
 | []=>by simp[Z1,bdL]
 | v :: r=>by simpa [Z1,bdL]using λh1 h2=>⟨SV.ren_bd h v h1,a3w h r h2⟩
end
theorem b0Y(θ:Nm->Nm):∀ l:List SV,(Z1 θ l).length=l.length
 | []=>rfl
 | v :: r=>by simp[Z1,b0Y θ r]
theorem b0j(θ:Nm->Nm):∀(l:List SV)(i:Nat),i<l.length->(H9 (Z1 θ l) i).getD .nilp=((H9 l i).getD .nilp).ren θ
 | [],i,h=>by simp at h
 | v :: r,0,_=>by simp[Z1,H9]
 | v :: r,i+1,h=>by simpa [Z1,H9]using b0j θ r i (by simpa using h)
theorem a7R(θ:Nm->Nm):∀(l:List SV)(i:Nat),(H9 (Z1 θ l) i).getD .nilp=((H9 l i).getD .nilp).ren θ
 | [],i=>by simp[Z1,H9,SV.ren]
 | v :: r,0=>by simp[Z1,H9]
 | v :: r,i+1=>by simpa [Z1,H9]using a7R θ r i
def b9.ren(θ:Nm->Nm):b9->b9
 | .cells l=>.cells (Z1 θ l)
 | .ints k n g=>.ints k n g
 | .flts k n g=>.flts k n g
 | .gen n f=>.gen n λi=>(f i).ren θ
 | .upto n l=>.upto n (Z1 θ l)
 | .raw ts D sz F=>.raw ts D sz F
theorem b9.ren_raw{θ:Nm->Nm}{c:b9}{ts D sz F}(h:c.ren θ=.raw ts D sz F):c=.raw ts D sz F:=by
 cases c <;> simp_all[b9.ren]
theorem b9.ren_spec(θ:Nm->Nm)(c:b9):(c.ren θ).size=c.size/\∀ i,i<c.size->(c.ren θ).at i=(c.at i).ren θ:=by
 cases c with
 | cells l=>exact⟨by simp[b9.ren,b9.size,b0Y],λi hi=>by simp only[b9.ren,b9.at];exact b0j θ l i hi⟩
 | ints k n g=>exact⟨rfl,λi hi=>by simp[b9.ren,b9.at,SV.ren]⟩
 | flts k n g=>exact⟨rfl,λi hi=>by simp[b9.ren,b9.at,SV.ren]⟩
 | gen n f=>exact⟨rfl,λi hi=>rfl⟩
 | upto n l=>exact⟨rfl,λi _=>a7R θ l i⟩
 | raw ts D sz F=>exact⟨rfl,λi hi=>absurd hi (Nat.not_lt_zero i)⟩
def Ob.ren(θ:Nm->Nm)(o:Ob):Ob:=⟨o.rw,o.elem,o.c.ren θ,o.es⟩
def V9(θ:Nm->Nm):A2->A2
 | []=>[]
 | (n,o) :: r=>(θ n,o.ren θ) :: V9 θ r
theorem a6y{θ:Nm->Nm}{n:Nm}{o:Ob}:∀ {h:A2},look (V9 θ h) n=some o->∃ i o0,look h i=some o0/\θ i=n/\o=o0.ren θ
 | [],h=>by simp[V9,look]at h
 | (m,u) :: r,h=>by
  simp only[V9,g9]at h;split at h
  ·rename_i e;simp only[Option.some.injEq]at h;exact⟨m,u,by simp[g9],e,h.symm⟩
  ·rename_i e;obtain⟨i,o0,h1,h2,h3⟩:=a6y h;exact⟨i,o0,by rw[g9,if_neg (λe'=>e (by rw[e',h2]))];exact h1,h2,h3⟩
theorem a2p{θ:Nm->Nm}{i:Nm}{o:Ob}:∀ {h:A2},look h i=some o->∃ o',look (V9 θ h) (θ i)=some o'
 | [],h=>by simp[look]at h
 | (m,u) :: r,h=>by
  rw[g9]at h;simp only[V9,g9];split
  ·exact⟨_,rfl⟩
  ·rename_i e;split at h
   ·rename_i e';subst e';exact absurd rfl e
   ·exact a2p h
structure HC where
 args:List SV
 heap:A2
 val:SV
 wr:A2
 news:A2
 obl:Option Prop
inductive RdM where
 | fail
 | ret (hc:HC)
 | read (n:Nm) (k:Ob->RdM)
def RdM.run(rd:Nm->Option Ob):RdM->List Nm->Option (List Nm×HC)
 | .fail,_=>none
 | .ret hc,sg=>some (sg,hc)
 | .read n k,sg=>match rd n with
  | some o=>(k o).run rd (sg++[n])
  | none=>none
def RdM.All(Q:List (Nm×Ob)->HC->Prop):RdM->List (Nm×Ob)->Prop
 | .fail,_=>True
 | .ret hc,acc=>Q acc hc
 | .read n k,acc=>∀ o,(k o).All Q (acc++[(n,o)])
def y6:List (Nm×Ob)->List Nm
 | []=>[]
 | (n,_) :: r=>n :: y6 r
theorem a1A:∀ a b,y6 (a++b)=y6 a++y6 b
 | [],b=>rfl
 | (n,o) :: r,b=>by simp[y6,a1A r b]
theorem RdM.all_run{rd:Nm->Option Ob}{Q:List (Nm×Ob)->HC->Prop}:∀ {m:RdM} {acc:List (Nm×Ob)} {sg:List Nm} {hc:HC},m.All Q acc->(∀ p∈acc,rd p.1=some p.2)->m.run rd (y6 acc)=some (sg,hc)->
  ∃ acc',y6 acc'=sg/\(∀ p∈acc',rd p.1=some p.2)/\Q acc' hc
 | .fail,_,_,_,_,_,h=>by simp[RdM.run]at h
 | .ret hc',acc,sg,hc,hq,hacc,h=>by
  simp only[RdM.run,Option.some.injEq,Prod.mk.injEq]at h;obtain⟨rfl,rfl⟩:=h;exact⟨acc,rfl,hacc,hq⟩
 | .read n k,acc,sg,hc,hq,hacc,h=>by
  simp only[RdM.run]at h;split at h
  ·rename_i o ho;refine RdM.all_run (hq o) (acc:=acc++[(n,o)]) (λp hp=>?_) (by rw[a1A];exact h);rcases List.mem_append.1 hp with hp|hp
   ·exact hacc p hp
   ·simp only[List.mem_singleton]at hp;subst hp;exact ho
  ·cases h
theorem RdM.run_sg{rd:Nm->Option Ob}:∀ {m:RdM} {sg sg':List Nm} {hc:HC},m.run rd sg=some (sg',hc)->∀ n∈sg,n∈sg'
 | .fail,_,_,_,h=>by simp[RdM.run]at h
 | .ret hc',sg,sg',hc,h=>by
  simp only[RdM.run,Option.some.injEq,Prod.mk.injEq]at h;obtain⟨rfl,rfl⟩:=h;exact λn hn=>hn
 | .read n k,sg,sg',hc,h=>by
  simp only[RdM.run]at h;split at h
  ·exact λm hm=>RdM.run_sg h m (List.mem_append_left _ hm)
  ·cases h
theorem RdM.run_loc{rd rd':Nm->Option Ob}:∀ {m:RdM} {sg sg':List Nm} {hc:HC},m.run rd sg=some (sg',hc)->(∀ n∈sg',rd' n=rd n)->m.run rd' sg=some (sg',hc)
 | .fail,_,_,_,h,_=>by simp[RdM.run]at h
 | .ret hc',sg,sg',hc,h,_=>h
 | .read n k,sg,sg',hc,h,hr=>by
  simp only[RdM.run]at h ⊢;split at h
  ·rename_i o ho;have hn:n∈sg':=RdM.run_sg h n (by simp);rw[hr n hn,ho];exact RdM.run_loc h hr
  ·cases h
def I9(sg:List Nm)(nm:Nm):Nm->Nm:=λi=>match nth sg i with
 | some n=>n
 | none=>nm+(i-sg.length)
def y4(C:List SV->RdM):Con:=λargs rd nm=>match (C args).run rd []with
 | some (sg,hc)=>match R0 sg with
  | true=>some ⟨some (hc.val.ren (I9 sg nm)),V9 (I9 sg nm) hc.wr,V9 (I9 sg nm) hc.news,sg,hc.obl⟩
  | false=>none
 | none=>none
def a3B(σ:Sig)(N:Nat):Nat->List (Nm×Ob)->A2->Prop
 | _,[],[]=>True
 | i,(_,o) :: r,(j,o') :: r'=>Nat.beq i j=true/\o'.c.und N/\obR σ o o'/\a3B σ N (i+1) r r'
 | _,_,_=>False
def a1B(k:Nat)(H0:A2):A2->Bool
 | []=>true
 | (i,_) :: r=>(Nat.blt i k&&match look H0 i with
  | some o=>o.rw
  | none=>false)&&a1B k H0 r
def a1u(k:Nat):A2->Bool
 | []=>true
 | (i,o) :: r=>(Nat.ble k i&&Nat.blt i (k+24)&&o.rw)&&a1u k r
def b0P(wr:A2):A2->Bool
 | []=>true
 | (i,o) :: r=>(match o.rw with
  | true=>match look wr i with
   | some _=>true
   | none=>false
  | false=>true)&&b0P wr r
def y5(sg:List Nm):Sig:=λi=>nth sg i
def K7(k:Nat)(tau:List (Option Nm)):Sig:=λi=>match Nat.blt i k with
 | true=>some i
 | false=>match nth tau (i-k)with
  | some x=>x
  | none=>none
structure a0y (k:Nat) (hc:HC) (S:St) (v:SV) (tau:List (Option Nm)):Prop where
 val:y7 (K7 k tau) v hc.val
 vu:hc.val.und (k+24)=true
 hp:a1j (K7 k tau) S.H (k+24) (hc.wr++hc.news)
 dist:R0 (L5 (K7 k tau) (hc.wr++hc.news))=true
structure c0e (P:Program) (G:Ctx) (c:Code) (fn:Func) (args:List SV) (acc:List (Nm×Ob)) (hc:HC):Prop where
 args:p9 (y5 (y6 acc)) args hc.args
 argsU:a0t acc.length hc.args=true
 argsN:Nat.ble hc.args.length fn.ntmps=true
 pre:a3B (y5 (y6 acc)) acc.length 0 acc hc.heap
 wr:a1B acc.length hc.heap hc.wr=true
 news:a1u acc.length hc.news=true
 rw:b0P hc.wr hc.heap=true
 run:Wp P acc.length c (z6 fn.ntmps hc.args hc.heap acc.length) (z8 G.E.T fn.results.toList λS v=>∃ tau,a0y acc.length hc S v tau)
structure c4a (G:Ctx) (c:Code) (fn:Func) (args:List SV) (acc:List (Nm×Ob)) (hc:HC):Prop where
 args:p9 (y5 (y6 acc)) args hc.args
 argsU:a0t acc.length hc.args=true
 argsN:Nat.ble hc.args.length fn.ntmps=true
 pre:a3B (y5 (y6 acc)) acc.length 0 acc hc.heap
 wr:a1B acc.length hc.heap hc.wr=true
 news:a1u acc.length hc.news=true
 rw:b0P hc.wr hc.heap=true
 run:a0A G acc.length c (z6 fn.ntmps hc.args hc.heap acc.length) (z8 G.E.T fn.results.toList λS v=>∃ tau,a0y acc.length hc S v tau)
theorem b0r:∀ a,(y6 a).length=a.length
 | []=>rfl
 | (n,o) :: r=>by simp[y6,b0r r]
theorem a2c:∀(a:List (Nm×Ob))(i:Nat),nth (y6 a) i=(a[i]?).map (·.1)
 | [],i=>by simp[y6,nth]
 | (n,o) :: r,0=>by simp[y6,nth]
 | (n,o) :: r,i+1=>by simp[y6,nth,a2c r i]
theorem a5I{σ:Sig}{N:Nat}{H:A2}:∀ {i:Nat} {acc:List (Nm×Ob)} {h:A2},a3B σ N i acc h->(∀ p∈acc,look H p.1=some p.2)->(∀ j,j<acc.length->σ (i+j)=(acc[j]?).map (·.1))->i+acc.length<=N->a1j σ H N h
 | _,[],[],_,_,_,_=>trivial
 | _,[],_ :: _,h,_,_,_=>by simp[a3B]at h
 | _,_ :: _,[],h,_,_,_=>by simp[a3B]at h
 | i,(n,o) :: r,(j,o') :: r',h,hl,hs,hN=>by
  obtain⟨h1,h2,h3,h4⟩:=h;have hij:=Nat.eq_of_beq_eq_true h1;subst hij;have h0:=hs 0 (by simp);simp only[Nat.add_zero,List.getElem?_cons_zero,Option.map_some]at h0;simp only[a1j]
  refine⟨⟨?_,h2,?_⟩,a5I h4 (λp hp=>hl p (by simp[hp])) (λj hj=>by
   have:=hs (j+1) (by simpa using hj)
   simpa [Nat.add_assoc,Nat.add_comm 1 j]using this) (by simp at hN;omega)⟩
  ·refine Nat.ble_eq_true_of_le ?_;simp at hN;omega
  ·rw[h0];have:=hl (n,o) (by simp);simp only at this;simp only[this];exact h3
theorem a6d{σ:Sig}{N:Nat}{x:Nm}:∀ {i:Nat} {acc:List (Nm×Ob)} {h:A2},a3B σ N i acc h->(∀ j,j<acc.length->σ (i+j)=(acc[j]?).map (·.1))->a8P x (L5 σ h)=true->a8P x (y6 acc)=true
 | _,[],[],_,_,hm=>hm
 | _,[],_ :: _,h,_,_=>by simp[a3B]at h
 | _,_ :: _,[],h,_,_=>by simp[a3B]at h
 | i,(n,o) :: r,(k,o') :: r',h,hs,hm=>by
  obtain⟨h1,h2,h3,h4⟩:=h;have hij:=Nat.eq_of_beq_eq_true h1;subst hij;have h0:=hs 0 (by simp);simp only[Nat.add_zero,List.getElem?_cons_zero,Option.map_some]at h0
  have ih:=a6d (x:=x) h4 (λj hj=>by
   have:=hs (j+1) (by simpa using hj)
   simpa [Nat.add_assoc,Nat.add_comm 1 j]using this)
  simp only[L5,h0]at hm;simp only[y6,a8P,Bool.or_eq_true];split at hm
  ·exact .inr (ih hm)
  ·simp only[a8P,Bool.or_eq_true]at hm;rcases hm with hm|hm
   ·exact .inl hm
   ·exact .inr (ih hm)
theorem a4I{σ:Sig}{N:Nat}:∀ {i:Nat} {acc:List (Nm×Ob)} {h:A2},R0 (y6 acc)=true->a3B σ N i acc h->(∀ j,j<acc.length->σ (i+j)=(acc[j]?).map (·.1))->R0 (L5 σ h)=true
 | _,[],[],_,_,_=>rfl
 | _,[],_ :: _,_,h,_=>by simp[a3B]at h
 | _,_ :: _,[],_,h,_=>by simp[a3B]at h
 | i,(n,o) :: r,(k,o') :: r',hd,h,hs=>by
  obtain⟨h1,h2,h3,h4⟩:=h;have hij:=Nat.eq_of_beq_eq_true h1;subst hij;have h0:=hs 0 (by simp);simp only[Nat.add_zero,List.getElem?_cons_zero,Option.map_some]at h0
  have hs':∀ j,j<r.length->σ (i+1+j)=(r[j]?).map (·.1):=λj hj=>by
   have:=hs (j+1) (by simpa using hj);simpa [Nat.add_assoc,Nat.add_comm 1 j]using this
  simp only[y6,R0,Bool.and_eq_true,Bool.not_eq_true']at hd;have ih:=a4I hd.2 h4 hs';simp only[L5,h0];split
  ·exact ih
  ·simp only[R0,Bool.and_eq_true,Bool.not_eq_true'];refine⟨?_,ih⟩;rw[Bool.eq_false_iff];intro hm;rw[a6d h4 hs' hm]at hd;exact absurd hd.1 (by decide)
theorem a1F{k:Nat}{H0:A2}:∀ {h:A2},a1B k H0 h=true->∀(i:Nat) o,look h i=some o->i<k/\∃ o0,look H0 i=some o0/\o0.rw=true
 | [],_,i,o,h=>by simp[look]at h
 | (m,u) :: r,h,i,o,hi=>by
  simp only[a1B,Bool.and_eq_true]at h;rw[g9]at hi;split at hi
  ·rename_i e;subst e;refine⟨a2Q h.1.1,?_⟩;have h2:=h.1.2;split at h2
   ·rename_i o0 h0;exact⟨o0,h0,h2⟩
   ·cases h2
  ·exact a1F h.2 i o hi
theorem a1V{k:Nat}:∀ {h:A2},a1u k h=true->∀(i:Nat) o,look h i=some o->k<=i/\i<k+24/\o.rw=true
 | [],_,i,o,h=>by simp[look]at h
 | (m,u) :: r,h,i,o,hi=>by
  simp only[a1u,Bool.and_eq_true]at h;rw[g9]at hi;split at hi
  ·rename_i e;subst e;simp only[Option.some.injEq]at hi;subst hi;exact⟨Nat.le_of_ble_eq_true h.1.1.1,a2Q h.1.1.2,h.1.2⟩
  ·exact a1V h.2 i o hi
theorem a8j{wr:A2}:∀ {h:A2},b0P wr h=true->∀ i o,look h i=some o->o.rw=true->∃ o',look wr i=some o'
 | [],_,i,o,h,_=>by simp[look]at h
 | (m,u) :: r,h,i,o,hi,hr=>by
  simp only[b0P,Bool.and_eq_true]at h;rw[g9]at hi;split at hi
  ·rename_i e;subst e;simp only[Option.some.injEq]at hi;subst hi;have h1:=h.1;rw[hr]at h1;simp only at h1;split at h1
   ·rename_i o' ho';exact⟨o',ho'⟩
   ·cases h1
  ·exact a8j h.2 i o hi hr
theorem Ob.ren_sat{w:World}{ρ ρ2:Rho}{θ:Nm->Nm}{N:Nat}{o:Ob}{p:Option (Nat×Nat×Nat)}(h:Y9 w ρ o p)(hb:o.c.bd (·< N))(hθ:∀ i,i<N->ρ2 (θ i)=ρ i):Y9 w ρ2 (o.ren θ) p:=by
 obtain⟨h1,h2⟩:=b9.ren_spec θ o.c
 have hd:∀ i,i<o.c.size->((o.c.ren θ).at i).den ρ2=(o.c.at i).den ρ:=λi hi=>by
  rw[h2 i hi,SV.ren_den];exact SV.den_congr (U:=(·< N)) hθ _ (hb i hi)
 cases p with
 | none =>
  have h0:o.c.size=0:=h;show (o.c.ren θ).size=0;omega
 | some q =>
  obtain⟨b,off,cp⟩:=q;refine⟨λi hi=>?_,λhr=>?_,λhr=>h.2.2 (by rw[<-h1];exact hr)⟩
  ·have hi':i<o.c.size:=by rw[<-h1];exact hi
   show _=some (((o.c.ren θ).at i).den ρ2);rw[hd i hi'];exact h.1 i hi'
  ·obtain⟨h3,arr,h4,h5⟩:=h.2.1 hr;refine⟨h3,arr,h4,?_⟩;show (o.c.ren θ).size<=_/\_;rw[h1];exact h5
theorem W8{T:Tys}{rs:List ResultVar}{K K':St->SV->Prop}(h:∀ S v,K S v->K' S v){e:Xt}{S:St}(hk:z8 T rs K e S):z8 T rs K' e S:=by
 have key:a6Y T rs K S->a6Y T rs K' S:=by
  intro hr;unfold a6Y at hr ⊢;split at hr
  ·rename_i vs p hvs
   cases p with
   | none=>exact h _ _ hr
   | some p=>exact⟨hr.1,h _ _ hr.2⟩
  ·exact hr.elim
 cases e with
 | normal=>exact key hk
 | ret=>exact key hk
 | exit id=>exact hk.elim
def b3C(W0:World)(Fr:Nat->Prop)(U:Nm->Prop)(H:A2)(ρ:Rho)(nm:Nm)(θ:Nm->Nm)(hc:HC)(en:Ending)(w':World):Prop :=
 ∃ ρ2,(∀ n,U n->ρ2 n=ρ n)/\HSat W0 Fr (UU U nm) (V9 θ hc.wr++(V9 θ hc.news++H)) ρ2 w'/\
  ∃ v,some (hc.val.ren θ)=some v/\v.bd (UU U nm)/\en=.returned (v.den ρ2)
theorem a3A {P:Program} {G:Ctx} (hG:A0 P G) {f:Nat} {fn:Func} {c:Code} (hf:P.funcs[f]? = some fn) (hb:fn.body=some c) (hnm:(fn.name == "runtime.NumGoroutine")=false)
  {W0:World} {Fr:Nat->Prop} {U:Nm->Prop} {H:A2} {ρ:Rho} {w:World} {nm:Nm} {args:List SV} (hH:HSat W0 Fr U H ρ w) (hn:∀ j,j<24->¬U (nm+j))
  {acc:List (Nm×Ob)} (hlook:∀ p∈acc,look H p.1=some p.2) (hd:R0 (y6 acc)=true) {pargs:List SV} {pheap:A2}
  (hcargs:p9 (y5 (y6 acc)) args pargs) (hargsU:a0t acc.length pargs=true) (hargsN:Nat.ble pargs.length fn.ntmps=true) (hpre:a3B (y5 (y6 acc)) acc.length 0 acc pheap)
  {I:Type} {post:I->Prop} {out:I->HC}
  (hkeys:∀ i,post i->a1B acc.length pheap (out i).wr=true/\a1u acc.length (out i).news=true/\b0P (out i).wr pheap=true)
  (hrun:Wp P acc.length c (z6 fn.ntmps pargs pheap acc.length) (z8 G.E.T fn.results.toList λS v=>∃ i,post i/\∃ tau,a0y acc.length (out i) S v tau)) :
  CallsV P f (q8 ρ args).toArray w λen w'=>∃ i,post i/\b3C W0 Fr U H ρ nm (I9 (y6 acc) nm) (out i) en w':=by
 have hσ:∀ j,j<acc.length->y5 (y6 acc) (0+j)=(acc[j]?).map (·.1):=λj _=>by rw[Nat.zero_add];exact a2c acc j
 have hhp:a1j (y5 (y6 acc)) H acc.length pheap:=a5I hpre hlook hσ (by omega);have hs0:=hH.other hhp (a4I hd hpre hσ)
 let ρc:Rho:=ρ.under (y5 (y6 acc))
 let Frc:Nat->Prop:=λb=>b<w.heap.size/\(∀ i o p,look pheap i=some o->o.rw=true->ρc i=some p->p.1≠b)/\∀ i o ts D sz F,look pheap i=some o->o.rw=true->o.c=.raw ts D sz F->¬D b
 have hs1:HSat w Frc (·< acc.length) pheap ρc w :=
  {hs0 with
   os:=rfl,tape:=rfl,output:=rfl,size:=Nat.le_refl _
   frlt:=λb hb=>hb.1
   frame:=λ_ _=>rfl
   free:=λn o p hn hr hp hF=>hF.2.1 n o p hn hr hp rfl
   rawd:=λn o ts D sz F hn hr hc =>
    have k:=hs0.rawd n o ts D sz F hn hr hc
    ⟨k.sat,λb hb hF=>hF.2.2 n o ts D sz F hn hr hc hb,k.sep,k.sepr⟩}
 have hargs:q8 ρ args=q8 ρc pargs:=W2 ρ _ _ _ hcargs;refine .inl ⟨⟨fn,hf,hnm,by rw[hb];rfl⟩,?_⟩;refine calls_of_wp hf hb ?_;rw[hargs];refine hrun w Frc ρc ρc _ w _ (a5L hs1 (a0d _ hargsU) (Nat.le_of_ble_eq_true hargsN)) (Nat.le_refl _) (λ_ _=>rfl) ?_;intro e S' ρ' a' w' hK hS hN hρ
 have fin:a6Y G.E.T fn.results.toList (λS v=>∃ i,post i/\∃ tau,a0y acc.length (out i) S v tau) S'->a'.defers=[]/\∃ u,(results fn a'.tmps).run P w'=.ok u w'/\
   (∃ i,post i/\b3C W0 Fr U H ρ nm (I9 (y6 acc) nm) (out i) (.returned u) w'):=by
  intro hr;unfold a6Y at hr;split at hr
  case h_2=>exact hr.elim
  rename_i vs q hvs;obtain⟨hq,ix,hix,tau,hpost⟩:=V8 hr;obtain⟨hkw,hkn,hkr⟩:=hkeys ix hix;obtain⟨h5,h6⟩:=a2G hG.E.T hS hvs hq;refine⟨hS.s.nd,_,h5,ix,hix,?_⟩;have hp:=hS.h.other hpost.hp hpost.dist
  let ρp:Rho:=ρ'.under (K7 acc.length tau)
  have hpk:∀ i:Nat,i<acc.length->ρp i=ρc i:=by
   intro i hi;show (match K7 acc.length tau i with|some m=>ρ' m|none=>none)=_
   have:K7 acc.length tau i=some i:=by
    unfold K7;rw[show Nat.blt i acc.length=true from Nat.ble_eq_true_of_le hi]
   rw[this];exact hρ i hi
  classical
  let ρ2:Rho:=λn=>if U n then ρ n else if nm<=n/\n<nm+24 then ρp (acc.length+(n-nm))else ρ n
  have hρU:∀ n,U n->ρ2 n=ρ n:=λn hU=>if_pos hU
  let θ:=I9 (y6 acc) nm
  have hθlo:∀ i:Nat,i<acc.length->∃ n o,acc[i]? = some (n,o)/\θ i=n/\look H n=some o:=by
   intro i hi;have hg:=a2c acc i;have he:acc[i]? = some acc[i]:=List.getElem?_eq_getElem hi;rw[he]at hg;refine⟨acc[i].1,acc[i].2,he,?_,hlook acc[i] (List.getElem_mem hi)⟩;show I9 (y6 acc) nm i=_;unfold I9;rw[hg];rfl
  have hθhi:∀ i:Nat,acc.length<=i->θ i=nm+(i-acc.length):=by
   intro i hi;have hg:=a2c acc i;rw[List.getElem?_eq_none hi]at hg;show I9 (y6 acc) nm i=_;unfold I9;rw[hg];simp[b0r]
  have hθ:∀ i:Nat,i<acc.length+24->ρ2 (θ i)=ρp i:=by
   intro i hi;by_cases hk:i<acc.length
   ·obtain⟨n,o,h1,h2,h3⟩:=hθlo i hk;rw[h2,hρU n (hH.used n o h3),hpk i hk];show ρ n=(match y5 (y6 acc) i with|some m=>ρ m|none=>none)
    have:y5 (y6 acc) i=some n:=by
     show nth (y6 acc) i=_;rw[a2c,h1];rfl
    rw[this]
   ·rw[hθhi i (by omega)];have hnU:¬U (nm+(i-acc.length)):=hn (i-acc.length) (show ((i-acc.length:Nat)<24) by omega);show (if U _ then _ else if _ then _ else _)=_;rw[if_neg hnU,if_pos ⟨Nat.le_add_right _ _,Nat.add_lt_add_left (show i-acc.length<24 by omega) nm⟩];congr 1;show acc.length+(nm+(i-acc.length)-nm)=i;omega
  have hθU:∀ i:Nat,i<acc.length+24->UU U nm (θ i):=by
   intro i hi;by_cases hk:i<acc.length
   ·obtain⟨n,o,h1,h2,h3⟩:=hθlo i hk;rw[h2];exact .inl (hH.used n o h3)
   ·rw[hθhi i (by omega)];exact .inr ⟨Nat.le_add_right _ _,Nat.add_lt_add_left (show i-acc.length<24 by omega) nm⟩
  have keyLt:∀ (i:Nat) o,look ((out ix).wr++(out ix).news) i=some o->i<acc.length+24:=by
   intro i o hi;exact hp.used i o hi
  have ent:∀ n o,look (V9 θ (out ix).wr++(V9 θ (out ix).news++H)) n=some o->
    (∃ i o0,look ((out ix).wr++(out ix).news) i=some o0/\θ i=n/\o=o0.ren θ)∨(look H n=some o/\look (V9 θ (out ix).wr) n=none):=by
   intro n o hno;rw[E1]at hno;split at hno
   ·rename_i o1 h1;simp only[Option.some.injEq]at hno;subst hno;obtain⟨i,o0,h2,h3,h4⟩:=a6y h1;exact .inl ⟨i,o0,by rw[E1,h2],h3,h4⟩
   ·rename_i h1;rw[E1]at hno;split at hno
    ·rename_i o1 h2;simp only[Option.some.injEq]at hno;subst hno;obtain⟨i,o0,h3,h4,h5⟩:=a6y h2;refine .inl ⟨i,o0,?_,h4,h5⟩;rw[E1]
     cases hw:look (out ix).wr i with
     | none=>exact h3
     | some o2 =>
      have ha:=(a1F hkw i o2 hw).1;have hb':=(a1V hkn i o0 h3).1;omega
    ·exact .inr ⟨hno,h1⟩
  have orig:∀ i o p,look pheap i=some o->o.rw=true->ρc i=some p->∃ n o1,look H n=some o1/\o1.rw=true/\ρ n=some p/\θ i=n:=by
   intro i o p hi hr hpi;obtain⟨h1,_,h2⟩:=F5 hhp i o hi;rcases h2 with⟨m,o1,h3,h4,h5⟩|⟨h3,_⟩
   ·refine⟨m,o1,h4,((P9 h5).2 hr).1,?_,?_⟩
    ·have:ρc i=ρ m:=by
      show (match y5 (y6 acc) i with|some m=>ρ m|none=>none)=_;rw[h3]
     rw[<-this];exact hpi
    ·show I9 (y6 acc) nm i=m;unfold I9;have:nth (y6 acc) i=some m:=h3;rw[this]
   ·have:ρc i=none:=by
     show (match y5 (y6 acc) i with|some m=>ρ m|none=>none)=_;rw[h3]
    rw[this]at hpi;cases hpi
  have origRaw:∀ i o ts D sz F,look pheap i=some o->o.rw=true->o.c=.raw ts D sz F->(∃ m o1,look H m=some o1/\o1.rw=true/\o1.c=.raw ts D sz F/\θ i=m)∨∀ b,¬D b:=by
   intro i o ts D sz F hi hr hc;obtain⟨h1,_,h2⟩:=F5 hhp i o hi;rcases h2 with⟨m,o1,h3,h4,h5⟩|⟨h3,h4⟩
   ·obtain⟨h6,h7⟩:=P9 h5;rw[hc]at h6;refine .inl ⟨m,o1,h4,(h7 hr).1,a3Q h6,?_⟩;show I9 (y6 acc) nm i=m;unfold I9;have:nth (y6 acc) i=some m:=h3;rw[this]
   ·rw[hc]at h4;exact .inr h4
  have notWr:∀ i o n,look pheap i=some o->o.rw=true->look (V9 θ (out ix).wr) n=none->θ i≠n:=by
   intro i o n hi hr hnw e;obtain⟨o2,ho2⟩:=a8j hkr i o hi hr;obtain⟨o3,ho3⟩:=a2p (θ:=θ) ho2;rw[e,hnw]at ho3;cases ho3
  have oldFr:∀ n o p,look H n=some o->look (V9 θ (out ix).wr) n=none->(o.rw=true∨0<o.c.size)->ρ n=some p->Frc p.1:=by
   intro n o p hno hnw hor hpn;have hob:=hH.obj n o hno;rw[hpn]at hob;refine⟨?_,λi o' p' hi hr hpi e=>?_,λi o' ts D sz F hi hr hc hD=>?_⟩
   ·rcases hor with hor|hor
    ·exact Y9.lt (b:=p.1) (off:=p.2.1) (cp:=p.2.2) hob hor
    ·exact a0I (hob.1 0 hor)
   ·obtain⟨m,o1,h1,h2,h3,h4⟩:=orig i o' p' hi hr hpi;have hne:m≠n:=λe'=>notWr i o' n hi hr hnw (h4.trans e')
    exact hH.inj m n o1 o p' p h1 hno hne h2 hor h3 hpn e
   ·rcases origRaw i o' ts D sz F hi hr hc with⟨m,o1,h1,h2,h3,h4⟩|h1
    ·have hne:n≠m:=λe'=>notWr i o' n hi hr hnw (h4.trans e'.symm)
     exact(hH.rawd m o1 ts D sz F h1 h2 h3).sep n o p hno hne hor hpn hD
    ·exact h1 _ hD
  have oldRaw:∀ n o ts D sz F,look H n=some o->look (V9 θ (out ix).wr) n=none->o.rw=true->o.c=.raw ts D sz F->∀ b,D b->Frc b:=by
   intro n o ts D sz F hno hnw hrn hcn b hDb;have k:=hH.rawd n o ts D sz F hno hrn hcn;refine⟨(k.sat b hDb).lt,λi o' p' hi hr hpi e=>?_,λi o' ts' D' sz' F' hi hr hc hD=>?_⟩
   ·obtain⟨m,o1,h1,h2,h3,h4⟩:=orig i o' p' hi hr hpi;have hne:m≠n:=λe'=>notWr i o' n hi hr hnw (h4.trans e')
    exact k.sep m o1 p' h1 hne (.inl h2) h3 (e▸hDb)
   ·rcases origRaw i o' ts' D' sz' F' hi hr hc with⟨m,o1,h1,h2,h3,h4⟩|h1
    ·have hne:m≠n:=λe'=>notWr i o' n hi hr hnw (h4.trans e')
     exact k.sepr m o1 ts' D' sz' F' h1 hne h2 h3 b hDb hD
    ·exact h1 _ hD
  have frSub:∀ b,Fr b->Frc b:=by
   intro b hF;refine⟨Nat.lt_of_lt_of_le (hH.frlt b hF) hH.size,λi o p hi hr hpi e=>?_,λi o ts D sz F hi hr hc hD=>?_⟩
   ·obtain⟨m,o1,h1,h2,h3,_⟩:=orig i o p hi hr hpi;exact hH.free m o1 p h1 h2 h3 (e▸hF)
   ·rcases origRaw i o ts D sz F hi hr hc with⟨m,o1,h1,h2,h3,_⟩|h1
    ·exact(hH.rawd m o1 ts D sz F h1 h2 h3).free b hD hF
    ·exact h1 _ hD
  have newFr:∀ i o p,look ((out ix).wr++(out ix).news) i=some o->ρp i=some p->¬Frc p.1:=by
   intro i o p hi hpi hF;have hi':=hi;rw[E1]at hi';split at hi'
   ·rename_i o1 h1;obtain⟨h2,o0,h3,h4⟩:=a1F hkw i o1 h1;rw[hpk i h2]at hpi;exact hF.2.1 i o0 p h3 h4 hpi rfl
   ·obtain⟨h2,h3,h4⟩:=a1V hkn i o hi';exact hp.free i o p hi h4 hpi hF
  refine⟨ρ2,hρU,?_,_,rfl,SV.ren_bd hθU _ (SV.und_bd _ hpost.vu),?_⟩
  ·refine {
    os:=hS.h.os.trans hH.os,tape:=hS.h.tape.trans hH.tape,output:=hS.h.output.trans hH.output
    size:=Nat.le_trans hH.size hS.h.size
    frlt:=hH.frlt
    frame:=λb hF=>(hS.h.frame b (frSub b hF)).trans (hH.frame b hF)
    used:=λn o hno=>?_
    bd:=λn o hno=>?_
    obj:=λn o hno=>?_
    inj:=λn1 n2 o1 o2 p q h1 h2 hne hr hr2 hp1 hq=>?_
    free:=λn o p hno hr hpn=>?_
    rawd:=λn o ts D sz F hno hr hcn=>?_}
   rotate_right
   ·rcases ent n o hno with⟨i,o0,h1,rfl,rfl⟩|⟨h1,h2⟩
    ·have k:=hp.rawd i o0 ts D sz F h1 hr (b9.ren_raw hcn);refine⟨k.sat,λb hb hF=>k.free b hb (frSub b hF),λm o' q hm hne hr2 hq=>?_,λm o' ts' D' sz' F' hm hne hr2 hc2 b hb hb2=>?_⟩
     ·rcases ent m o' hm with⟨i2,o2,h3,rfl,rfl⟩|⟨h3,h4⟩
      ·rw[hθ i2 (keyLt i2 o2 h3)]at hq;refine k.sep i2 o2 q h3 (λe=>hne (by rw[e])) (hr2.imp id λhh=>?_) hq;have:=(b9.ren_spec θ o2.c).1;have h0:0<(o2.c.ren θ).size:=hh;omega
      ·rw[hρU m (hH.used m o' h3)]at hq;exact λhD=>k.free _ hD (oldFr m o' q h3 h4 hr2 hq)
     ·rcases ent m o' hm with⟨i2,o2,h3,rfl,rfl⟩|⟨h3,h4⟩
      ·exact k.sepr i2 o2 ts' D' sz' F' h3 (λe=>hne (by rw[e])) hr2 (b9.ren_raw hc2) b hb hb2
      ·exact k.free b hb (oldRaw m o' ts' D' sz' F' h3 h4 hr2 hc2 b hb2)
    ·have k:=hH.rawd n o ts D sz F h1 hr hcn;refine⟨λb hb=>(k.sat b hb).congr λ_=>hS.h.frame b (oldRaw n o ts D sz F h1 h2 hr hcn b hb),k.free,λm o' q hm hne hr2 hq hD=>?_,λm o' ts' D' sz' F' hm hne hr2 hc2 b hb hb2=>?_⟩
     ·rcases ent m o' hm with⟨i2,o2,h3,rfl,rfl⟩|⟨h3,h4⟩
      ·rw[hθ i2 (keyLt i2 o2 h3)]at hq;exact newFr i2 o2 q h3 hq (oldRaw n o ts D sz F h1 h2 hr hcn _ hD)
      ·rw[hρU m (hH.used m o' h3)]at hq;exact k.sep m o' q h3 hne hr2 hq hD
     ·rcases ent m o' hm with⟨i2,o2,h3,rfl,rfl⟩|⟨h3,h4⟩
      ·exact(hp.rawd i2 o2 ts' D' sz' F' h3 hr2 (b9.ren_raw hc2)).free b hb2 (oldRaw n o ts D sz F h1 h2 hr hcn b hb)
      ·exact k.sepr m o' ts' D' sz' F' h3 hne hr2 hc2 b hb hb2
   ·rcases ent n o hno with⟨i,o0,h1,rfl,h3⟩|⟨h1,_⟩
    ·exact hθU i (keyLt i o0 h1)
    ·exact .inl (hH.used n o h1)
   ·rcases ent n o hno with⟨i,o0,h1,rfl,rfl⟩|⟨h1,_⟩
    ·intro j hj;obtain⟨hsz,hat⟩:=b9.ren_spec θ o0.c;have hj':j<o0.c.size:=by rw[<-hsz];exact hj
     show ((o0.c.ren θ).at j).bd _;rw[hat j hj'];exact SV.ren_bd hθU _ (hp.bd i o0 h1 j hj')
    ·exact b9.bd_mono a0T (hH.bd n o h1)
   ·rcases ent n o hno with⟨i,o0,h1,rfl,rfl⟩|⟨h1,h2⟩
    ·rw[hθ i (keyLt i o0 h1)];exact Ob.ren_sat (hp.obj i o0 h1) (hp.bd i o0 h1) hθ
    ·rw[hρU n (hH.used n o h1)];refine(hH.obj n o h1).congr (λb off cp hpn hor _=>?_) (λj hj=>SV.den_congr hρU _ (hH.bd n o h1 j hj));exact hS.h.frame b (oldFr n o (b,off,cp) h1 h2 hor hpn)
   ·rcases ent n1 o1 h1 with⟨i1,o3,h3,rfl,rfl⟩|⟨h3,h4⟩
    ·rw[hθ i1 (keyLt i1 o3 h3)]at hp1;rcases ent n2 o2 h2 with⟨i2,o4,h5,rfl,rfl⟩|⟨h5,h6⟩
     ·rw[hθ i2 (keyLt i2 o4 h5)]at hq;refine hp.inj i1 i2 o3 o4 p q h3 h5 (λe=>hne (by rw[e])) hr ?_ hp1 hq;rcases hr2 with hr2|hr2
      ·exact .inl hr2
      ·refine .inr ?_;have:=(b9.ren_spec θ o4.c).1;have h0:0<(o4.c.ren θ).size:=hr2;omega
     ·rw[hρU n2 (hH.used n2 o2 h5)]at hq;intro e;exact newFr i1 o3 p h3 hp1 (e▸oldFr n2 o2 q h5 h6 hr2 hq)
    ·rw[hρU n1 (hH.used n1 o1 h3)]at hp1;rcases ent n2 o2 h2 with⟨i2,o4,h5,rfl,rfl⟩|⟨h5,h6⟩
     ·rw[hθ i2 (keyLt i2 o4 h5)]at hq;intro e;exact newFr i2 o4 q h5 hq (e▸oldFr n1 o1 p h3 h4 (.inl hr) hp1)
     ·rw[hρU n2 (hH.used n2 o2 h5)]at hq;exact hH.inj n1 n2 o1 o2 p q h3 h5 hne hr hr2 hp1 hq
   ·rcases ent n o hno with⟨i,o0,h1,rfl,rfl⟩|⟨h1,_⟩
    ·rw[hθ i (keyLt i o0 h1)]at hpn;exact λhF=>newFr i o0 p h1 hpn (frSub _ hF)
    ·rw[hρU n (hH.used n o h1)]at hpn;exact hH.free n o p h1 hr hpn
  ·congr 1;rw[I8 ρ' _ _ _ hpost.val,SV.ren_den];exact(SV.den_congr (U:=(·< acc.length+24)) hθ _ (SV.und_bd _ hpost.vu)).symm
 cases e with
 | normal=>exact fin hK
 | ret=>exact fin hK
 | exit id=>exact hK.elim
theorem a5V {P:Program} {G:Ctx} (hG:A0 P G) {f:Nat} {fn:Func} {c:Code} (hf:P.funcs[f]? = some fn) (hb:fn.body=some c) (hnm:(fn.name == "runtime.NumGoroutine")=false) {C:List SV->RdM}
  (h:∀ args,(C args).All (λacc hc=>okP hc.obl->c0e P G c fn args acc hc) []):z5 P f (y4 C) where
 loc:=by
  intro args rd rd' nm e hc hr;unfold y4 at *;split at hc
  ·rename_i sg hc0 hrun;split at hc
   ·rename_i hd;have he:=hc;simp only[Option.some.injEq]at he;subst he;simp only[RdM.run_loc hrun hr,hd]
   ·cases hc
  ·cases hc
 calls:=by
  intro W0 Fr U H ρ w nm args e hH hbd hn hc ho;unfold y4 at hc;split at hc
  case h_2=>cases hc
  rename_i sg hc0 hrun;split at hc
  case h_2=>cases hc
  rename_i hd;simp only[Option.some.injEq]at hc;subst hc;obtain⟨acc,hacc,hlook,hQ⟩:=RdM.all_run (rd:=look H) (h args) (acc:=[]) (by simp) hrun;have hcall:=hQ ho;subst hacc
  exact(a3A hG hf hb hnm hH hn hlook hd hcall.args hcall.argsU hcall.argsN hcall.pre (I:=Unit) (post:=λ_=>True) (out:=λ_=>hc0)
   (λ_ _=>⟨hcall.wr,hcall.news,hcall.rw⟩) (Wp.mono hcall.run λ_ _ hk=>W8 (λ_ _ hp=>⟨(),trivial,hp⟩) hk)).mono λ_ _ ⟨_,_,h⟩=>h
theorem RdM.All.imp{Q Q':List (Nm×Ob)->HC->Prop}(hq:∀ acc hc,Q acc hc->Q' acc hc):∀ {m:RdM} {acc:List (Nm×Ob)},m.All Q acc->m.All Q' acc
 | .fail,_,_=>trivial
 | .ret _,_,h=>hq _ _ h
 | .read _ _,_,h=>λo=>RdM.All.imp hq (h o)
theorem c0o {P:Program} {G:Ctx} (hG:A0 P G) {f:Nat} {fn:Func} {c:Code} (hf:P.funcs[f]? = some fn) (hb:fn.body=some c) (hnm:(fn.name == "runtime.NumGoroutine")=false) {C:List SV->RdM}
  (h:∀ args,(C args).All (λacc hc=>okP hc.obl->c4a G c fn args acc hc) []):z5 P f (y4 C) :=
 a5V hG hf hb hnm λargs=>(h args).imp λ_ _ hc ho =>
  let hk:=hc ho
  ⟨hk.args,hk.argsU,hk.argsN,hk.pre,hk.wr,hk.news,hk.rw,Wp.run hG hk.run⟩
end Go.Sx

namespace Go.Sx
open Go.RowKit
def b6U:Q8->Nm->Bool
 | [],_=>false
 | (m,_) :: r,n=>Nat.beq m n||b6U r n
def a0a(N0:Nat)(n':Nm)(m:Option Nm)(s:Q8):Q8 :=
 match Nat.ble N0 n' with
 | true=>match b6U s n' with
  | true=>s
  | false=>(n',m) :: s
 | false=>s
mutual
def b6J(N0:Nat):SV->Q8->Q8
 | .ptr n' _,s=>a0a N0 n' none s
 | .slc n' _ _ _,s=>a0a N0 n' none s
 | .slcc n' _,s=>a0a N0 n' none s
 | .pb n' _ _,s=>a0a N0 n' none s
 | .dv n' _,s=>a0a N0 n' none s
 | .slb n' _ _ _ _,s=>a0a N0 n' none s
 | .agg b,s=>b1u N0 b s
 | .tup b,s=>b1u N0 b s
 | .ifc _ v',s=>b6J N0 v' s
 | .opt _ _ v',s=>b6J N0 v' s
 | .fn _ a' c',s=>b1u N0 c' (b1u N0 a' s)
 | _,s=>s
def b1u(N0:Nat):List SV->Q8->Q8
 | y :: ys,s=>b1u N0 ys (b6J N0 y s)
 | [],s=>s
end
mutual
def a3r(N0:Nat):SV->SV->Q8->Q8
 | .ptr n _, .ptr n' _,s=>a0a N0 n' (some n) s
 | .slc n _ _ _, .slc n' _ _ _,s=>a0a N0 n' (some n) s
 | .slcc n _, .slcc n' _,s=>a0a N0 n' (some n) s
 | .nils, .slcc n' _,s=>a0a N0 n' none s
 | .pb n _ _, .pb n' _ _,s=>a0a N0 n' (some n) s
 | .dv n _, .dv n' _,s=>a0a N0 n' (some n) s
 | .slb n _ _ _ _, .slb n' _ _ _ _,s=>a0a N0 n' (some n) s
 | .agg a, .agg b,s=>a7q N0 a b s
 | .tup a, .tup b,s=>a7q N0 a b s
 | .ifc _ v, .ifc _ v',s=>a3r N0 v v' s
 | .fn _ a c, .fn _ a' c',s=>a7q N0 c c' (a7q N0 a a' s)
 | .nili, .ifc _ v',s=>b6J N0 v' s
 | .nili, .opt _ _ v',s=>b6J N0 v' s
 | .ifc _ v, .opt _ _ v',s=>a3r N0 v v' s
 | .opt _ _ v, .ifc _ v',s=>a3r N0 v v' s
 | .opt _ _ v, .opt _ _ v',s=>a3r N0 v v' s
 | .nilp, .ptr n' _,s=>a0a N0 n' none s
 | _,_,s=>s
def a7q(N0:Nat):List SV->List SV->Q8->Q8
 | x :: xs,y :: ys,s=>a7q N0 xs ys (a3r N0 x y s)
 | _,_,s=>s
end
def b8f(N0:Nat)(sl:Slots):Slots->Q8->Q8
 | [],s=>s
 | (t,v') :: r,s=>b8f N0 sl r (match slot sl t with
  | some v=>a3r N0 v v' s
  | none=>s)
def b7F(N0:Nat)(f:Nat->SV)(i:Nat):List SV->Q8->Q8
 | y :: ys,s=>b7F N0 f (i+1) ys (a3r N0 (f i) y s)
 | [],s=>s
def a9E(N0:Nat):List SV->List SV->Q8->Q8
 | x :: xs,y :: ys,s=>a9E N0 xs ys (a3r N0 x y s)
 | _,ys,s=>b1u N0 ys s
def c5B(N0:Nat)(c c':b9)(s:Q8):Q8 :=
 match c,c' with
 | .cells l, .cells l'=>a7q N0 l l' s
 | .cells l, .upto _ l'=>a9E N0 l l' s
 | .upto _ l, .upto _ l'=>a9E N0 l l' s
 | .gen _ f, .upto _ l'=>b7F N0 f 0 l' s
 | .gen _ f, .cells l'=>b7F N0 f 0 l' s
 | _,_=>s
def b7l:Q8->Nm->Option (Option Nm)
 | [],_=>none
 | (m,x) :: r,n=>match Nat.beq m n with
  | true=>some x
  | false=>b7l r n
def a5E(N0:Nat)(H:A2):A2->Q8->Q8
 | [],s=>s
 | (n',o') :: r,s=>a5E N0 H r (match (match Nat.ble N0 n' with|true=>b7l s n'|false=>some (some n'))with
  | some (some m)=>match look H m with
   | some o=>c5B N0 o.c o'.c s
   | none=>s
  | some none=>match o'.c with
   | .upto _ l'=>b1u N0 l' s
   | .cells l'=>b1u N0 l' s
   | _=>s
  | _=>s)
def a3j(N0:Nat)(S S':St):Q8:=a5E N0 S.H S'.H (a5E N0 S.H S'.H (a5E N0 S.H S'.H (b8f N0 S.sl S'.sl [])))
theorem B6.auto{N0:Nat}{S S':St}(h:b6j N0 (a3j N0 S S') S S'):B6 N0 S S':=B6.by_names _ h
def K3(s:Q8)(n:Nm):Option Nm:=match b7l s n with
 | some x=>x
 | none=>none
def a8Q(k:Nat)(hc:HC)(S:St)(v:SV):List (Option Nm) :=
 let s:=a5E k S.H (hc.wr++hc.news) (a5E k S.H (hc.wr++hc.news) (a5E k S.H (hc.wr++hc.news) (a3r k v hc.val [])))
 [K3 s k,K3 s (k+1),K3 s (k+2),K3 s (k+3),K3 s (k+4),K3 s (k+5),K3 s (k+6),K3 s (k+7),K3 s (k+8),K3 s (k+9),K3 s (k+10),K3 s (k+11),K3 s (k+12),K3 s (k+13),K3 s (k+14),K3 s (k+15),K3 s (k+16),K3 s (k+17),K3 s (k+18),K3 s (k+19),K3 s (k+20),K3 s (k+21),K3 s (k+22),K3 s (k+23)]
theorem a9{n:Nm}:L3 (some n) n:=by simp[L3]
mutual
theorem SV.bd_all:∀ v:SV,v.bd λ_=>True
 | .ptr _ _=>trivial
 | .slc _ _ _ _=>trivial
 | .slcc _ _=>trivial
 | .pb _ _ _ | .dv _ _ | .slb _ _ _ _ _=>trivial
 | .agg cs=>a3C cs
 | .tup cs=>a3C cs
 | .ifc _ v=>SV.bd_all v
 | .opt _ _ v=>SV.bd_all v
 | .fn _ a c=>⟨a3C a,a3C c⟩
 | .tt | .ff | .bool _ | .int _ _ | .flt _ _ | .str _ | .nilp | .nils | .nili | .nilf | .sla _ _ _=>by simp[SV.bd]
theorem a3C:∀ l:List SV,bdL (λ_=>True) l
 | []=>trivial
 | v :: r=>⟨SV.bd_all v,a3C r⟩
end
def j9(fn:Func):Code:=match fn.body with
 | some c=>c
 | none=>.skip
theorem j7{n:Int}(h1 : -9223372036854775808<=n)(h2:n<9223372036854775808):IntKind.i64.wrap n=n:=by
 show (if (true&&decide (n % (18446744073709551616:Int)>=9223372036854775808))=true then n % (18446744073709551616:Int)-18446744073709551616 else n % (18446744073709551616:Int))=n;rw[Bool.true_and];split
 ·rename_i h;have h:=of_decide_eq_true h;omega
 ·rename_i h;have h:¬_:=λh'=>h (decide_eq_true h');omega
theorem b3l{n:Int}(h1:0<=n)(h2:n<18446744073709551616):IntKind.u64.wrap n=n:=by
 show (if (false&&decide (n % (18446744073709551616:Int)>=9223372036854775808))=true then n % (18446744073709551616:Int)-18446744073709551616 else n % (18446744073709551616:Int))=n;rw[Bool.false_and,if_neg (by decide)];omega
def o9(k:IntKind):b9->Option (Nat×(Nat->Int))
 | .cells l=>match a1R k l with
  | some xs=>some (xs.length,λi=>xs.getD i 0)
  | none=>none
 | .ints k' n g=>match kEq k' k with
  | true=>some (n,g)
  | false=>none
 | _=>none
def A3(k:FloatKind):b9->Option (Nat×(Nat->Nat))
 | .cells l=>match a1w k l with
  | some xs=>some (xs.length,λi=>xs.getD i 0)
  | none=>none
 | .flts k' n g=>match a4j k' k with
  | true=>some (n,g)
  | false=>none
 | _=>none
theorem a6V{k:IntKind}{c:b9}{n:Nat}{g:Nat->Int}(h:o9 k c=some (n,g)):c.size=n/\∀ i,i<n->c.at i=.int k (g i):=by
 unfold o9 at h;split at h
 ·split at h
  ·rename_i l xs hxs;simp only[Option.some.injEq,Prod.mk.injEq]at h;obtain⟨rfl,rfl⟩:=h;have:=O1 hxs;subst this;refine⟨by simp[b9.size],λi hi=>?_⟩;simp[b9.at,E6,hi]
  ·cases h
 ·split at h
  ·rename_i hk;have:=a0i hk;subst this;simp only[Option.some.injEq,Prod.mk.injEq]at h;obtain⟨rfl,rfl⟩:=h;exact⟨rfl,λi _=>rfl⟩
  ·cases h
 ·cases h
theorem a7h{k:FloatKind}{c:b9}{n:Nat}{g:Nat->Nat}(h:A3 k c=some (n,g)):c.size=n/\∀ i,i<n->c.at i=.flt k (g i):=by
 unfold A3 at h;split at h
 ·split at h
  ·rename_i l xs hxs;simp only[Option.some.injEq,Prod.mk.injEq]at h;obtain⟨rfl,rfl⟩:=h;have:=O0 hxs;subst this;refine⟨by simp[b9.size],λi hi=>?_⟩;simp[b9.at,E6,hi]
  ·cases h
 ·split at h
  ·rename_i hk;have:=Q2 hk;subst this;simp only[Option.some.injEq,Prod.mk.injEq]at h;obtain⟨rfl,rfl⟩:=h;exact⟨rfl,λi _=>rfl⟩
  ·cases h
 ·cases h
theorem y9(k:IntKind):kEq k k=true:=by cases k <;> rfl
theorem A8(k:FloatKind):a4j k k=true:=by cases k <;> rfl
theorem o8{σ:Sig}{k:IntKind}{c:b9}{n:Nat}{g:Nat->Int}(h:o9 k c=some (n,g)):L4 σ c (.ints k n g)/\L4 σ (.ints k n g) c/\∀ N,c.und N:=by
 obtain⟨h1,h2⟩:=a6V h
 have hr:∀ i,i<n->y7 σ (c.at i) ((b9.ints k n g).at i)/\y7 σ ((b9.ints k n g).at i) (c.at i):=λi hi=>by
  rw[h2 i hi];simp[b9.at,y7,y9]
 cases c with
 | cells l =>
  refine⟨?_,⟨by rw[h1];exact Nat.le_refl _,λi hi=>(hr i (by rw[<-h1];exact hi)).2⟩,λN=>?_⟩
  ·unfold o9 at h;simp only at h;split at h
   ·rename_i xs hxs;simp only[Option.some.injEq,Prod.mk.injEq]at h;obtain⟨rfl,rfl⟩:=h;simp[L4,hxs]
   ·cases h
  unfold o9 at h;simp only at h;split at h
  ·rename_i xs hxs;have:=O1 hxs;subst this;show a0t N _=true;clear h h1 h2 hr hxs
   induction xs with
   | nil=>rfl
   | cons x r ih=>simpa [a0t,SV.und]using ih
  ·cases h
 | ints k' m g' =>
  unfold o9 at h;simp only at h;split at h
  ·rename_i hk;have:=a0i hk;subst this;simp only[Option.some.injEq,Prod.mk.injEq]at h;obtain⟨rfl,rfl⟩:=h;refine⟨?_,?_,λN=>trivial⟩ <;> simp[L4,y9]
  ·cases h
 | flts k' m g'=>simp[o9]at h
 | gen m f=>simp[o9]at h
 | upto m l=>simp[o9]at h
 | raw ts D sz F=>simp[o9]at h
theorem A7{σ:Sig}{k:FloatKind}{c:b9}{n:Nat}{g:Nat->Nat}(h:A3 k c=some (n,g)):L4 σ c (.flts k n g)/\L4 σ (.flts k n g) c/\∀ N,c.und N:=by
 obtain⟨h1,h2⟩:=a7h h
 have hr:∀ i,i<n->y7 σ (c.at i) ((b9.flts k n g).at i)/\y7 σ ((b9.flts k n g).at i) (c.at i):=λi hi=>by
  rw[h2 i hi];simp[b9.at,y7,A8]
 cases c with
 | cells l =>
  refine⟨?_,⟨by rw[h1];exact Nat.le_refl _,λi hi=>(hr i (by rw[<-h1];exact hi)).2⟩,λN=>?_⟩
  ·unfold A3 at h;simp only at h;split at h
   ·rename_i xs hxs;simp only[Option.some.injEq,Prod.mk.injEq]at h;obtain⟨rfl,rfl⟩:=h;simp[L4,hxs]
   ·cases h
  unfold A3 at h;simp only at h;split at h
  ·rename_i xs hxs;have:=O0 hxs;subst this;show a0t N _=true;clear h h1 h2 hr hxs
   induction xs with
   | nil=>rfl
   | cons x r ih=>simpa [a0t,SV.und]using ih
  ·cases h
 | flts k' m g' =>
  unfold A3 at h;simp only at h;split at h
  ·rename_i hk;have:=Q2 hk;subst this;simp only[Option.some.injEq,Prod.mk.injEq]at h;obtain⟨rfl,rfl⟩:=h;refine⟨?_,?_,λN=>trivial⟩ <;> simp[L4,A8]
  ·cases h
 | ints k' m g'=>simp[A3]at h
 | gen m f=>simp[A3]at h
 | upto m l=>simp[A3]at h
 | raw ts D sz F=>simp[A3]at h
end Go.Sx

namespace Go.Sx
open Go.RowKit
def Y2(b:Bool)(p:Prop):Prop :=
 match b with
 | true=>p
 | false=>False
theorem F4{b:Bool}{p:Prop}(h:Y2 b p):b=true/\p:=by
 cases b
 ·exact h.elim
 ·exact⟨rfl,h⟩
def a9p(σ:Sig)(sl:Slots)(N:Nat):Slots->Prop
 | []=>True
 | (t,v') :: r=>match slot sl t with
  | some v=>Y2 (v'.und N) (y7 σ v v'/\a9p σ sl N r)
  | none=>False
def b9.undP(N:Nat):b9->Prop
 | .cells l=>Y2 (a0t N l) True
 | .ints _ _ _=>True
 | .flts _ _ _=>True
 | .gen n f=>∀ i,i<n->(f i).und N=true
 | .upto _ l=>Y2 (a0t N l) True
 | .raw _ _ _ _=>True
def b0K(σ:Sig)(H:A2)(N:Nat):A2->Prop
 | []=>True
 | (n,o') :: r=>Y2 (Nat.blt n N) (o'.c.undP N/\(match σ n with
  | some m=>match look H m with
   | some o=>obR σ o o'
   | none=>False
  | none=>o'.c.void)/\b0K σ H N r)
theorem a4H{σ:Sig}{sl:Slots}{N:Nat}:∀ {s:Slots},a9p σ sl N s->a3Z σ sl N s
 | [],_=>trivial
 | (t,v') :: r,h=>by
  unfold a9p at h;unfold a3Z;split at h
  ·rename_i v hv;obtain⟨h1,h2,h3⟩:=F4 h;refine⟨?_,a4H h3⟩
   first|exact⟨h1,h2⟩|(rw[hv];exact⟨h1,h2⟩)
  ·exact h.elim
theorem b9.undP_spec{N:Nat}{c:b9}(h:c.undP N):c.und N:=by
 cases c with
 | cells l=>exact(F4 h).1
 | ints k n g=>trivial
 | flts k n g=>trivial
 | gen n f=>exact h
 | upto n l=>exact(F4 h).1
 | raw ts D sz F=>trivial
theorem a2J{σ:Sig}{H:A2}{N:Nat}:∀ {s:A2},b0K σ H N s->a1j σ H N s
 | [],_=>trivial
 | (n,o') :: r,h=>by
  unfold b0K at h;unfold a1j;obtain⟨h1,h2,h3,h4⟩:=F4 h;exact⟨⟨h1,b9.undP_spec h2,h3⟩,a2J h4⟩
def a4G(N0:Nat)(S S':St):Prop :=
 Y2 (Nat.ble N0 S'.N&&(b7B N0 (a3j N0 S S')&&(Nat.beq S'.nt S.nt&&R0 (L5 (a1L (a3j N0 S S')) S'.H))))
  (a9p (a1L (a3j N0 S S')) S.sl S'.N S'.sl/\b0K (a1L (a3j N0 S S')) S.H S'.N S'.H)
theorem I0{N0:Nat}{S S':St}(h:a4G N0 S S'):B6 N0 S S':=by
 obtain⟨h1,h2,h3⟩:=F4 h;simp only[Bool.and_eq_true]at h1;obtain⟨h4,h5,h6,h7⟩:=h1;exact B6.auto ⟨h4,h5,Nat.eq_of_beq_eq_true h6,h7,a4H h2,a2J h3⟩
structure Fam where
 ι:Type
 I:ι->St
 inv:ι->Prop
 μ:ι->Nat
abbrev Ann:=List (Nat×Fam)
def ann:Ann->Nat->Option Fam
 | [],_=>none
 | (m,v) :: r,n=>match Nat.beq m n with
  | true=>some v
  | false=>ann r n
def a0q:Code->Option Nat
 | .region id _ _=>some id
 | .seq x y=>match a0q x with
  | some i=>some i
  | none=>a0q y
 | .block _ x=>a0q x
 | .loop x=>a0q x
 | _=>none
def b4e(A:Ann)(c:Code):Option Fam :=
 match a0q c with
 | some i=>ann A i
 | none=>none
structure R5 where
 f:Fam
 cuts:f.ι->Ann
instance:Coe Fam R5:=⟨λf=>⟨f,λ_=>[]⟩⟩
inductive LA where
 | fam (f:R5)
 | unr (l:List Fam)
 | alt (l:List R5)
 | unrD (f:St->List Fam)
 | iter (n:Nat)
instance:Coe R5 LA:=⟨.fam⟩
instance:Coe Fam LA:=⟨λf=>.fam f⟩
abbrev a7g:=List (Nat×LA)
def c6d:a7g->Nat->Option LA
 | [],_=>none
 | (m,v) :: r,n=>match Nat.beq m n with
  | true=>some v
  | false=>c6d r n
def b5R(A:a7g)(c:Code):Option LA :=
 match a0q c with
 | some i=>c6d A i
 | none=>none
def a1l:Ann->Ann->Ann
 | [],B=>B
 | x :: r,B=>x :: a1l r B
def a6k(N0:Nat)(S:St):List Fam->Prop
 | []=>False
 | J :: _=>∃ i,J.inv i/\a4G N0 S (J.I i)
def a8z(N0:Nat)(run:St->(Xt->St->Prop)->Prop)(K:Xt->St->Prop):List Fam->Prop
 | []=>True
 | J :: r=>(∀ i,J.inv i->run (J.I i) (λe S'=>match e with
  | .normal=>a6k N0 S' r
  | e=>K e S'))/\a8z N0 run K r
def b0b(run:St->(Xt->St->Prop)->Prop)(K:Xt->St->Prop):Nat->St->Prop
 | 0,_=>False
 | n+1,S=>run S (λe S'=>match e with
  | .normal=>b0b run K n S'
  | e=>K e S')
def b2r(N0:Nat)(run:Ann->St->(Xt->St->Prop)->Prop)(S:St)(K:Xt->St->Prop)(J:R5):Prop :=
 (∃ i,J.f.inv i/\a4G N0 S (J.f.I i))/\∀ i,J.f.inv i->run (J.cuts i) (J.f.I i) (λe S'=>match e with
  | .normal=>∃ i',J.f.inv i'/\J.f.μ i'<J.f.μ i/\a4G N0 S' (J.f.I i')
  | e=>K e S')
def b7T(N0:Nat)(run:Ann->St->(Xt->St->Prop)->Prop)(S:St)(K:Xt->St->Prop):List R5->Prop
 | []=>False
 | J :: r=>b2r N0 run S K J∨b7T N0 run S K r
def V7(G:Ctx)(N0:Nat)(A:a7g):Code->Ann->St->(Xt->St->Prop)->Prop
 | .skip,_,S,K=>K .normal S
 | .region _ ops draw,_,S,K=>match draw with
  | false=>a9h G ops.toList ops.toList S (K .normal)
  | true=>b2I G ops.toList S (K .normal) 20 []
 | .seq x y,B,S,K=>match b4e B y with
  | none=>V7 G N0 A x B S (λe S'=>match e with
   | .normal=>V7 G N0 A y B S' K
   | e=>K e S')
  | some J=>V7 G N0 A x B S (λe S'=>match e with
   | .normal=>∃ j,J.inv j/\a4G N0 S' (J.I j)
   | e=>K e S')/\∀ j,J.inv j->V7 G N0 A y B (J.I j) K
 | .cond c x y,B,S,K=>match opr S.sl c with
  | some .tt=>V7 G N0 A x B S K
  | some .ff=>V7 G N0 A y B S K
  | some (.bool b)=>(b=true->V7 G N0 A x B S K)/\(b=false->V7 G N0 A y B S K)
  | _=>False
 | .block id x,B,S,K=>V7 G N0 A x B S (λe S'=>match e with
  | .exit j=>match Nat.beq j id with
   | true=>K .normal S'
   | false=>K (.exit j) S'
  | e=>K e S')
 | .exit id,_,S,K=>K (.exit id) S
 | .ret,_,S,K=>K .ret S
 | .loop x,B,S,K=>match b5R A x with
  | none=>match b4e B x with
   | none=>False
   | some J=>b2r N0 (λB' S' K'=>V7 G N0 A x (a1l B' B) S' K') S K ⟨J,λ_=>[]⟩
  | some (.unr l)=>a6k N0 S l/\a8z N0 (λS' K'=>V7 G N0 A x B S' K') K l
  | some (.unrD f)=>a6k N0 S (f S)/\a8z N0 (λS' K'=>V7 G N0 A x B S' K') K (f S)
  | some (.iter n)=>b0b (λS' K'=>V7 G N0 A x B S' K') K n S
  | some (.fam J)=>b2r N0 (λB' S' K'=>V7 G N0 A x (a1l B' B) S' K') S K J
  | some (.alt l)=>b7T N0 (λB' S' K'=>V7 G N0 A x (a1l B' B) S' K') S K l
 | _,_,_,_=>False
def C8(G:Ctx)(N0:Nat)(A:a7g)(B:Ann)(c:Code)(S:St)(K:Xt->St->Prop):Prop:=V7 G N0 A c B S K
section
variable {P:Program} {G:Ctx}
theorem Wp.refines'{N0:Nat}{S S1:St}{K:Xt->St->Prop}{c:Code}(hr:B6 N0 S S1)(h:Wp P N0 c S1 K):Wp P N0 c S K:=by
 intro W0 Fr ρ0 ρ a w Q hS hN hρ hK;obtain⟨ρ',h1,h2⟩:=hr.2 W0 Fr ρ a w hS;exact h W0 Fr ρ0 ρ' a w Q h1 hr.1 (λn hn=>(h2 n hn).trans (hρ n hn)) hK
theorem Wp.iter{N0:Nat}{x:Code}{K:Xt->St->Prop}{run:St->(Xt->St->Prop)->Prop}(hrun:∀ S K,run S K->Wp P N0 x S K)(n:Nat)(S:St)(h:b0b run K n S):Wp P N0 (.loop x) S K:=by
 intro W0 Fr ρ0 ρ a w Q hS hN hρ hK;refine a0h (λi a w=>∃ S1 ρ',Sat W0 Fr S1 ρ' a w/\N0<=S1.N/\(∀ n,n<N0->ρ' n=ρ0 n)/\b0b run K i S1) (λi=>i) ?_ (i0:=n) ⟨S,ρ,hS,hN,hρ,h⟩;rintro i a1 w1 ⟨S1,ρ1,hS1,hN1,hρ1,hi⟩
 cases i with
 | zero=>exact(hi:False).elim
 | succ i =>
  refine hrun S1 _ hi W0 Fr ρ0 ρ1 a1 w1 _ hS1 hN1 hρ1 λe S' ρ' a' w' h' hS' hN' hρ'=>?_
  cases e with
  | normal=>exact⟨i,⟨S',ρ',hS',hN',hρ',h'⟩,Nat.lt_succ_self i⟩
  | exit id=>exact hK (.exit id) S' ρ' a' w' h' hS' hN' hρ'
  | ret=>exact hK .ret S' ρ' a' w' h' hS' hN' hρ'
theorem b1y(hG:A0 P G){N0:Nat}{A:a7g}:∀(c:Code) {B:Ann} {S:St} {K:Xt->St->Prop},V7 G N0 A c B S K->Wp P N0 c S K:=by
 intro c
 induction c with
 | skip=>intro B S K h;exact Wp.run hG h
 | region id ops draw=>intro B S K h;exact Wp.run hG h
 | seq x y ihx ihy =>
  intro B S K h;unfold V7 at h;split at h
  ·exact Wp.seq (ihx h) (λS' h'=>ihy h') (λ_ _ h=>h) (λ_ h=>h)
  ·rename_i J hJ;obtain⟨h1,h2⟩:=h;refine Wp.seq (ihx h1) (λS' h'=>?_) (λ_ _ h=>h) (λ_ h=>h);obtain⟨j,hj,hf⟩:=h';exact Wp.refines' (I0 hf) (ihy (h2 j hj))
 | cond c x y ihx ihy =>
  intro B S K h W0 Fr ρ0 ρ a w Q hS hN hρ hK;unfold V7 at h;split at h
  ·rename_i hv;exact wp_cond_true (by simpa [SV.den]using (H6 hS.s hv).1) (ihx h W0 Fr ρ0 ρ a w Q hS hN hρ hK)
  ·rename_i hv;exact wp_cond_false (by simpa [SV.den]using (H6 hS.s hv).1) (ihy h W0 Fr ρ0 ρ a w Q hS hN hρ hK)
  ·rename_i b hv;have hb:=(H6 hS.s hv).1;simp only[SV.den]at hb;exact wp_cond_split hb (λe=>ihx (h.1 e) W0 Fr ρ0 ρ a w Q hS hN hρ hK) (λe=>ihy (h.2 e) W0 Fr ρ0 ρ a w Q hS hN hρ hK)
  ·exact h.elim
 | block id x ih =>
  intro B S K h;exact Wp.block (ih h)
 | exit id=>intro B S K h;exact Wp.run hG h
 | ret=>intro B S K h;exact Wp.run hG h
 | loop x ih =>
  intro B S K h
  have hfam:∀ J:R5,b2r N0 (λB' S' K'=>V7 G N0 A x (a1l B' B) S' K') S K J->Wp P N0 (.loop x) S K:=by
   intro J h;obtain⟨⟨i0,h0,hf⟩,hr⟩:=h;refine Wp.loop (ι:={i:J.f.ι // J.f.inv i}) (λi=>J.f.I i.1) (λi=>J.f.μ i.1) ⟨i0,h0⟩ (I0 hf) λi=>?_
   refine Wp.mono (ih (hr i.1 i.2)) λe S' h'=>?_
   cases e with
   | normal =>
    obtain⟨i',h1,h2,h3⟩:=h';exact⟨⟨i',h1⟩,h2,I0 h3⟩
   | exit id=>exact h'
   | ret=>exact h'
  have hunr:∀ l:List Fam,(a6k N0 S l/\a8z N0 (λS' K'=>V7 G N0 A x B S' K') K l)->Wp P N0 (.loop x) S K:=by
   intro l h;obtain⟨h0,h1⟩:=h
   have key:∀(l:List Fam),a8z N0 (λS' K'=>V7 G N0 A x B S' K') K l->∀(k:Nat)(J:Fam),l[k]? = some J->∀ i,J.inv i->Wp P N0 x (J.I i) (λe S'=>match e with
     | .normal=>∃ J':Fam,l[k+1]? = some J'/\∃ i',J'.inv i'/\a4G N0 S' (J'.I i')
     | e=>K e S'):=by
    intro l
    induction l with
    | nil=>intro _ k J hk;simp at hk
    | cons J0 r ihl =>
     intro hu k J hk i hi;obtain⟨hu1,hu2⟩:=hu
     cases k with
     | zero =>
      simp only[List.getElem?_cons_zero,Option.some.injEq]at hk;subst hk;refine Wp.mono (ih (hu1 i hi)) λe S' h'=>?_
      cases e with
      | normal =>
       cases r with
       | nil=>exact(h':False).elim
       | cons J1 r1=>exact⟨J1,rfl,h'⟩
      | exit id=>exact h'
      | ret=>exact h'
     | succ k =>
      simp only[List.getElem?_cons_succ]at hk;refine Wp.mono (ihl hu2 k J hk i hi) λe S' h'=>?_
      cases e with
      | normal =>
       obtain⟨J',h2,h3⟩:=h';exact⟨J',by simpa using h2,h3⟩
      | exit id=>exact h'
      | ret=>exact h'
   cases l with
   | nil=>exact(h0:False).elim
   | cons J0 r =>
    obtain⟨i0,hi0,hf⟩:=h0;refine Wp.loop (ι:={q:(Σ k:Fin (J0 :: r).length,((J0 :: r).get k).ι) // ((J0 :: r).get q.1).inv q.2}) (λq=>((J0 :: r).get q.1.1).I q.1.2) (λq=>(J0 :: r).length-q.1.1.val) ⟨⟨⟨0,Nat.succ_pos _⟩,i0⟩,hi0⟩ (I0 hf) λq=>?_
    obtain⟨⟨⟨k,hk⟩,i⟩,hi⟩:=q;refine Wp.mono (key _ h1 k _ (List.getElem?_eq_getElem hk) i hi) λe S' h'=>?_
    cases e with
    | normal =>
     obtain⟨J',h2,i',h3,h4⟩:=h';obtain⟨hlt,h5⟩:=List.getElem?_eq_some_iff.1 h2;subst h5;exact⟨⟨⟨⟨k+1,hlt⟩,i'⟩,h3⟩,by show (J0 :: r).length-(k+1)<(J0 :: r).length-k;omega,I0 h4⟩
    | exit id=>exact h'
    | ret=>exact h'
  unfold V7 at h;split at h
  ·split at h
   ·exact h.elim
   ·rename_i J hJ;exact hfam ⟨J,λ_=>[]⟩ h
  ·rename_i l hl;exact hunr l h
  ·rename_i f hf;exact hunr (f S) h
  ·rename_i n hn;exact Wp.iter (λS K=>ih) n S h
  ·rename_i J hJ;exact hfam J h
  ·rename_i l hl
   have:∀ l:List R5,b7T N0 (λB' S' K'=>V7 G N0 A x (a1l B' B) S' K') S K l->Wp P N0 (.loop x) S K:=by
    intro l
    induction l with
    | nil=>intro h;exact(h:False).elim
    | cons J r ihl =>
     intro h;rcases h with h|h
     ·exact hfam J h
     ·exact ihl h
   exact this l h
 | _=>intro B S K h;exact(h:False).elim
theorem a0z(hG:A0 P G){N0:Nat}{A:a7g}{B:Ann}(c:Code){S:St}{K:Xt->St->Prop}(h:C8 G N0 A B c S K):Wp P N0 c S K:=b1y hG c h
end
def A9(k:Nat)(hc:HC)(S:St)(v:SV):Prop :=
 Y2 (hc.val.und (k+24)&&R0 (L5 (K7 k (a8Q k hc S v)) (hc.wr++hc.news)))
  (y7 (K7 k (a8Q k hc S v)) v hc.val/\b0K (K7 k (a8Q k hc S v)) S.H (k+24) (hc.wr++hc.news))
theorem a0E{k:Nat}{hc:HC}{S:St}{v:SV}(h:A9 k hc S v):∃ tau,a0y k hc S v tau:=by
 obtain⟨h1,h2,h3⟩:=F4 h;simp only[Bool.and_eq_true]at h1;exact⟨_,h2,h1.1,a2J h3,h1.2⟩
theorem O5{fn:Func}(hb:fn.body.isNone=false):fn.body=some (j9 fn):=by
 unfold j9
 cases h:fn.body with
 | none=>rw[h]at hb;cases hb
 | some c=>rfl
theorem C2 {P:Program} {G:Ctx} (hG:A0 P G) {f:Nat} {fn:Func} (hf:P.funcs[f]? = some fn) (hb:fn.body.isNone=false) (hnm:(fn.name == "runtime.NumGoroutine")=false) {F:PF}
  (h:∀ args v p,F args=some (v,p)->okP p->(v.closed&&(E7 args&&Nat.ble args.length fn.ntmps))=true/\
   ∃ A B,C8 G 0 A B (j9 fn) (z6 fn.ntmps args [] 0) (z8 G.E.T fn.results.toList λ_ v'=>eqv v' v)):C6 P f F :=
 a5C hG hf (O5 hb) hnm λargs v p hF hp=>by
  obtain⟨h1,A,B,h2⟩:=h args v p hF hp;simp only[Bool.and_eq_true]at h1;exact⟨h1.1,h1.2.1,h1.2.2,a0z hG _ h2⟩
def b9y(σ:Sig)(N:Nat):Nat->List (Nm×Ob)->A2->Prop
 | _,[],[]=>True
 | i,(_,o) :: r,(j,o') :: r'=>Y2 (Nat.beq i j) (o'.c.undP N/\obR σ o o'/\b9y σ N (i+1) r r')
 | _,_,_=>False
theorem W4{σ:Sig}{N:Nat}:∀ {i:Nat} {r:List (Nm×Ob)} {h:A2},b9y σ N i r h->a3B σ N i r h
 | _,[],[],_=>trivial
 | i,(_,o) :: r,(j,o') :: r',h=>by
  obtain⟨h1,h2,h3,h4⟩:=F4 h;exact⟨h1,b9.undP_spec h2,h3,W4 h4⟩
 | _,[],_ :: _,h=>h.elim
 | _,_ :: _,[],h=>h.elim
def c0X(fn:Func)(args:List SV)(acc:List (Nm×Ob))(hc:HC):Prop :=
 Y2 (a0t acc.length hc.args&&(Nat.ble hc.args.length fn.ntmps&&(a1B acc.length hc.heap hc.wr&&(a1u acc.length hc.news&&b0P hc.wr hc.heap))))
  (p9 (y5 (y6 acc)) args hc.args/\b9y (y5 (y6 acc)) acc.length 0 acc hc.heap)
theorem p8 {P:Program} {G:Ctx} (hG:A0 P G) {f:Nat} {fn:Func} (hf:P.funcs[f]? = some fn) (hb:fn.body.isNone=false) (hnm:(fn.name == "runtime.NumGoroutine")=false) {C:List SV->RdM}
  (h:∀ args,(C args).All (λacc hc=>okP hc.obl->c0X fn args acc hc/\
   ∃ A B,C8 G acc.length A B (j9 fn) (z6 fn.ntmps hc.args hc.heap acc.length) (z8 G.E.T fn.results.toList λS v=>A9 acc.length hc S v)) []):z5 P f (y4 C) :=
 a5V hG hf (O5 hb) hnm λargs=>(h args).imp λacc hc hk ho=>by
  obtain⟨h1,A,B,h2⟩:=hk ho;obtain⟨h3,h4,h5⟩:=F4 h1;simp only[Bool.and_eq_true]at h3;exact⟨h4,h3.1,h3.2.1,W4 h5,h3.2.2.1,h3.2.2.2.1,h3.2.2.2.2,Wp.mono (a0z hG _ h2) λe S' hk'=>W8 (λ_ _=>a0E) hk'⟩
theorem j5{b:Bool}{p:Prop}(h:b=true)(hp:p):Y2 b p:=by subst h;exact hp
theorem C5{σ:Sig}{v:SV}{b:Bool}(h:v.toB=some b):y7 σ v (.bool b):=by
 cases v <;> simp_all[SV.toB,y7]
end Go.Sx

namespace Go.Sx
open Go.RowKit
def J9(X:F7)(N0:Nat)(A:a7g):Code->Ann->St->(Xt->St->Prop)->Prop
 | .skip,_,S,K=>K .normal S
 | .region _ ops draw,_,S,K=>match draw with
  | false=>a9X X ops.toList ops.toList S (K .normal)
  | true=>b6L X ops.toList S (K .normal)
 | .seq x y,B,S,K=>match b4e B y with
  | none=>J9 X N0 A x B S (λe S'=>match e with
   | .normal=>J9 X N0 A y B S' K
   | e=>K e S')
  | some J=>J9 X N0 A x B S (λe S'=>match e with
   | .normal=>∃ j,J.inv j/\a4G N0 S' (J.I j)
   | e=>K e S')/\∀ j,J.inv j->J9 X N0 A y B (J.I j) K
 | .cond c x y,B,S,K=>match opr S.sl c with
  | some .tt=>J9 X N0 A x B S K
  | some .ff=>J9 X N0 A y B S K
  | some (.bool b)=>(b=true->J9 X N0 A x B S K)/\(b=false->J9 X N0 A y B S K)
  | _=>False
 | .block id x,B,S,K=>J9 X N0 A x B S (λe S'=>match e with
  | .exit j=>match Nat.beq j id with
   | true=>K .normal S'
   | false=>K (.exit j) S'
  | e=>K e S')
 | .exit id,_,S,K=>K (.exit id) S
 | .ret,_,S,K=>K .ret S
 | .loop x,B,S,K=>match b5R A x with
  | none=>match b4e B x with
   | none=>False
   | some J=>b2r N0 (λB' S' K'=>J9 X N0 A x (a1l B' B) S' K') S K ⟨J,λ_=>[]⟩
  | some (.unr l)=>a6k N0 S l/\a8z N0 (λS' K'=>J9 X N0 A x B S' K') K l
  | some (.unrD f)=>a6k N0 S (f S)/\a8z N0 (λS' K'=>J9 X N0 A x B S' K') K (f S)
  | some (.iter n)=>b0b (λS' K'=>J9 X N0 A x B S' K') K n S
  | some (.fam J)=>b2r N0 (λB' S' K'=>J9 X N0 A x (a1l B' B) S' K') S K J
  | some (.alt l)=>b7T N0 (λB' S' K'=>J9 X N0 A x (a1l B' B) S' K') S K l
 | _,_,_,_=>False
def N9(X:F7)(N0:Nat)(A:a7g)(B:Ann)(c:Code)(S:St)(K:Xt->St->Prop):Prop:=J9 X N0 A c B S K
section
variable {P:Program} {X:F7}
theorem b1s(hX:B5 P X){N0:Nat}{A:a7g}:∀(c:Code) {B:Ann} {S:St} {K:Xt->St->Prop},J9 X N0 A c B S K->Wp P N0 c S K:=by
 intro c
 induction c with
 | skip=>intro B S K h;exact Wp.run hX.G h
 | region id ops draw =>
  intro B S K h W0 Fr ρ0 ρ a w Q hS hN hρ hK;unfold J9 at h;split at h
  ·refine wp_region ?_;have:=a2u hX (ops:=ops.toList) (Q:=Q) ops.toList 0 (λj=>by simp) h hS hN hρ (λS' ρ' a' w' h1 h2 h3 h4=>hK .normal S' ρ' a' w' h1 h2 h3 h4);simpa [List.range_eq_range']using this
  ·exact b0L hX h hS hN hρ (λS' ρ' a' w' h1 h2 h3 h4=>hK .normal S' ρ' a' w' h1 h2 h3 h4)
 | seq x y ihx ihy =>
  intro B S K h;unfold J9 at h;split at h
  ·exact Wp.seq (ihx h) (λS' h'=>ihy h') (λ_ _ h=>h) (λ_ h=>h)
  ·rename_i J hJ;obtain⟨h1,h2⟩:=h;refine Wp.seq (ihx h1) (λS' h'=>?_) (λ_ _ h=>h) (λ_ h=>h);obtain⟨j,hj,hf⟩:=h';exact Wp.refines' (I0 hf) (ihy (h2 j hj))
 | cond c x y ihx ihy =>
  intro B S K h W0 Fr ρ0 ρ a w Q hS hN hρ hK;unfold J9 at h;split at h
  ·rename_i hv;exact wp_cond_true (by simpa [SV.den]using (H6 hS.s hv).1) (ihx h W0 Fr ρ0 ρ a w Q hS hN hρ hK)
  ·rename_i hv;exact wp_cond_false (by simpa [SV.den]using (H6 hS.s hv).1) (ihy h W0 Fr ρ0 ρ a w Q hS hN hρ hK)
  ·rename_i b hv;have hb:=(H6 hS.s hv).1;simp only[SV.den]at hb;exact wp_cond_split hb (λe=>ihx (h.1 e) W0 Fr ρ0 ρ a w Q hS hN hρ hK) (λe=>ihy (h.2 e) W0 Fr ρ0 ρ a w Q hS hN hρ hK)
  ·exact h.elim
 | block id x ih =>
  intro B S K h;exact Wp.block (ih h)
 | exit id=>intro B S K h;exact Wp.run hX.G h
 | ret=>intro B S K h;exact Wp.run hX.G h
 | loop x ih =>
  intro B S K h
  have hfam:∀ J:R5,b2r N0 (λB' S' K'=>J9 X N0 A x (a1l B' B) S' K') S K J->Wp P N0 (.loop x) S K:=by
   intro J h;obtain⟨⟨i0,h0,hf⟩,hr⟩:=h;refine Wp.loop (ι:={i:J.f.ι // J.f.inv i}) (λi=>J.f.I i.1) (λi=>J.f.μ i.1) ⟨i0,h0⟩ (I0 hf) λi=>?_
   refine Wp.mono (ih (hr i.1 i.2)) λe S' h'=>?_
   cases e with
   | normal =>
    obtain⟨i',h1,h2,h3⟩:=h';exact⟨⟨i',h1⟩,h2,I0 h3⟩
   | exit id=>exact h'
   | ret=>exact h'
  have hunr:∀ l:List Fam,(a6k N0 S l/\a8z N0 (λS' K'=>J9 X N0 A x B S' K') K l)->Wp P N0 (.loop x) S K:=by
   intro l h;obtain⟨h0,h1⟩:=h
   have key:∀(l:List Fam),a8z N0 (λS' K'=>J9 X N0 A x B S' K') K l->∀(k:Nat)(J:Fam),l[k]? = some J->∀ i,J.inv i->Wp P N0 x (J.I i) (λe S'=>match e with
     | .normal=>∃ J':Fam,l[k+1]? = some J'/\∃ i',J'.inv i'/\a4G N0 S' (J'.I i')
     | e=>K e S'):=by
    intro l
    induction l with
    | nil=>intro _ k J hk;simp at hk
    | cons J0 r ihl =>
     intro hu k J hk i hi;obtain⟨hu1,hu2⟩:=hu
     cases k with
     | zero =>
      simp only[List.getElem?_cons_zero,Option.some.injEq]at hk;subst hk;refine Wp.mono (ih (hu1 i hi)) λe S' h'=>?_
      cases e with
      | normal =>
       cases r with
       | nil=>exact(h':False).elim
       | cons J1 r1=>exact⟨J1,rfl,h'⟩
      | exit id=>exact h'
      | ret=>exact h'
     | succ k =>
      simp only[List.getElem?_cons_succ]at hk;refine Wp.mono (ihl hu2 k J hk i hi) λe S' h'=>?_
      cases e with
      | normal =>
       obtain⟨J',h2,h3⟩:=h';exact⟨J',by simpa using h2,h3⟩
      | exit id=>exact h'
      | ret=>exact h'
   cases l with
   | nil=>exact(h0:False).elim
   | cons J0 r =>
    obtain⟨i0,hi0,hf⟩:=h0;refine Wp.loop (ι:={q:(Σ k:Fin (J0 :: r).length,((J0 :: r).get k).ι) // ((J0 :: r).get q.1).inv q.2}) (λq=>((J0 :: r).get q.1.1).I q.1.2) (λq=>(J0 :: r).length-q.1.1.val) ⟨⟨⟨0,Nat.succ_pos _⟩,i0⟩,hi0⟩ (I0 hf) λq=>?_
    obtain⟨⟨⟨k,hk⟩,i⟩,hi⟩:=q;refine Wp.mono (key _ h1 k _ (List.getElem?_eq_getElem hk) i hi) λe S' h'=>?_
    cases e with
    | normal =>
     obtain⟨J',h2,i',h3,h4⟩:=h';obtain⟨hlt,h5⟩:=List.getElem?_eq_some_iff.1 h2;subst h5;exact⟨⟨⟨⟨k+1,hlt⟩,i'⟩,h3⟩,by show (J0 :: r).length-(k+1)<(J0 :: r).length-k;omega,I0 h4⟩
    | exit id=>exact h'
    | ret=>exact h'
  unfold J9 at h;split at h
  ·split at h
   ·exact h.elim
   ·rename_i J hJ;exact hfam ⟨J,λ_=>[]⟩ h
  ·rename_i l hl;exact hunr l h
  ·rename_i f hf;exact hunr (f S) h
  ·rename_i n hn;exact Wp.iter (λS K=>ih) n S h
  ·rename_i J hJ;exact hfam J h
  ·rename_i l hl
   have:∀ l:List R5,b7T N0 (λB' S' K'=>J9 X N0 A x (a1l B' B) S' K') S K l->Wp P N0 (.loop x) S K:=by
    intro l
    induction l with
    | nil=>intro h;exact(h:False).elim
    | cons J r ihl =>
     intro h;rcases h with h|h
     ·exact hfam J h
     ·exact ihl h
   exact this l h
 | _=>intro B S K h;exact(h:False).elim
theorem a2S(hX:B5 P X){N0:Nat}{A:a7g}{B:Ann}(c:Code){S:St}{K:Xt->St->Prop}(h:N9 X N0 A B c S K):Wp P N0 c S K:=b1s hX c h
end
structure RHC (ι:Type) where
 args:List SV
 heap:A2
 obl:Option Prop
 P:ι->Prop
 out:ι->HC
inductive RRd (ι:Type) where
 | fail
 | ret (hc:RHC ι)
 | read (n:Nm) (k:Ob->RRd ι)
def RRd.run{ι:Type}(rd:Nm->Option Ob):RRd ι->List Nm->Option (List Nm×RHC ι)
 | .fail,_=>none
 | .ret hc,sg=>some (sg,hc)
 | .read n k,sg=>match rd n with
  | some o=>(k o).run rd (sg++[n])
  | none=>none
def RRd.All{ι:Type}(Q:List (Nm×Ob)->RHC ι->Prop):RRd ι->List (Nm×Ob)->Prop
 | .fail,_=>True
 | .ret hc,acc=>Q acc hc
 | .read n k,acc=>∀ o,(k o).All Q (acc++[(n,o)])
theorem RRd.all_run{ι:Type}{rd:Nm->Option Ob}{Q:List (Nm×Ob)->RHC ι->Prop}:∀ {m:RRd ι} {acc:List (Nm×Ob)} {sg:List Nm} {hc:RHC ι},m.All Q acc->(∀ p∈acc,rd p.1=some p.2)->m.run rd (y6 acc)=some (sg,hc)->
  ∃ acc',y6 acc'=sg/\(∀ p∈acc',rd p.1=some p.2)/\Q acc' hc
 | .fail,_,_,_,_,_,h=>by simp[RRd.run]at h
 | .ret hc',acc,sg,hc,hq,hacc,h=>by
  simp only[RRd.run,Option.some.injEq,Prod.mk.injEq]at h;obtain⟨rfl,rfl⟩:=h;exact⟨acc,rfl,hacc,hq⟩
 | .read n k,acc,sg,hc,hq,hacc,h=>by
  simp only[RRd.run]at h;split at h
  ·rename_i o ho;refine RRd.all_run (hq o) (acc:=acc++[(n,o)]) (λp hp=>?_) (by rw[a1A];exact h);rcases List.mem_append.1 hp with hp|hp
   ·exact hacc p hp
   ·simp only[List.mem_singleton]at hp;subst hp;exact ho
  ·cases h
theorem RRd.run_sg{ι:Type}{rd:Nm->Option Ob}:∀ {m:RRd ι} {sg sg':List Nm} {hc:RHC ι},m.run rd sg=some (sg',hc)->∀ n∈sg,n∈sg'
 | .fail,_,_,_,h=>by simp[RRd.run]at h
 | .ret hc',sg,sg',hc,h=>by
  simp only[RRd.run,Option.some.injEq,Prod.mk.injEq]at h;obtain⟨rfl,rfl⟩:=h;exact λn hn=>hn
 | .read n k,sg,sg',hc,h=>by
  simp only[RRd.run]at h;split at h
  ·exact λm hm=>RRd.run_sg h m (List.mem_append_left _ hm)
  ·cases h
theorem RRd.run_loc{ι:Type}{rd rd':Nm->Option Ob}:∀ {m:RRd ι} {sg sg':List Nm} {hc:RHC ι},m.run rd sg=some (sg',hc)->(∀ n∈sg',rd' n=rd n)->m.run rd' sg=some (sg',hc)
 | .fail,_,_,_,h,_=>by simp[RRd.run]at h
 | .ret hc',sg,sg',hc,h,_=>h
 | .read n k,sg,sg',hc,h,hr=>by
  simp only[RRd.run]at h ⊢;split at h
  ·rename_i o ho;have hn:n∈sg':=RRd.run_sg h n (by simp);rw[hr n hn,ho];exact RRd.run_loc h hr
  ·cases h
def q9(ι:Type)(ne:Nonempty ι)(C:List SV->RRd ι):a8E:=⟨ι,ne,λi args rd nm=>match (C args).run rd []with
 | some (sg,hc)=>match R0 sg with
  | true=>some (⟨some ((hc.out i).val.ren (I9 sg nm)),V9 (I9 sg nm) (hc.out i).wr,V9 (I9 sg nm) (hc.out i).news,sg,hc.obl⟩,hc.P i)
  | false=>none
 | none=>none⟩
def a8W{ι:Type}(fn:Func)(args:List SV)(acc:List (Nm×Ob))(hc:RHC ι):Prop :=
 Y2 (a0t acc.length hc.args&&Nat.ble hc.args.length fn.ntmps)
  ((∀ i,(a1B acc.length hc.heap (hc.out i).wr&&(a1u acc.length (hc.out i).news&&b0P (hc.out i).wr hc.heap))=true)/\p9 (y5 (y6 acc)) args hc.args/\b9y (y5 (y6 acc)) acc.length 0 acc hc.heap)
theorem R6 {P:Program} {X:F7} (hX:B5 P X) {f:Nat} {fn:Func} (hf:P.funcs[f]? = some fn) (hb:fn.body.isNone=false) (hnm:(fn.name == "runtime.NumGoroutine")=false) {ι:Type} {ne:Nonempty ι} {C:List SV->RRd ι}
  (h:∀ args,(C args).All (λacc hc=>okP hc.obl->a8W fn args acc hc/\
   ∃ A B,N9 X acc.length A B (j9 fn) (z6 fn.ntmps hc.args hc.heap acc.length) (z8 X.G.E.T fn.results.toList λS v=>∃ i,hc.P i/\A9 acc.length (hc.out i) S v)) []):A1 P f (q9 ι ne C) where
 loc:=by
  intro i args rd rd' nm e p hc hr;simp only[q9]at hc ⊢;split at hc
  ·rename_i sg hc0 hrun;split at hc
   ·rename_i hd;have he:=hc;simp only[Option.some.injEq,Prod.mk.injEq]at he;obtain⟨rfl,_⟩:=he;simp only[RRd.run_loc hrun hr,hd];exact hc
   ·cases hc
  ·cases hc
 calls:=by
  intro W0 Fr U H ρ w nm args hH hbd hn hall;obtain⟨i0⟩:=ne;obtain⟨e0,p0,h0,ho⟩:=hall i0;simp only[q9]at h0;split at h0
  case h_2=>cases h0
  rename_i sg hc hrun;split at h0
  case h_2=>cases h0
  rename_i hd;simp only[Option.some.injEq,Prod.mk.injEq]at h0;obtain⟨rfl,rfl⟩:=h0;obtain⟨acc,hacc,hlook,hQ⟩:=RRd.all_run (rd:=look H) (h args) (acc:=[]) (by simp) hrun;obtain⟨h1,A,B,h2⟩:=hQ ho;obtain⟨h3,h4,h5,h6⟩:=F4 h1;simp only[Bool.and_eq_true]at h3;subst hacc
  refine(a3A hX.G hf (O5 hb) hnm hH hn hlook hd h5 h3.1 h3.2 (W4 h6) (I:=ι) (post:=hc.P) (out:=hc.out) (λi _=>by
   have:=h4 i;simp only[Bool.and_eq_true]at this
   exact⟨this.1,this.2.1,this.2.2⟩) (Wp.mono (a2S hX _ h2) λe S' hk'=>W8 (λ_ _ ⟨i,hi,hp⟩=>⟨i,hi,a0E hp⟩) hk')).mono ?_
  rintro en w' ⟨i,hi,ρ2,h7,h8,v,h9,h10,h11⟩
  exact⟨i,⟨some ((hc.out i).val.ren (I9 (y6 acc) nm)),V9 (I9 (y6 acc) nm) (hc.out i).wr,V9 (I9 (y6 acc) nm) (hc.out i).news,y6 acc,hc.obl⟩,hc.P i,
   by simp only[q9,hrun,hd],hi,ρ2,h7,h8,v,h9,h10,h11⟩
end Go.Sx

namespace Go.Sx
open Go.RowKit
def b8h(ts:List Nat):Ob:=⟨true,0, .raw ts (λ_=>False) (λ_=>0) (λ_ _=>.bool false),0⟩
def St.addRaw(S:St)(ts:List Nat):St:={nt:=S.nt,sl:=S.sl,H:=(S.N,b8h ts) :: S.H,N:=S.N+1}
theorem B6.addRaw{N0:Nat}{S:St}(ts:List Nat)(h:N0<=S.N):B6 N0 S (S.addRaw ts):=by
 refine⟨Nat.le_succ_of_le h,λW0 Fr ρ a w hS=>⟨λn=>if n=S.N then none else ρ n,⟨?_,?_⟩,λn hn=>if_neg (Nat.ne_of_lt (Nat.lt_of_lt_of_le hn h))⟩⟩
 ·have hag:∀ n,n<S.N->(if n=S.N then none else ρ n)=ρ n:=λn hn=>if_neg (Nat.ne_of_lt hn)
  have hne:∀ {m:Nm} {o:Ob},look S.H m=some o->m<S.N:=λhm=>hS.h.used _ _ hm
  refine {
   os:=hS.h.os,tape:=hS.h.tape,output:=hS.h.output,size:=hS.h.size,frlt:=hS.h.frlt,frame:=hS.h.frame
   used:=λm o hm=>?_
   bd:=λm o hm=>?_
   obj:=λm o hm=>?_
   inj:=λm1 m2 o1 o2 p q h1 h2 hne' hr1 hr2 hp hq=>?_
   free:=λm o p hm hr hp=>?_
   rawd:=λm o ts' D sz F hm hr hc=>?_}
  ·simp only[St.addRaw,g9]at hm;split at hm
   ·rename_i e;subst e;exact Nat.lt_succ_self _
   ·exact Nat.lt_succ_of_lt (hne hm)
  ·simp only[St.addRaw,g9]at hm;split at hm
   ·cases hm;intro j hj;exact absurd hj (Nat.not_lt_zero j)
   ·exact b9.bd_mono (λn hn=>Nat.lt_succ_of_lt hn) (hS.h.bd m o hm)
  ·simp only[St.addRaw,g9]at hm;split at hm
   ·rename_i e;subst e;cases hm;rw[if_pos rfl];rfl
   ·have hlt:=hne hm;show Y9 w _ o (if m=S.N then none else ρ m);rw[hag m hlt];exact(hS.h.obj m o hm).congr (λ_ _ _ _ _ _=>rfl) (λj hj=>SV.den_congr (U:=(·< S.N)) hag _ (hS.h.bd m o hm j hj))
  ·simp only[St.addRaw,g9]at h1 h2;split at h1
   ·rename_i e;subst e;rw[if_pos rfl]at hp;cases hp
   ·split at h2
    ·rename_i e;subst e;rw[if_pos rfl]at hq;cases hq
    ·rw[hag m1 (hne h1)]at hp;rw[hag m2 (hne h2)]at hq;exact hS.h.inj m1 m2 o1 o2 p q h1 h2 hne' hr1 hr2 hp hq
  ·simp only[St.addRaw,g9]at hm;split at hm
   ·rename_i e;subst e;rw[if_pos rfl]at hp;cases hp
   ·rw[hag m (hne hm)]at hp;exact hS.h.free m o p hm hr hp
  ·simp only[St.addRaw,g9]at hm;split at hm
   ·cases hm;simp only[b8h,b9.raw.injEq]at hc;obtain⟨rfl,rfl,rfl,rfl⟩:=hc;exact⟨λb hb=>hb.elim,λb hb=>hb.elim,λ_ _ _ _ _ _ _=>id,λ_ _ _ _ _ _ _ _ _ _ b hb=>hb.elim⟩
   ·have k:=hS.h.rawd m o ts' D sz F hm hr hc;refine⟨k.sat,k.free,λm' o' q hm' hne' hr' hq=>?_,λm' o' ts2 D2 sz2 F2 hm' hne' hr' hc'=>?_⟩
    ·simp only[St.addRaw,g9]at hm';split at hm'
     ·rename_i e;subst e;rw[if_pos rfl]at hq;cases hq
     ·rw[hag m' (hne hm')]at hq;exact k.sep m' o' q hm' hne' hr' hq
    ·simp only[St.addRaw,g9]at hm';split at hm'
     ·cases hm';simp only[b8h,b9.raw.injEq]at hc';obtain⟨rfl,rfl,rfl,rfl⟩:=hc';exact λb _=>id
     ·exact k.sepr m' o' ts2 D2 sz2 F2 hm' hne' hr' hc'
 ·exact hS.s.mono (λn hn=>Nat.lt_succ_of_lt hn) (λn hn=>if_neg (Nat.ne_of_lt hn))
theorem Wp.addRaw{P:Program}{N0:Nat}{c:Code}{S:St}{K:Xt->St->Prop}(ts:List Nat)(h:N0<=S.N)(hw:Wp P N0 c (S.addRaw ts) K):Wp P N0 c S K:=Wp.refines' (B6.addRaw ts h) hw
theorem b1o {P:Program} {X:F7} (hX:B5 P X) {f:Nat} {fn:Func} (hf:P.funcs[f]? = some fn) (hb:fn.body.isNone=false) (hnm:(fn.name == "runtime.NumGoroutine")=false) {ι:Type} {ne:Nonempty ι} {C:List SV->RRd ι} (ts:List Nat)
  (h:∀ args,(C args).All (λacc hc=>okP hc.obl->a8W fn args acc hc/\
   ∃ A B,N9 X acc.length A B (j9 fn) ((z6 fn.ntmps hc.args hc.heap acc.length).addRaw ts) (z8 X.G.E.T fn.results.toList λS v=>∃ i,hc.P i/\A9 acc.length (hc.out i) S v)) []):A1 P f (q9 ι ne C) where
 loc:=by
  intro i args rd rd' nm e p hc hr;simp only[q9]at hc ⊢;split at hc
  ·rename_i sg hc0 hrun;split at hc
   ·rename_i hd;have he:=hc;simp only[Option.some.injEq,Prod.mk.injEq]at he;obtain⟨rfl,_⟩:=he;simp only[RRd.run_loc hrun hr,hd];exact hc
   ·cases hc
  ·cases hc
 calls:=by
  intro W0 Fr U H ρ w nm args hH hbd hn hall;obtain⟨i0⟩:=ne;obtain⟨e0,p0,h0,ho⟩:=hall i0;simp only[q9]at h0;split at h0
  case h_2=>cases h0
  rename_i sg hc hrun;split at h0
  case h_2=>cases h0
  rename_i hd;simp only[Option.some.injEq,Prod.mk.injEq]at h0;obtain⟨rfl,rfl⟩:=h0;obtain⟨acc,hacc,hlook,hQ⟩:=RRd.all_run (rd:=look H) (h args) (acc:=[]) (by simp) hrun;obtain⟨h1,A,B,h2⟩:=hQ ho;obtain⟨h3,h4,h5,h6⟩:=F4 h1;simp only[Bool.and_eq_true]at h3;subst hacc
  refine(a3A hX.G hf (O5 hb) hnm hH hn hlook hd h5 h3.1 h3.2 (W4 h6) (I:=ι) (post:=hc.P) (out:=hc.out) (λi _=>by
   have:=h4 i;simp only[Bool.and_eq_true]at this
   exact⟨this.1,this.2.1,this.2.2⟩) (Wp.mono (Wp.addRaw ts (Nat.le_refl _) (a2S hX _ h2)) λe S' hk'=>W8 (λ_ _ ⟨i,hi,hp⟩=>⟨i,hi,a0E hp⟩) hk')).mono ?_
  rintro en w' ⟨i,hi,ρ2,h7,h8,v,h9,h10,h11⟩
  exact⟨i,⟨some ((hc.out i).val.ren (I9 (y6 acc) nm)),V9 (I9 (y6 acc) nm) (hc.out i).wr,V9 (I9 (y6 acc) nm) (hc.out i).news,y6 acc,hc.obl⟩,hc.P i,
   by simp only[q9,hrun,hd],hi,ρ2,h7,h8,v,h9,h10,h11⟩
end Go.Sx

namespace Go.Sx
open Go.RowKit
theorem a7N{k:Nat}{tau:List (Option Nm)}{n:Nat}(h:n<k):K7 k tau n=some n:=by
 unfold K7;rw[show Nat.blt n k=true from Nat.ble_eq_true_of_le h]
theorem a0y.one{k n:Nat}{hc:HC}{S:St}{v:SV}{o o':Ob}(hn:n<k)(hw:hc.wr=[(n,o')])(hnews:hc.news=[])(hl:look S.H n=some o)(hu:o'.c.und (k+24))(ho:obR (K7 k []) o o')(hv:y7 (K7 k []) v hc.val)(hvu:hc.val.und (k+24)=true):a0y k hc S v [] where
 val:=hv
 vu:=hvu
 hp:=by
  rw[hw,hnews];refine⟨⟨Nat.ble_eq_true_of_le (by omega),hu,?_⟩,trivial⟩;rw[a7N hn];simp only[hl];exact ho
 dist:=by
  rw[hw,hnews];show R0 (match o'.gone with|true=>[]|false=>(match K7 k [] n with|some m=>[m]|none=>[]))=true;rw[a7N hn];cases o'.gone <;> rfl
theorem b3i{σ:Sig}{el es:Nat}{ts D sz F}:obR σ ⟨true,el, .raw ts D sz F,es⟩ ⟨true,el, .raw ts D sz F,es⟩:=⟨rfl,rfl,rfl,rfl,rfl,rfl⟩
end Go.Sx

namespace Go.Sx
open Go.RowKit
structure RM where
 D:Nat->Prop
 S:Nat->Nat
 F:Nat->Nat->Value
instance:Inhabited RM:=⟨⟨λ_=>False,λ_=>0,λ_ _=>.bool false⟩⟩
def rwO(ts:List Nat)(q:RM):Ob:=⟨true,0, .raw ts q.D q.S q.F,0⟩
def I2:Ob->Option (List Nat×RM)
 | ⟨true,0, .raw ts D sz F,0⟩=>some (ts,⟨D,sz,F⟩)
 | _=>none
theorem b2H{o:Ob}{ts:List Nat}{q:RM}(h:I2 o=some (ts,q)):o=rwO ts q:=by
 unfold I2 at h;split at h
 ·simp only[Option.some.injEq,Prod.mk.injEq]at h;obtain⟨rfl,rfl⟩:=h;rfl
 ·cases h
theorem C0{σ:Sig}{o:Ob}{ts:List Nat}{q:RM}(h:I2 o=some (ts,q)):obR σ o (rwO ts q):=by
 rw[b2H h];exact b3i
def I4{ι:Type}(k:Nat)(ts:List Nat)(P:ι->Prop)(q:ι->RM)(val:ι->SV)(o:Option Ob)(v:SV):Prop :=
 ∃ i,P i/\o=some (rwO ts (q i))/\y7 (K7 k []) v (val i)
theorem a1p {P:Program} {X:F7} (hX:B5 P X) {f:Nat} {fn:Func} (hf:P.funcs[f]? = some fn) (hb:fn.body.isNone=false) (hnm:(fn.name == "runtime.NumGoroutine")=false) {ι:Type} {ne:Nonempty ι} {C:List SV->RRd ι}
  (h:∀ args,(C args).All (λacc hc=>okP hc.obl->a8W fn args acc hc/\
   Wp P acc.length (j9 fn) (z6 fn.ntmps hc.args hc.heap acc.length) (z8 X.G.E.T fn.results.toList λS v=>∃ i,hc.P i/\∃ tau,a0y acc.length (hc.out i) S v tau)) []):A1 P f (q9 ι ne C) where
 loc:=by
  intro i args rd rd' nm e p hc hr;simp only[q9]at hc ⊢;split at hc
  ·rename_i sg hc0 hrun;split at hc
   ·rename_i hd;have he:=hc;simp only[Option.some.injEq,Prod.mk.injEq]at he;obtain⟨rfl,_⟩:=he;simp only[RRd.run_loc hrun hr,hd];exact hc
   ·cases hc
  ·cases hc
 calls:=by
  intro W0 Fr U H ρ w nm args hH hbd hn hall;obtain⟨i0⟩:=ne;obtain⟨e0,p0,h0,ho⟩:=hall i0;simp only[q9]at h0;split at h0
  case h_2=>cases h0
  rename_i sg hc hrun;split at h0
  case h_2=>cases h0
  rename_i hd;simp only[Option.some.injEq,Prod.mk.injEq]at h0;obtain⟨rfl,rfl⟩:=h0;obtain⟨acc,hacc,hlook,hQ⟩:=RRd.all_run (rd:=look H) (h args) (acc:=[]) (by simp) hrun;obtain⟨h1,h2⟩:=hQ ho;obtain⟨h3,h4,h5,h6⟩:=F4 h1;simp only[Bool.and_eq_true]at h3;subst hacc
  refine(a3A hX.G hf (O5 hb) hnm hH hn hlook hd h5 h3.1 h3.2 (W4 h6) (I:=ι) (post:=hc.P) (out:=hc.out) (λi _=>by
   have:=h4 i;simp only[Bool.and_eq_true]at this
   exact⟨this.1,this.2.1,this.2.2⟩) h2).mono ?_
  rintro en w' ⟨i,hi,ρ2,h7,h8,v,h9,h10,h11⟩
  exact⟨i,⟨some ((hc.out i).val.ren (I9 (y6 acc) nm)),V9 (I9 (y6 acc) nm) (hc.out i).wr,V9 (I9 (y6 acc) nm) (hc.out i).news,y6 acc,hc.obl⟩,hc.P i,
   by simp only[q9,hrun,hd],hi,ρ2,h7,h8,v,h9,h10,h11⟩
theorem D8 {P:Program} {X:F7} (hX:B5 P X) {f:Nat} {fn:Func} (hf:P.funcs[f]? = some fn) (hb:fn.body.isNone=false) (hnm:(fn.name == "runtime.NumGoroutine")=false) {ι:Type} {ne:Nonempty ι} {C:List SV->RRd ι}
  (h:∀ args,(C args).All (λacc hc=>okP hc.obl->a8W fn args acc hc/\0<acc.length/\
   ∃ ts q val,(∀ i,hc.out i=⟨[],[],val i,[(0,rwO ts (q i))],[],none⟩)/\(∀ i,hc.P i->(val i).und (acc.length+24)=true)/\
   ∃ A B,N9 X acc.length A B (j9 fn) (z6 fn.ntmps hc.args hc.heap acc.length) (z8 X.G.E.T fn.results.toList λS v=>I4 acc.length ts hc.P q val (look S.H 0) v)) []):A1 P f (q9 ι ne C):=by
 refine a1p hX hf hb hnm λargs=>?_
 have mono:∀ {Q Q':List (Nm×Ob)->RHC ι->Prop} (hq:∀ acc hc,Q acc hc->Q' acc hc) {m:RRd ι} {acc:List (Nm×Ob)},m.All Q acc->m.All Q' acc:=by
  intro Q Q' hq m
  induction m with
  | fail=>intro acc h;trivial
  | ret hc=>intro acc h;exact hq _ _ h
  | read n k ih=>intro acc h o;exact ih o (h o)
 refine mono (λacc hc hh ho=>?_) (h args);obtain⟨h1,h0,ts,q,val,ho1,hu,A,B,h2⟩:=hh ho;refine⟨h1,Wp.mono (a2S hX _ h2) λe S' hk'=>W8 (λS v hq=>?_) hk'⟩;obtain⟨i,hi,hl,hv⟩:=hq;refine⟨i,hi,[],?_⟩;rw[ho1 i];exact a0y.one (n:=0) (o:=rwO ts (q i)) (o':=rwO ts (q i)) h0 rfl rfl hl trivial b3i hv (hu i hi)
end Go.Sx

namespace Go.Proofs.Tryz.Sx
open Go Go.Sx Go.Proofs
set_option maxRecDepth 100000
def ty2:TI:=⟨.int .i64,1,8, .cells [.int .i64 0],[]⟩
theorem ok2:TOk Tryz.prog 2 ty2:=by refine TOk.mk' ?_ ?_ ?_ ?_ ?_ p7 ?_<;>kernel_rfl
def ty3:TI:=⟨.int .i64,1,8, .cells [.int .i64 0],[]⟩
theorem ok3:TOk Tryz.prog 3 ty3:=by refine TOk.mk' ?_ ?_ ?_ ?_ ?_ p7 ?_<;>kernel_rfl
def ty4:TI:=⟨.bool,1,1, .cells [.ff],[]⟩
theorem ok4:TOk Tryz.prog 4 ty4:=by refine TOk.mk' ?_ ?_ ?_ ?_ ?_ p7 ?_<;>kernel_rfl
def ty5:TI:=⟨.int .u8,1,1, .cells [.int .u8 0],[]⟩
theorem ok5:TOk Tryz.prog 5 ty5:=by refine TOk.mk' ?_ ?_ ?_ ?_ ?_ p7 ?_<;>kernel_rfl
def ty6:TI:=⟨.int .u8,1,1, .cells [.int .u8 0],[]⟩
theorem ok6:TOk Tryz.prog 6 ty6:=by refine TOk.mk' ?_ ?_ ?_ ?_ ?_ p7 ?_<;>kernel_rfl
def ty7:TI:=⟨.struct [(0,2),(1,3),(2,4),(3,6)],4,24, .cells [.int .i64 0, .int .i64 0, .ff, .int .u8 0],[]⟩
theorem ok7:TOk Tryz.prog 7 ty7:=by refine TOk.mk' ?_ ?_ ?_ ?_ ?_ p7 ?_<;>kernel_rfl
def ty8:TI:=⟨.struct [(0,2),(1,3),(2,4),(3,6)],4,24, .cells [.int .i64 0, .int .i64 0, .ff, .int .u8 0],[]⟩
theorem ok8:TOk Tryz.prog 8 ty8:=by refine TOk.mk' ?_ ?_ ?_ ?_ ?_ p7 ?_<;>kernel_rfl
def ty9:TI:=⟨.str,1,16, .cells [.str ⟨#[]⟩],[]⟩
theorem ok9:TOk Tryz.prog 9 ty9:=by refine TOk.mk' ?_ ?_ ?_ ?_ ?_ p7 ?_<;>kernel_rfl
def c7D:TI:=⟨.str,1,16, .cells [.str ⟨#[]⟩],[]⟩
theorem c9t:TOk Tryz.prog 10 c7D:=by refine TOk.mk' ?_ ?_ ?_ ?_ ?_ p7 ?_<;>kernel_rfl
def c7q:TI:=⟨.str,1,16, .cells [.str ⟨#[]⟩],[]⟩
theorem c9S:TOk Tryz.prog 11 c7q:=by refine TOk.mk' ?_ ?_ ?_ ?_ ?_ p7 ?_<;>kernel_rfl
def c4U:TI:=⟨.int .u64,1,8, .cells [.int .u64 0],[]⟩
theorem c9d:TOk Tryz.prog 12 c4U:=by refine TOk.mk' ?_ ?_ ?_ ?_ ?_ p7 ?_<;>kernel_rfl
def c5Z:TI:=⟨.struct [(0,9),(1,12)],2,24, .cells [.str ⟨#[]⟩, .int .u64 0],[]⟩
theorem c9U:TOk Tryz.prog 13 c5Z:=by refine TOk.mk' ?_ ?_ ?_ ?_ ?_ p7 ?_<;>kernel_rfl
def c7m:TI:=⟨.struct [(0,9),(1,12)],2,24, .cells [.str ⟨#[]⟩, .int .u64 0],[]⟩
theorem c8Q:TOk Tryz.prog 14 c7m:=by refine TOk.mk' ?_ ?_ ?_ ?_ ?_ p7 ?_<;>kernel_rfl
def c6i:TI:=⟨.ptr 225,1,8, .cells [.nilp],[]⟩
theorem c9q:TOk Tryz.prog 15 c6i:=by refine TOk.mk' ?_ ?_ ?_ ?_ ?_ p7 ?_<;>kernel_rfl
def c7M:TI:=⟨.ptr 228,1,8, .cells [.nilp],[]⟩
theorem c9F:TOk Tryz.prog 16 c7M:=by refine TOk.mk' ?_ ?_ ?_ ?_ ?_ p7 ?_<;>kernel_rfl
def c7c:TI:=⟨.ptr 236,1,8, .cells [.nilp],[]⟩
theorem c9i:TOk Tryz.prog 17 c7c:=by refine TOk.mk' ?_ ?_ ?_ ?_ ?_ p7 ?_<;>kernel_rfl
def c7A:TI:=⟨.struct [(0,17)],1,8, .cells [.nilp],[]⟩
theorem c8B:TOk Tryz.prog 18 c7A:=by refine TOk.mk' ?_ ?_ ?_ ?_ ?_ p7 ?_<;>kernel_rfl
def c6v:TI:=⟨.struct [(0,17)],1,8, .cells [.nilp],[]⟩
theorem c9x:TOk Tryz.prog 19 c6v:=by refine TOk.mk' ?_ ?_ ?_ ?_ ?_ p7 ?_<;>kernel_rfl
def c6k:TI:=⟨.iface,1,16, .cells [.nili],[]⟩
theorem c9o:TOk Tryz.prog 20 c6k:=by refine TOk.mk' ?_ ?_ ?_ ?_ ?_ p7 ?_<;>kernel_rfl
def c5y:TI:=⟨.int .i32,1,4, .cells [.int .i32 0],[]⟩
theorem c9c:TOk Tryz.prog 21 c5y:=by refine TOk.mk' ?_ ?_ ?_ ?_ ?_ p7 ?_<;>kernel_rfl
def c7S:TI:=⟨.struct [(0,2),(1,2)],2,16, .cells [.int .i64 0, .int .i64 0],[]⟩
theorem c8C:TOk Tryz.prog 22 c7S:=by refine TOk.mk' ?_ ?_ ?_ ?_ ?_ p7 ?_<;>kernel_rfl
def c7w:TI:=⟨.struct [(0,2),(1,2)],2,16, .cells [.int .i64 0, .int .i64 0],[]⟩
theorem c9M:TOk Tryz.prog 23 c7w:=by refine TOk.mk' ?_ ?_ ?_ ?_ ?_ p7 ?_<;>kernel_rfl
def c5l:TI:=⟨.array 2 23,4,32, .cells [.int .i64 0, .int .i64 0, .int .i64 0, .int .i64 0],[]⟩
theorem c8R:TOk Tryz.prog 24 c5l:=by refine TOk.mk' ?_ ?_ ?_ ?_ ?_ p7 ?_<;>kernel_rfl
def c5R:TI:=⟨.slice 23,1,24, .cells [.nils],[]⟩
theorem c9n:TOk Tryz.prog 25 c5R:=by refine TOk.mk' ?_ ?_ ?_ ?_ ?_ p7 ?_<;>kernel_rfl
def c6N:TI:=⟨.slice 28,1,24, .cells [.nils],[]⟩
theorem c9R:TOk Tryz.prog 26 c6N:=by refine TOk.mk' ?_ ?_ ?_ ?_ ?_ p7 ?_<;>kernel_rfl
def c8s:TI:=⟨.struct [(0,2),(1,2)],2,16, .cells [.int .i64 0, .int .i64 0],[]⟩
theorem c9N:TOk Tryz.prog 28 c8s:=by refine TOk.mk' ?_ ?_ ?_ ?_ ?_ p7 ?_<;>kernel_rfl
def c6f:TI:=⟨.array 2 28,4,32, .cells [.int .i64 0, .int .i64 0, .int .i64 0, .int .i64 0],[]⟩
theorem c8T:TOk Tryz.prog 29 c6f:=by refine TOk.mk' ?_ ?_ ?_ ?_ ?_ p7 ?_<;>kernel_rfl
def c5t:TI:=⟨.slice 25,1,24, .cells [.nils],[]⟩
theorem c9h:TOk Tryz.prog 37 c5t:=by refine TOk.mk' ?_ ?_ ?_ ?_ ?_ p7 ?_<;>kernel_rfl
def c7N:TI:=⟨.struct [(0,2),(1,25),(2,37)],3,56, .cells [.int .i64 0, .nils, .nils],[]⟩
theorem c9a:TOk Tryz.prog 38 c7N:=by refine TOk.mk' ?_ ?_ ?_ ?_ ?_ p7 ?_<;>kernel_rfl
def c6s:TI:=⟨.struct [(0,2),(1,25),(2,37)],3,56, .cells [.int .i64 0, .nils, .nils],[]⟩
theorem c9Z:TOk Tryz.prog 39 c6s:=by refine TOk.mk' ?_ ?_ ?_ ?_ ?_ p7 ?_<;>kernel_rfl
def c6C:TI:=⟨.struct [(0,25),(1,4),(2,2),(3,2),(4,2),(5,24)],9,88, .cells [.nils, .ff, .int .i64 0, .int .i64 0, .int .i64 0, .int .i64 0, .int .i64 0, .int .i64 0, .int .i64 0],[]⟩
theorem c8I:TOk Tryz.prog 47 c6C:=by refine TOk.mk' ?_ ?_ ?_ ?_ ?_ p7 ?_<;>kernel_rfl
def c7J:TI:=⟨.struct [(0,25),(1,4),(2,2),(3,2),(4,2),(5,24)],9,88, .cells [.nils, .ff, .int .i64 0, .int .i64 0, .int .i64 0, .int .i64 0, .int .i64 0, .int .i64 0, .int .i64 0],[]⟩
theorem c9w:TOk Tryz.prog 48 c7J:=by refine TOk.mk' ?_ ?_ ?_ ?_ ?_ p7 ?_<;>kernel_rfl
def c5o:TI:=⟨.slice 2,1,24, .cells [.nils],[]⟩
theorem c9g:TOk Tryz.prog 50 c5o:=by refine TOk.mk' ?_ ?_ ?_ ?_ ?_ p7 ?_<;>kernel_rfl
def c5O:TI:=⟨.slice 29,1,24, .cells [.nils],[]⟩
theorem c8w:TOk Tryz.prog 51 c5O:=by refine TOk.mk' ?_ ?_ ?_ ?_ ?_ p7 ?_<;>kernel_rfl
def c7y:TI:=⟨.slice 26,1,24, .cells [.nils],[]⟩
theorem c9Y:TOk Tryz.prog 68 c7y:=by refine TOk.mk' ?_ ?_ ?_ ?_ ?_ p7 ?_<;>kernel_rfl
def c5X:TI:=⟨.struct [(0,26),(1,68)],2,48, .cells [.nils, .nils],[]⟩
theorem c9T:TOk Tryz.prog 69 c5X:=by refine TOk.mk' ?_ ?_ ?_ ?_ ?_ p7 ?_<;>kernel_rfl
def c6W:TI:=⟨.struct [(0,26),(1,68)],2,48, .cells [.nils, .nils],[]⟩
theorem c9k:TOk Tryz.prog 70 c6W:=by refine TOk.mk' ?_ ?_ ?_ ?_ ?_ p7 ?_<;>kernel_rfl
def c6Z:TI:=⟨.struct [(0,39),(3,29)],7,88, .cells [.int .i64 0, .nils, .nils, .int .i64 0, .int .i64 0, .int .i64 0, .int .i64 0],[]⟩
theorem c8Z:TOk Tryz.prog 75 c6Z:=by refine TOk.mk' ?_ ?_ ?_ ?_ ?_ p7 ?_<;>kernel_rfl
def c7s:TI:=⟨.slice 75,1,24, .cells [.nils],[]⟩
theorem c8u:TOk Tryz.prog 76 c7s:=by refine TOk.mk' ?_ ?_ ?_ ?_ ?_ p7 ?_<;>kernel_rfl
def c4W:TI:=⟨.slice 39,1,24, .cells [.nils],[]⟩
theorem c8Y:TOk Tryz.prog 79 c4W:=by refine TOk.mk' ?_ ?_ ?_ ?_ ?_ p7 ?_<;>kernel_rfl
def c5m:TI:=⟨.iface,1,16, .cells [.nili],[]⟩
theorem c8z:TOk Tryz.prog 92 c5m:=by refine TOk.mk' ?_ ?_ ?_ ?_ ?_ p7 ?_<;>kernel_rfl
def c4Z:TI:=⟨.iface,1,16, .cells [.nili],[]⟩
theorem c9I:TOk Tryz.prog 93 c4Z:=by refine TOk.mk' ?_ ?_ ?_ ?_ ?_ p7 ?_<;>kernel_rfl
def c7C:TI:=⟨.ptr 148,1,8, .cells [.nilp],[]⟩
theorem c9E:TOk Tryz.prog 95 c7C:=by refine TOk.mk' ?_ ?_ ?_ ?_ ?_ p7 ?_<;>kernel_rfl
def c6M:TI:=⟨.flt .f64,1,8, .cells [.flt .f64 0],[]⟩
theorem c9C:TOk Tryz.prog 98 c6M:=by refine TOk.mk' ?_ ?_ ?_ ?_ ?_ p7 ?_<;>kernel_rfl
def c7t:TI:=⟨.struct [(0,98),(1,98)],2,16, .cells [.flt .f64 0, .flt .f64 0],[]⟩
theorem c9H:TOk Tryz.prog 99 c7t:=by refine TOk.mk' ?_ ?_ ?_ ?_ ?_ p7 ?_<;>kernel_rfl
def c2c:TI:=⟨.struct [(0,98),(1,98)],2,16, .cells [.flt .f64 0, .flt .f64 0],[⟨ "ContainsLine",152,none⟩,⟨ "ContainsPoint",153,none⟩,⟨ "ContainsPoly",154,none⟩,⟨ "ContainsRect",155,none⟩,⟨ "Empty",156,none⟩,⟨ "IntersectsLine",157,none⟩,⟨ "IntersectsPoint",158,none⟩,⟨ "IntersectsPoly",159,none⟩,⟨ "IntersectsRect",160,none⟩,⟨ "Move",81,none⟩,⟨ "Rect",161,none⟩,⟨ "Valid",162,none⟩]⟩
theorem c7b:TOk Tryz.prog 100 c2c:=by refine TOk.mk' ?_ ?_ ?_ ?_ ?_ (l9 (MOk.of_chk ?_) (l9 (MOk.of_chk ?_) (l9 (MOk.of_chk ?_) (l9 (MOk.of_chk ?_) (l9 (MOk.of_chk ?_) (l9 (MOk.of_chk ?_) (l9 (MOk.of_chk ?_) (l9 (MOk.of_chk ?_) (l9 (MOk.of_chk ?_) (l9 (MOk.of_chk ?_) (l9 (MOk.of_chk ?_) (l9 (MOk.of_chk ?_) p7)))))))))))) ?_<;>kernel_rfl
def c1e:TI:=⟨.struct [(0,100),(2,100)],4,32, .cells [.flt .f64 0, .flt .f64 0, .flt .f64 0, .flt .f64 0],[]⟩
theorem c5r:TOk Tryz.prog 101 c1e:=by refine TOk.mk' ?_ ?_ ?_ ?_ ?_ p7 ?_<;>kernel_rfl
def c1i:TI:=⟨.struct [(0,100),(2,100)],4,32, .cells [.flt .f64 0, .flt .f64 0, .flt .f64 0, .flt .f64 0],[⟨ "Area",188,none⟩,⟨ "Clockwise",249,none⟩,⟨ "ContainsLine",189,none⟩,⟨ "ContainsPoint",169,none⟩,⟨ "ContainsPoly",190,none⟩,⟨ "ContainsRect",191,none⟩,⟨ "Convex",250,none⟩,⟨ "Empty",192,none⟩,⟨ "Index",251,none⟩,⟨ "IntersectsLine",193,none⟩,⟨ "IntersectsPoint",194,none⟩,⟨ "IntersectsPoly",195,none⟩,⟨ "IntersectsRect",175,none⟩,⟨ "Move",82,none⟩,⟨ "NumPoints",196,none⟩,⟨ "NumSegments",203,none⟩,⟨ "PointAt",197,none⟩,⟨ "Rect",198,none⟩,⟨ "Search",199,none⟩,⟨ "SegmentAt",204,none⟩,⟨ "Valid",200,none⟩]⟩
theorem c7W:TOk Tryz.prog 102 c1i:=by refine TOk.mk' ?_ ?_ ?_ ?_ ?_ (l9 (MOk.of_chk ?_) (l9 (MOk.of_chk ?_) (l9 (MOk.of_chk ?_) (l9 (MOk.of_chk ?_) (l9 (MOk.of_chk ?_) (l9 (MOk.of_chk ?_) (l9 (MOk.of_chk ?_) (l9 (MOk.of_chk ?_) (l9 (MOk.of_chk ?_) (l9 (MOk.of_chk ?_) (l9 (MOk.of_chk ?_) (l9 (MOk.of_chk ?_) (l9 (MOk.of_chk ?_) (l9 (MOk.of_chk ?_) (l9 (MOk.of_chk ?_) (l9 (MOk.of_chk ?_) (l9 (MOk.of_chk ?_) (l9 (MOk.of_chk ?_) (l9 (MOk.of_chk ?_) (l9 (MOk.of_chk ?_) (l9 (MOk.of_chk ?_) p7))))))))))))))))))))) ?_<;>kernel_rfl
def c2M:TI:=⟨.iface,1,16, .cells [.nili],[]⟩
theorem c5j:TOk Tryz.prog 105 c2M:=by refine TOk.mk' ?_ ?_ ?_ ?_ ?_ p7 ?_<;>kernel_rfl
def c0Y:TI:=⟨.iface,1,16, .cells [.nili],[]⟩
theorem c6n:TOk Tryz.prog 106 c0Y:=by refine TOk.mk' ?_ ?_ ?_ ?_ ?_ p7 ?_<;>kernel_rfl
def c1k:TI:=⟨.struct [(0,100),(2,100)],4,32, .cells [.flt .f64 0, .flt .f64 0, .flt .f64 0, .flt .f64 0],[]⟩
theorem c6g:TOk Tryz.prog 110 c1k:=by refine TOk.mk' ?_ ?_ ?_ ?_ ?_ p7 ?_<;>kernel_rfl
def c1d:TI:=⟨.struct [(0,100),(2,100)],4,32, .cells [.flt .f64 0, .flt .f64 0, .flt .f64 0, .flt .f64 0],[]⟩
theorem c6O:TOk Tryz.prog 111 c1d:=by refine TOk.mk' ?_ ?_ ?_ ?_ ?_ p7 ?_<;>kernel_rfl
def c1D:TI:=⟨.ptr 152,1,8, .cells [.nilp],[⟨ "Clockwise",222,some 0⟩,⟨ "ContainsLine",223,none⟩,⟨ "ContainsPoint",170,none⟩,⟨ "ContainsPoly",224,none⟩,⟨ "ContainsRect",225,none⟩,⟨ "Convex",226,some 0⟩,⟨ "Empty",163,some 0⟩,⟨ "Index",105,some 0⟩,⟨ "IntersectsLine",227,none⟩,⟨ "IntersectsPoint",167,none⟩,⟨ "IntersectsPoly",228,none⟩,⟨ "IntersectsRect",229,none⟩,⟨ "Move",84,none⟩,⟨ "NumPoints",205,some 0⟩,⟨ "NumSegments",111,some 0⟩,⟨ "PointAt",206,some 0⟩,⟨ "Rect",164,some 0⟩,⟨ "Search",172,some 0⟩,⟨ "SegmentAt",112,some 0⟩,⟨ "Valid",230,none⟩]⟩
theorem c6F:TOk Tryz.prog 116 c1D:=by refine TOk.mk' ?_ ?_ ?_ ?_ ?_ (l9 (MOk.of_chkO ?_) (l9 (MOk.of_chk ?_) (l9 (MOk.of_chk ?_) (l9 (MOk.of_chk ?_) (l9 (MOk.of_chk ?_) (l9 (MOk.of_chkO ?_) (l9 (MOk.of_chkO ?_) (l9 (MOk.of_chkO ?_) (l9 (MOk.of_chk ?_) (l9 (MOk.of_chk ?_) (l9 (MOk.of_chk ?_) (l9 (MOk.of_chk ?_) (l9 (MOk.of_chk ?_) (l9 (MOk.of_chkO ?_) (l9 (MOk.of_chkO ?_) (l9 (MOk.of_chkO ?_) (l9 (MOk.of_chkO ?_) (l9 (MOk.of_chkO ?_) (l9 (MOk.of_chkO ?_) (l9 (MOk.of_chk ?_) p7)))))))))))))))))))) ?_<;>kernel_rfl
def c0I:TI:=⟨.slice 100,1,24, .cells [.nils],[]⟩
theorem c5x:TOk Tryz.prog 118 c0I:=by refine TOk.mk' ?_ ?_ ?_ ?_ ?_ p7 ?_<;>kernel_rfl
def c2w:TI:=⟨.ptr 137,1,8, .cells [.nilp],[⟨ "Clockwise",236,none⟩,⟨ "ContainsLine",237,none⟩,⟨ "ContainsPoint",171,none⟩,⟨ "ContainsPoly",238,none⟩,⟨ "ContainsRect",239,none⟩,⟨ "Empty",165,none⟩,⟨ "IntersectsLine",233,none⟩,⟨ "IntersectsPoint",168,none⟩,⟨ "IntersectsPoly",208,none⟩,⟨ "IntersectsRect",202,none⟩,⟨ "Move",85,none⟩,⟨ "Rect",166,none⟩,⟨ "Valid",240,none⟩]⟩
theorem c7K:TOk Tryz.prog 121 c2w:=by refine TOk.mk' ?_ ?_ ?_ ?_ ?_ (l9 (MOk.of_chk ?_) (l9 (MOk.of_chk ?_) (l9 (MOk.of_chk ?_) (l9 (MOk.of_chk ?_) (l9 (MOk.of_chk ?_) (l9 (MOk.of_chk ?_) (l9 (MOk.of_chk ?_) (l9 (MOk.of_chk ?_) (l9 (MOk.of_chk ?_) (l9 (MOk.of_chk ?_) (l9 (MOk.of_chk ?_) (l9 (MOk.of_chk ?_) (l9 (MOk.of_chk ?_) p7))))))))))))) ?_<;>kernel_rfl
def c1n:TI:=⟨.slice 106,1,24, .cells [.nils],[]⟩
theorem c7g:TOk Tryz.prog 135 c1n:=by refine TOk.mk' ?_ ?_ ?_ ?_ ?_ p7 ?_<;>kernel_rfl
def c2z:TI:=⟨.struct [(0,106),(1,135)],2,40, .cells [.nili, .nils],[]⟩
theorem c8c:TOk Tryz.prog 136 c2z:=by refine TOk.mk' ?_ ?_ ?_ ?_ ?_ p7 ?_<;>kernel_rfl
def c0K:TI:=⟨.struct [(0,106),(1,135)],2,40, .cells [.nili, .nils],[]⟩
theorem c5Y:TOk Tryz.prog 137 c0K:=by refine TOk.mk' ?_ ?_ ?_ ?_ ?_ p7 ?_<;>kernel_rfl
def c1p:TI:=⟨.struct [(0,4),(1,4)],2,2, .cells [.ff, .ff],[]⟩
theorem c5a:TOk Tryz.prog 141 c1p:=by refine TOk.mk' ?_ ?_ ?_ ?_ ?_ p7 ?_<;>kernel_rfl
def c1s:TI:=⟨.struct [(0,4),(1,4)],2,2, .cells [.ff, .ff],[]⟩
theorem c5K:TOk Tryz.prog 142 c1s:=by refine TOk.mk' ?_ ?_ ?_ ?_ ?_ p7 ?_<;>kernel_rfl
def c1m:TI:=⟨.slice 118,1,24, .cells [.nils],[]⟩
theorem c7I:TOk Tryz.prog 144 c1m:=by refine TOk.mk' ?_ ?_ ?_ ?_ ?_ p7 ?_<;>kernel_rfl
def c1V:TI:=⟨.int .u8,1,1, .cells [.int .u8 0],[]⟩
theorem c5J:TOk Tryz.prog 146 c1V:=by refine TOk.mk' ?_ ?_ ?_ ?_ ?_ p7 ?_<;>kernel_rfl
def c1Q:TI:=⟨.struct [(0,146),(1,3)],2,16, .cells [.int .u8 0, .int .i64 0],[]⟩
theorem c5c:TOk Tryz.prog 147 c1Q:=by refine TOk.mk' ?_ ?_ ?_ ?_ ?_ p7 ?_<;>kernel_rfl
def c1b:TI:=⟨.struct [(0,146),(1,3)],2,16, .cells [.int .u8 0, .int .i64 0],[]⟩
theorem c7Q:TOk Tryz.prog 148 c1b:=by refine TOk.mk' ?_ ?_ ?_ ?_ ?_ p7 ?_<;>kernel_rfl
def c1a:TI:=⟨.struct [(0,4),(1,4),(2,4),(3,146),(4,20),(5,102),(9,118)],10,80, .cells [.ff, .ff, .ff, .int .u8 0, .nili, .flt .f64 0, .flt .f64 0, .flt .f64 0, .flt .f64 0, .nils],[]⟩
theorem c7U:TOk Tryz.prog 149 c1a:=by refine TOk.mk' ?_ ?_ ?_ ?_ ?_ p7 ?_<;>kernel_rfl
def c2l:TI:=⟨.struct [(0,4),(1,4),(2,4),(3,146),(4,20),(5,102),(9,118)],10,80, .cells [.ff, .ff, .ff, .int .u8 0, .nili, .flt .f64 0, .flt .f64 0, .flt .f64 0, .flt .f64 0, .nils],[]⟩
theorem c6x:TOk Tryz.prog 150 c2l:=by refine TOk.mk' ?_ ?_ ?_ ?_ ?_ p7 ?_<;>kernel_rfl
def c0R:TI:=⟨.struct [(0,150)],10,80, .cells [.ff, .ff, .ff, .int .u8 0, .nili, .flt .f64 0, .flt .f64 0, .flt .f64 0, .flt .f64 0, .nils],[]⟩
theorem c7R:TOk Tryz.prog 151 c0R:=by refine TOk.mk' ?_ ?_ ?_ ?_ ?_ p7 ?_<;>kernel_rfl
def c1A:TI:=⟨.struct [(0,150)],10,80, .cells [.ff, .ff, .ff, .int .u8 0, .nili, .flt .f64 0, .flt .f64 0, .flt .f64 0, .flt .f64 0, .nils],[]⟩
theorem c6j:TOk Tryz.prog 152 c1A:=by refine TOk.mk' ?_ ?_ ?_ ?_ ?_ p7 ?_<;>kernel_rfl
def c1I:TI:=⟨.ptr 150,1,8, .cells [.nilp],[⟨ "Clockwise",222,none⟩,⟨ "Convex",226,none⟩,⟨ "Empty",163,none⟩,⟨ "Index",105,none⟩,⟨ "Move",95,none⟩,⟨ "NumPoints",205,none⟩,⟨ "NumSegments",111,none⟩,⟨ "PointAt",206,none⟩,⟨ "Rect",164,none⟩,⟨ "Search",172,none⟩,⟨ "SegmentAt",112,none⟩,⟨ "Valid",234,none⟩]⟩
theorem c8l:TOk Tryz.prog 157 c1I:=by refine TOk.mk' ?_ ?_ ?_ ?_ ?_ (l9 (MOk.of_chk ?_) (l9 (MOk.of_chk ?_) (l9 (MOk.of_chk ?_) (l9 (MOk.of_chk ?_) (l9 (MOk.of_chk ?_) (l9 (MOk.of_chk ?_) (l9 (MOk.of_chk ?_) (l9 (MOk.of_chk ?_) (l9 (MOk.of_chk ?_) (l9 (MOk.of_chk ?_) (l9 (MOk.of_chk ?_) (l9 (MOk.of_chk ?_) p7)))))))))))) ?_<;>kernel_rfl
def c2G:TI:=⟨.int .u64,1,8, .cells [.int .u64 0],[]⟩
theorem c8o:TOk Tryz.prog 172 c2G:=by refine TOk.mk' ?_ ?_ ?_ ?_ ?_ p7 ?_<;>kernel_rfl
def c0N:TI:=⟨.ptr 180,1,8, .cells [.nilp],[]⟩
theorem c6D:TOk Tryz.prog 174 c0N:=by refine TOk.mk' ?_ ?_ ?_ ?_ ?_ p7 ?_<;>kernel_rfl
def c1N:TI:=⟨.array 2 98,2,16, .cells [.flt .f64 0, .flt .f64 0],[]⟩
theorem c5N:TOk Tryz.prog 175 c1N:=by refine TOk.mk' ?_ ?_ ?_ ?_ ?_ p7 ?_<;>kernel_rfl
def c1U:TI:=⟨.struct [(0,20),(1,175),(3,175)],5,48, .cells [.nili, .flt .f64 0, .flt .f64 0, .flt .f64 0, .flt .f64 0],[]⟩
theorem c5h:TOk Tryz.prog 176 c1U:=by refine TOk.mk' ?_ ?_ ?_ ?_ ?_ p7 ?_<;>kernel_rfl
def b5V:TI:=⟨.struct [(0,20),(1,175),(3,175)],5,48, .cells [.nili, .flt .f64 0, .flt .f64 0, .flt .f64 0, .flt .f64 0],[]⟩
theorem c7e:TOk Tryz.prog 177 b5V:=by refine TOk.mk' ?_ ?_ ?_ ?_ ?_ p7 ?_<;>kernel_rfl
def c2H:TI:=⟨.slice 177,1,24, .cells [.nils],[]⟩
theorem c6b:TOk Tryz.prog 178 c2H:=by refine TOk.mk' ?_ ?_ ?_ ?_ ?_ p7 ?_<;>kernel_rfl
def c2g:TI:=⟨.struct [(0,3),(1,177),(6,3),(7,178)],8,88, .cells [.int .i64 0, .nili, .flt .f64 0, .flt .f64 0, .flt .f64 0, .flt .f64 0, .int .i64 0, .nils],[]⟩
theorem c6L:TOk Tryz.prog 179 c2g:=by refine TOk.mk' ?_ ?_ ?_ ?_ ?_ p7 ?_<;>kernel_rfl
def c0S:TI:=⟨.struct [(0,3),(1,177),(6,3),(7,178)],8,88, .cells [.int .i64 0, .nili, .flt .f64 0, .flt .f64 0, .flt .f64 0, .flt .f64 0, .int .i64 0, .nils],[]⟩
theorem c6I:TOk Tryz.prog 180 c0S:=by refine TOk.mk' ?_ ?_ ?_ ?_ ?_ p7 ?_<;>kernel_rfl
def c1X:TI:=⟨.slice 98,1,24, .cells [.nils],[]⟩
theorem c7B:TOk Tryz.prog 183 c1X:=by refine TOk.mk' ?_ ?_ ?_ ?_ ?_ p7 ?_<;>kernel_rfl
def c1c:TI:=⟨.slice 5,1,24, .cells [.nils],[]⟩
theorem c6U:TOk Tryz.prog 185 c1c:=by refine TOk.mk' ?_ ?_ ?_ ?_ ?_ p7 ?_<;>kernel_rfl
def c2K:TI:=⟨.ptr 191,1,8, .cells [.nilp],[]⟩
theorem c6K:TOk Tryz.prog 187 c2K:=by refine TOk.mk' ?_ ?_ ?_ ?_ ?_ p7 ?_<;>kernel_rfl
def c0M:TI:=⟨.slice 200,1,24, .cells [.nils],[]⟩
theorem c6p:TOk Tryz.prog 188 c0M:=by refine TOk.mk' ?_ ?_ ?_ ?_ ?_ p7 ?_<;>kernel_rfl
def c0O:TI:=⟨.array 4 187,4,32, .cells [.nilp, .nilp, .nilp, .nilp],[]⟩
theorem c5i:TOk Tryz.prog 189 c0O:=by refine TOk.mk' ?_ ?_ ?_ ?_ ?_ p7 ?_<;>kernel_rfl
def c1Y:TI:=⟨.struct [(0,4),(1,188),(2,189)],6,64, .cells [.ff, .nils, .nilp, .nilp, .nilp, .nilp],[]⟩
theorem c7n:TOk Tryz.prog 190 c1Y:=by refine TOk.mk' ?_ ?_ ?_ ?_ ?_ p7 ?_<;>kernel_rfl
def c2y:TI:=⟨.struct [(0,4),(1,188),(2,189)],6,64, .cells [.ff, .nils, .nilp, .nilp, .nilp, .nilp],[]⟩
theorem c4X:TOk Tryz.prog 191 c2y:=by refine TOk.mk' ?_ ?_ ?_ ?_ ?_ p7 ?_<;>kernel_rfl
def c0T:TI:=⟨.ptr 177,1,8, .cells [.nilp],[]⟩
theorem c6o:TOk Tryz.prog 195 c0T:=by refine TOk.mk' ?_ ?_ ?_ ?_ ?_ p7 ?_<;>kernel_rfl
def c2t:TI:=⟨.struct [],0,0, .cells [],[]⟩
theorem c7u:TOk Tryz.prog 197 c2t:=by refine TOk.mk' ?_ ?_ ?_ ?_ ?_ p7 ?_<;>kernel_rfl
def c2p:TI:=⟨.struct [],0,0, .cells [],[]⟩
theorem c8e:TOk Tryz.prog 198 c2p:=by refine TOk.mk' ?_ ?_ ?_ ?_ ?_ p7 ?_<;>kernel_rfl
def c1j:TI:=⟨.int .u32,1,4, .cells [.int .u32 0],[]⟩
theorem c5D:TOk Tryz.prog 200 c1j:=by refine TOk.mk' ?_ ?_ ?_ ?_ ?_ p7 ?_<;>kernel_rfl
def c1z:TI:=⟨.array 4 3,4,32, .cells [.int .i64 0, .int .i64 0, .int .i64 0, .int .i64 0],[]⟩
theorem c6H:TOk Tryz.prog 206 c1z:=by refine TOk.mk' ?_ ?_ ?_ ?_ ?_ p7 ?_<;>kernel_rfl
def c1v:TI:=⟨.ptr 210,1,8, .cells [.nilp],[]⟩
theorem c6a:TOk Tryz.prog 207 c1v:=by refine TOk.mk' ?_ ?_ ?_ ?_ ?_ p7 ?_<;>kernel_rfl
def c0H:TI:=⟨.array 17 177,85,816, .cells [.nili, .flt .f64 0, .flt .f64 0, .flt .f64 0, .flt .f64 0, .nili, .flt .f64 0, .flt .f64 0, .flt .f64 0, .flt .f64 0, .nili, .flt .f64 0, .flt .f64 0, .flt .f64 0, .flt .f64 0, .nili, .flt .f64 0, .flt .f64 0, .flt .f64 0, .flt .f64 0, .nili, .flt .f64 0, .flt .f64 0, .flt .f64 0, .flt .f64 0, .nili, .flt .f64 0, .flt .f64 0, .flt .f64 0, .flt .f64 0, .nili, .flt .f64 0, .flt .f64 0, .flt .f64 0, .flt .f64 0, .nili, .flt .f64 0, .flt .f64 0, .flt .f64 0, .flt .f64 0, .nili, .flt .f64 0, .flt .f64 0, .flt .f64 0, .flt .f64 0, .nili, .flt .f64 0, .flt .f64 0, .flt .f64 0, .flt .f64 0, .nili, .flt .f64 0, .flt .f64 0, .flt .f64 0, .flt .f64 0, .nili, .flt .f64 0, .flt .f64 0, .flt .f64 0, .flt .f64 0, .nili, .flt .f64 0, .flt .f64 0, .flt .f64 0, .flt .f64 0, .nili, .flt .f64 0, .flt .f64 0, .flt .f64 0, .flt .f64 0, .nili, .flt .f64 0, .flt .f64 0, .flt .f64 0, .flt .f64 0, .nili, .flt .f64 0, .flt .f64 0, .flt .f64 0, .flt .f64 0, .nili, .flt .f64 0, .flt .f64 0, .flt .f64 0, .flt .f64 0],[]⟩
theorem c5Q:TOk Tryz.prog 208 c0H:=by refine TOk.mk' ?_ ?_ ?_ ?_ ?_ p7 ?_<;>kernel_rfl
def c2x:TI:=⟨.struct [(0,3),(1,208)],86,824, .cells [.int .i64 0, .nili, .flt .f64 0, .flt .f64 0, .flt .f64 0, .flt .f64 0, .nili, .flt .f64 0, .flt .f64 0, .flt .f64 0, .flt .f64 0, .nili, .flt .f64 0, .flt .f64 0, .flt .f64 0, .flt .f64 0, .nili, .flt .f64 0, .flt .f64 0, .flt .f64 0, .flt .f64 0, .nili, .flt .f64 0, .flt .f64 0, .flt .f64 0, .flt .f64 0, .nili, .flt .f64 0, .flt .f64 0, .flt .f64 0, .flt .f64 0, .nili, .flt .f64 0, .flt .f64 0, .flt .f64 0, .flt .f64 0, .nili, .flt .f64 0, .flt .f64 0, .flt .f64 0, .flt .f64 0, .nili, .flt .f64 0, .flt .f64 0, .flt .f64 0, .flt .f64 0, .nili, .flt .f64 0, .flt .f64 0, .flt .f64 0, .flt .f64 0, .nili, .flt .f64 0, .flt .f64 0, .flt .f64 0, .flt .f64 0, .nili, .flt .f64 0, .flt .f64 0, .flt .f64 0, .flt .f64 0, .nili, .flt .f64 0, .flt .f64 0, .flt .f64 0, .flt .f64 0, .nili, .flt .f64 0, .flt .f64 0, .flt .f64 0, .flt .f64 0, .nili, .flt .f64 0, .flt .f64 0, .flt .f64 0, .flt .f64 0, .nili, .flt .f64 0, .flt .f64 0, .flt .f64 0, .flt .f64 0, .nili, .flt .f64 0, .flt .f64 0, .flt .f64 0, .flt .f64 0],[]⟩
theorem c7V:TOk Tryz.prog 209 c2x:=by refine TOk.mk' ?_ ?_ ?_ ?_ ?_ p7 ?_<;>kernel_rfl
def b5K:TI:=⟨.struct [(0,3),(1,208)],86,824, .cells [.int .i64 0, .nili, .flt .f64 0, .flt .f64 0, .flt .f64 0, .flt .f64 0, .nili, .flt .f64 0, .flt .f64 0, .flt .f64 0, .flt .f64 0, .nili, .flt .f64 0, .flt .f64 0, .flt .f64 0, .flt .f64 0, .nili, .flt .f64 0, .flt .f64 0, .flt .f64 0, .flt .f64 0, .nili, .flt .f64 0, .flt .f64 0, .flt .f64 0, .flt .f64 0, .nili, .flt .f64 0, .flt .f64 0, .flt .f64 0, .flt .f64 0, .nili, .flt .f64 0, .flt .f64 0, .flt .f64 0, .flt .f64 0, .nili, .flt .f64 0, .flt .f64 0, .flt .f64 0, .flt .f64 0, .nili, .flt .f64 0, .flt .f64 0, .flt .f64 0, .flt .f64 0, .nili, .flt .f64 0, .flt .f64 0, .flt .f64 0, .flt .f64 0, .nili, .flt .f64 0, .flt .f64 0, .flt .f64 0, .flt .f64 0, .nili, .flt .f64 0, .flt .f64 0, .flt .f64 0, .flt .f64 0, .nili, .flt .f64 0, .flt .f64 0, .flt .f64 0, .flt .f64 0, .nili, .flt .f64 0, .flt .f64 0, .flt .f64 0, .flt .f64 0, .nili, .flt .f64 0, .flt .f64 0, .flt .f64 0, .flt .f64 0, .nili, .flt .f64 0, .flt .f64 0, .flt .f64 0, .flt .f64 0, .nili, .flt .f64 0, .flt .f64 0, .flt .f64 0, .flt .f64 0],[]⟩
theorem c5G:TOk Tryz.prog 210 b5K:=by refine TOk.mk' ?_ ?_ ?_ ?_ ?_ p7 ?_<;>kernel_rfl
def c2b:TI:=⟨.int .u64,1,8, .cells [.int .u64 0],[]⟩
theorem c5F:TOk Tryz.prog 212 c2b:=by refine TOk.mk' ?_ ?_ ?_ ?_ ?_ p7 ?_<;>kernel_rfl
def c2o:TI:=⟨.slice 3,1,24, .cells [.nils],[]⟩
theorem c6z:TOk Tryz.prog 214 c2o:=by refine TOk.mk' ?_ ?_ ?_ ?_ ?_ p7 ?_<;>kernel_rfl
def c1C:TI:=⟨.int .u16,1,2, .cells [.int .u16 0],[]⟩
theorem c6A:TOk Tryz.prog 216 c1C:=by refine TOk.mk' ?_ ?_ ?_ ?_ ?_ p7 ?_<;>kernel_rfl
def c1f:TI:=⟨.array 8 5,8,8, .cells [.int .u8 0, .int .u8 0, .int .u8 0, .int .u8 0, .int .u8 0, .int .u8 0, .int .u8 0, .int .u8 0],[]⟩
theorem c7F:TOk Tryz.prog 221 c1f:=by refine TOk.mk' ?_ ?_ ?_ ?_ ?_ p7 ?_<;>kernel_rfl
def c2v:TI:=⟨.struct [(0,17),(1,17),(2,17),(3,9)],4,40, .cells [.nilp, .nilp, .nilp, .str ⟨#[]⟩],[]⟩
theorem c8b:TOk Tryz.prog 224 c2v:=by refine TOk.mk' ?_ ?_ ?_ ?_ ?_ p7 ?_<;>kernel_rfl
def c2q:TI:=⟨.struct [(0,17),(1,17),(2,17),(3,9)],4,40, .cells [.nilp, .nilp, .nilp, .str ⟨#[]⟩],[]⟩
theorem c5e:TOk Tryz.prog 225 c2q:=by refine TOk.mk' ?_ ?_ ?_ ?_ ?_ p7 ?_<;>kernel_rfl
def c2k:TI:=⟨.array 0 16,0,0, .cells [],[]⟩
theorem c5z:TOk Tryz.prog 226 c2k:=by refine TOk.mk' ?_ ?_ ?_ ?_ ?_ p7 ?_<;>kernel_rfl
def c1R:TI:=⟨.struct [(0,226)],0,0, .cells [],[]⟩
theorem c6J:TOk Tryz.prog 227 c1R:=by refine TOk.mk' ?_ ?_ ?_ ?_ ?_ p7 ?_<;>kernel_rfl
def c1l:TI:=⟨.struct [(0,226)],0,0, .cells [],[]⟩
theorem c6P:TOk Tryz.prog 228 c1l:=by refine TOk.mk' ?_ ?_ ?_ ?_ ?_ p7 ?_<;>kernel_rfl
def c1J:TI:=⟨.int .u8,1,1, .cells [.int .u8 0],[]⟩
theorem c7X:TOk Tryz.prog 229 c1J:=by refine TOk.mk' ?_ ?_ ?_ ?_ ?_ p7 ?_<;>kernel_rfl
def c0L:TI:=⟨.int .u8,1,1, .cells [.int .u8 0],[]⟩
theorem c7o:TOk Tryz.prog 230 c0L:=by refine TOk.mk' ?_ ?_ ?_ ?_ ?_ p7 ?_<;>kernel_rfl
def c2a:TI:=⟨.ptr 5,1,8, .cells [.nilp],[]⟩
theorem c6X:TOk Tryz.prog 232 c2a:=by refine TOk.mk' ?_ ?_ ?_ ?_ ?_ p7 ?_<;>kernel_rfl
def c2d:TI:=⟨.int .i32,1,4, .cells [.int .i32 0],[]⟩
theorem c5C:TOk Tryz.prog 233 c2d:=by refine TOk.mk' ?_ ?_ ?_ ?_ ?_ p7 ?_<;>kernel_rfl
def c0Q:TI:=⟨.int .i32,1,4, .cells [.int .i32 0],[]⟩
theorem c7p:TOk Tryz.prog 234 c0Q:=by refine TOk.mk' ?_ ?_ ?_ ?_ ?_ p7 ?_<;>kernel_rfl
def c1h:TI:=⟨.struct [(0,12),(1,12),(2,200),(3,229),(4,5),(5,5),(6,230),(7,231),(8,232),(9,233),(10,234)],11,48, .cells [.int .u64 0, .int .u64 0, .int .u32 0, .int .u8 0, .int .u8 0, .int .u8 0, .int .u8 0, .nilf, .nilp, .int .i32 0, .int .i32 0],[]⟩
theorem c4Y:TOk Tryz.prog 235 c1h:=by refine TOk.mk' ?_ ?_ ?_ ?_ ?_ p7 ?_<;>kernel_rfl
def c2J:TI:=⟨.struct [(0,12),(1,12),(2,200),(3,229),(4,5),(5,5),(6,230),(7,231),(8,232),(9,233),(10,234)],11,48, .cells [.int .u64 0, .int .u64 0, .int .u32 0, .int .u8 0, .int .u8 0, .int .u8 0, .int .u8 0, .nilf, .nilp, .int .i32 0, .int .i32 0],[]⟩
theorem c6B:TOk Tryz.prog 236 c2J:=by refine TOk.mk' ?_ ?_ ?_ ?_ ?_ p7 ?_<;>kernel_rfl
def c1w:TI:=⟨.struct [(0,4),(1,3)],2,16, .cells [.ff, .int .i64 0],[]⟩
theorem c5p:TOk Tryz.prog 237 c1w:=by refine TOk.mk' ?_ ?_ ?_ ?_ ?_ p7 ?_<;>kernel_rfl
def c0J:TI:=⟨.struct [(0,4),(1,3)],2,16, .cells [.ff, .int .i64 0],[]⟩
theorem c6S:TOk Tryz.prog 238 c0J:=by refine TOk.mk' ?_ ?_ ?_ ?_ ?_ p7 ?_<;>kernel_rfl
def c1F:TI:=⟨.ptr 3,1,8, .cells [.nilp],[]⟩
theorem c8k:TOk Tryz.prog 249 c1F:=by refine TOk.mk' ?_ ?_ ?_ ?_ ?_ p7 ?_<;>kernel_rfl
def c1g:TI:=⟨.ptr 4,1,8, .cells [.nilp],[]⟩
theorem c5U:TOk Tryz.prog 250 c1g:=by refine TOk.mk' ?_ ?_ ?_ ?_ ?_ p7 ?_<;>kernel_rfl
def c1E:TI:=⟨.slice 111,1,24, .cells [.nils],[]⟩
theorem c6G:TOk Tryz.prog 255 c1E:=by refine TOk.mk' ?_ ?_ ?_ ?_ ?_ p7 ?_<;>kernel_rfl
def c2E:TI:=⟨.array 5 100,10,80, .cells [.flt .f64 0, .flt .f64 0, .flt .f64 0, .flt .f64 0, .flt .f64 0, .flt .f64 0, .flt .f64 0, .flt .f64 0, .flt .f64 0, .flt .f64 0],[]⟩
theorem c6t:TOk Tryz.prog 258 c2E:=by refine TOk.mk' ?_ ?_ ?_ ?_ ?_ p7 ?_<;>kernel_rfl
def c2u:TI:=⟨.array 2 100,4,32, .cells [.flt .f64 0, .flt .f64 0, .flt .f64 0, .flt .f64 0],[]⟩
theorem c5W:TOk Tryz.prog 259 c2u:=by refine TOk.mk' ?_ ?_ ?_ ?_ ?_ p7 ?_<;>kernel_rfl
def tys:Tys:=[(2,ty2),(3,ty3),(4,ty4),(5,ty5),(6,ty6),(7,ty7),(8,ty8),(9,ty9),(10,c7D),(11,c7q),(12,c4U),(13,c5Z),(14,c7m),(15,c6i),(16,c7M),(17,c7c),(18,c7A),(19,c6v),(20,c6k),(21,c5y),(22,c7S),(23,c7w),(24,c5l),(25,c5R),(26,c6N),(28,c8s),(29,c6f),(37,c5t),(38,c7N),(39,c6s),(47,c6C),(48,c7J),(50,c5o),(51,c5O),(68,c7y),(69,c5X),(70,c6W),(75,c6Z),(76,c7s),(79,c4W),(92,c5m),(93,c4Z),(95,c7C),(98,c6M),(99,c7t),(100,c2c),(101,c1e),(102,c1i),(105,c2M),(106,c0Y),(110,c1k),(111,c1d),(116,c1D),(118,c0I),(121,c2w),(135,c1n),(136,c2z),(137,c0K),(141,c1p),(142,c1s),(144,c1m),(146,c1V),(147,c1Q),(148,c1b),(149,c1a),(150,c2l),(151,c0R),(152,c1A),(157,c1I),(172,c2G),(174,c0N),(175,c1N),(176,c1U),(177,b5V),(178,c2H),(179,c2g),(180,c0S),(183,c1X),(185,c1c),(187,c2K),(188,c0M),(189,c0O),(190,c1Y),(191,c2y),(195,c0T),(197,c2t),(198,c2p),(200,c1j),(206,c1z),(207,c1v),(208,c0H),(209,c2x),(210,b5K),(212,c2b),(214,c2o),(216,c1C),(221,c1f),(224,c2v),(225,c2q),(226,c2k),(227,c1R),(228,c1l),(229,c1J),(230,c0L),(232,c2a),(233,c2d),(234,c0Q),(235,c1h),(236,c2J),(237,c1w),(238,c0J),(249,c1F),(250,c1g),(255,c1E),(258,c2E),(259,c2u)]
theorem B4:TysOk Tryz.prog tys:=by
 unfold tys;refine TysOk.cons ok2 ?_;refine TysOk.cons ok3 ?_;refine TysOk.cons ok4 ?_;refine TysOk.cons ok5 ?_;refine TysOk.cons ok6 ?_;refine TysOk.cons ok7 ?_;refine TysOk.cons ok8 ?_;refine TysOk.cons ok9 ?_;refine TysOk.cons c9t ?_;refine TysOk.cons c9S ?_;refine TysOk.cons c9d ?_;refine TysOk.cons c9U ?_;refine TysOk.cons c8Q ?_;refine TysOk.cons c9q ?_;refine TysOk.cons c9F ?_;refine TysOk.cons c9i ?_;refine TysOk.cons c8B ?_;refine TysOk.cons c9x ?_;refine TysOk.cons c9o ?_;refine TysOk.cons c9c ?_;refine TysOk.cons c8C ?_;refine TysOk.cons c9M ?_;refine TysOk.cons c8R ?_
 refine TysOk.cons c9n ?_;refine TysOk.cons c9R ?_;refine TysOk.cons c9N ?_;refine TysOk.cons c8T ?_;refine TysOk.cons c9h ?_;refine TysOk.cons c9a ?_;refine TysOk.cons c9Z ?_;refine TysOk.cons c8I ?_;refine TysOk.cons c9w ?_;refine TysOk.cons c9g ?_;refine TysOk.cons c8w ?_;refine TysOk.cons c9Y ?_;refine TysOk.cons c9T ?_;refine TysOk.cons c9k ?_;refine TysOk.cons c8Z ?_;refine TysOk.cons c8u ?_;refine TysOk.cons c8Y ?_;refine TysOk.cons c8z ?_;refine TysOk.cons c9I ?_;refine TysOk.cons c9E ?_;refine TysOk.cons c9C ?_;refine TysOk.cons c9H ?_;refine TysOk.cons c7b ?_
 refine TysOk.cons c5r ?_;refine TysOk.cons c7W ?_;refine TysOk.cons c5j ?_;refine TysOk.cons c6n ?_;refine TysOk.cons c6g ?_;refine TysOk.cons c6O ?_;refine TysOk.cons c6F ?_;refine TysOk.cons c5x ?_;refine TysOk.cons c7K ?_;refine TysOk.cons c7g ?_;refine TysOk.cons c8c ?_;refine TysOk.cons c5Y ?_;refine TysOk.cons c5a ?_;refine TysOk.cons c5K ?_;refine TysOk.cons c7I ?_;refine TysOk.cons c5J ?_;refine TysOk.cons c5c ?_;refine TysOk.cons c7Q ?_;refine TysOk.cons c7U ?_;refine TysOk.cons c6x ?_;refine TysOk.cons c7R ?_;refine TysOk.cons c6j ?_
 refine TysOk.cons c8l ?_;refine TysOk.cons c8o ?_;refine TysOk.cons c6D ?_;refine TysOk.cons c5N ?_;refine TysOk.cons c5h ?_;refine TysOk.cons c7e ?_;refine TysOk.cons c6b ?_;refine TysOk.cons c6L ?_;refine TysOk.cons c6I ?_;refine TysOk.cons c7B ?_;refine TysOk.cons c6U ?_;refine TysOk.cons c6K ?_;refine TysOk.cons c6p ?_;refine TysOk.cons c5i ?_;refine TysOk.cons c7n ?_;refine TysOk.cons c4X ?_;refine TysOk.cons c6o ?_;refine TysOk.cons c7u ?_;refine TysOk.cons c8e ?_;refine TysOk.cons c5D ?_;refine TysOk.cons c6H ?_;refine TysOk.cons c6a ?_
 refine TysOk.cons c5Q ?_;refine TysOk.cons c7V ?_;refine TysOk.cons c5G ?_;refine TysOk.cons c5F ?_;refine TysOk.cons c6z ?_;refine TysOk.cons c6A ?_;refine TysOk.cons c7F ?_;refine TysOk.cons c8b ?_;refine TysOk.cons c5e ?_;refine TysOk.cons c5z ?_;refine TysOk.cons c6J ?_;refine TysOk.cons c6P ?_;refine TysOk.cons c7X ?_;refine TysOk.cons c7o ?_;refine TysOk.cons c6X ?_;refine TysOk.cons c5C ?_;refine TysOk.cons c7p ?_;refine TysOk.cons c4Y ?_;refine TysOk.cons c6B ?_;refine TysOk.cons c5p ?_;refine TysOk.cons c6S ?_;refine TysOk.cons c8k ?_
 refine TysOk.cons c5U ?_;refine TysOk.cons c6G ?_;refine TysOk.cons c6t ?_;refine TysOk.cons c5W ?_;exact TysOk.nil
end Go.Proofs.Tryz.Sx
