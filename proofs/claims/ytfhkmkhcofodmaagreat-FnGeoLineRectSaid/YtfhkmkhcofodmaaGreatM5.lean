/- Parts of a proof, in order: what each says stands at its head. No conditions. -/
import Derived.KernelRfl
import Derived.Test.YtfhkmkhcofodmaaGreatM4
import Derived.Test.YtfhkmkhcofodmaaGreatM2
import Derived.Test.YtfhkmkhcofodmaaGreatM3
namespace Go.Sx
open Go.RowKit
def a2v(X:D7)(o:Oper)(S:St)(K:St->Prop):Prop :=
 match a2e S o.dst with
 | true=>match a9S X o.op with
  | some R=>∀ i,match R.ev i (opr S.sl) (look S.H) S.N with
   | some (e,p)=>okK e.obl (p->K (S.app o.dst e))
   | none=>False
  | none=>match c4y S o.op with
   | some (k,a,b)=>∀ r,A2 k a b r->K (S.app o.dst (Eff.pure (.flt k r)))
   | none=>match evX X (opr S.sl) (look S.H) S.N o.op with
    | some e=>okK e.obl (K (S.app o.dst e))
    | none=>False
 | false=>False
def b1C(X:D7)(ops:List Oper)(o:Oper)(S:St)(K:St->Prop):Prop :=
 match o.guard with
 | none=>a2v X o S K
 | some (j,want)=>match a4E ops j with
  | none=>False
  | some d=>match slot S.sl d with
   | some .tt=>match want with
    | true=>a2v X o S K
    | false=>a0A o S K
   | some .ff=>match want with
    | true=>a0A o S K
    | false=>a2v X o S K
   | some (.tup [])=>a0A o S K
   | some (.bool b) =>
    (b=true->match want with
     | true=>a2v X o (R4 S d .tt) K
     | false=>a0A o (R4 S d .tt) K)/\
    (b=false->match want with
     | true=>a0A o (R4 S d .ff) K
     | false=>a2v X o (R4 S d .ff) K)
   | _=>False
def a9x(X:D7)(ops:List Oper):List Oper->St->(St->Prop)->Prop
 | [],S,K=>K S
 | o :: r,S,K=>b1C X ops o S (λS'=>a9x X ops r S' K)
section
variable {P:Program} {W0:World} {Fr:Nat->Prop} {X:D7} {S:St} {ρ:Rho} {a:Act} {w:World}
theorem a7L{N0:Nat}{ρ0:Rho}{o:Oper}{K:St->Prop}{e:Eff}(hd:a2e S o.dst=true)(hS:Sat W0 Fr S ρ a w)(hN:N0<=S.N)(hρ:∀ n,n<N0->ρ n=ρ0 n){next:Act->World->Prop}(hK:a0Z W0 Fr N0 ρ0 K next)
  (h2:K (S.app o.dst e)) {ρ':Rho} {w':World} (hr:∀ n,n<S.N->ρ' n=ρ n) (hH:HSat W0 Fr (UU (·< S.N) S.N) (e.wr++(e.news++S.H)) ρ' w') :
  match e.val with
  | some v=>v.bd (UU (·< S.N) S.N)->next (a.put o.dst (v.den ρ')) w'
  | none=>next (a.put o.dst undef) w':=by
 have hU:∀ n,UU (·< S.N) S.N n->n<S.N+24:=by
  intro n hn;rcases hn with hn|hn
  ·exact Nat.lt_of_lt_of_le hn (Nat.le_add_right _ _)
  ·exact hn.2
 have hH':=hH.mono (U':=(·< S.N+24)) hU;have hs':=hS.s.mono (U':=(·< S.N+24)) (λn hn=>Nat.lt_of_lt_of_le hn (Nat.le_add_right _ _)) hr;have hρ':∀ n,n<N0->ρ' n=ρ0 n:=λn hn=>(hr n (Nat.lt_of_lt_of_le hn hN)).trans (hρ n hn)
 have hN':N0<=S.N+24:=Nat.le_trans hN (Nat.le_add_right _ _);split
 ·rename_i v hv;intro hb;refine hK (S.app o.dst e) ρ' _ _ h2 ⟨hH',?_⟩ hN' hρ'
  cases hdst:o.dst with
  | none=>simpa [St.app,Act.put]using hs'
  | some d =>
   have hd':d<S.nt:=by rw[hdst]at hd;simpa [a2e]using hd
   simp only[St.app,hv];exact hs'.put hd' (SV.bd_mono hU v hb)
 ·rename_i hv;refine hK (S.app o.dst e) ρ' _ _ h2 ⟨hH',?_⟩ hN' hρ'
  cases hdst:o.dst with
  | none=>simpa [St.app,Act.put]using hs'
  | some d =>
   have hd':d<S.nt:=by rw[hdst]at hd;simpa [a2e]using hd
   simp only[St.app,hv];exact hs'.put (v:=.tup []) hd' (by simp[SV.bd,bdL])
theorem N6(hX:y9 P X){N0:Nat}{ρ0:Rho}{o:Oper}{K:St->Prop}(h:a2v X o S K)(hS:Sat W0 Fr S ρ a w)(hN:N0<=S.N)(hρ:∀ n,n<N0->ρ n=ρ0 n)
  {next:Act->World->Prop} {Q:Exit->Act->World->Prop} (hK:a0Z W0 Fr N0 ρ0 K next):o.wp P a w next Q:=by
 unfold a2v at h;split at h
 ·rename_i hd;split at h
  ·rename_i R hR
   have each:∀ i,∃ e p,R.ev i (opr S.sl) (look S.H) S.N=some (e,p)/\okP e.obl/\(p->K (S.app o.dst e)):=by
    intro i;have:=h i;split at this
    ·rename_i e p he;obtain⟨h1,h2⟩:=R7 this;exact⟨e,p,he,h1,h2⟩
    ·exact this.elim
   refine(b0m hX hR).sound (nm:=S.N) rfl hS.h (λj _=>by simp) (λx v hx=>F1 hS.s hx) (λi=>?_) λi e p ρ' w' h1 h2 hr hH=>?_
   ·obtain⟨e,p,h1,h2,_⟩:=each i;exact⟨e,p,h1,h2⟩
   ·obtain⟨e',p',h3,_,h4⟩:=each i;rw[h1]at h3;simp only[Option.some.injEq,Prod.mk.injEq]at h3;obtain⟨rfl,rfl⟩:=h3;exact a7L hd hS hN hρ hK (h4 h2) hr hH
  ·split at h
   ·rename_i k x y hq;exact L3 hX.G (o:=o) (K:=K) (by unfold a4A;rw[hd,hq];exact h) hS hN hρ hK
   ·split at h
    ·rename_i e he;obtain⟨h1,h2⟩:=R7 h;exact a8b hX hS.h (λj _=>by simp) (λx v hx=>F1 hS.s hx) (λc v hc=>a1O hc ρ) he h1 (λρ' w' hr hH=>a7L hd hS hN hρ hK h2 hr hH)
    ·exact h.elim
 ·exact h.elim
theorem a8Q(hX:y9 P X){N0:Nat}{ρ0:Rho}{ops:List Oper}{o:Oper}{K:St->Prop}(h:b1C X ops o S K)(hS:Sat W0 Fr S ρ a w)(hN:N0<=S.N)(hρ:∀ n,n<N0->ρ n=ρ0 n)
  {next:Act->World->Prop} {Q:Exit->Act->World->Prop} (hK:a0Z W0 Fr N0 ρ0 K next):a7d P ops.toArray o a w next Q:=by
 unfold b1C at h;unfold a7d;split at h
 ·rename_i hg;rw[if_pos (by simp[Region.wanted,hg])];exact .inl (N6 hX h hS hN hρ hK)
 ·rename_i j want hg;split at h
  ·exact h.elim
  ·rename_i d hd
   have hdst:(ops.toArray[j]?).bind (·.dst)=some d:=by
    unfold a4E at hd;rw[U7]at hd;split at hd
    ·rename_i o' ho';simp[ho',hd]
    ·cases hd
   have wantedIs:∀(v:Value),a.tmps[d]? = some v->Region.wanted o (yielded ops.toArray a.tmps)=((match v with | .bool b=>some b|_=>none)==some want):=by
    intro v hv;simp only[Region.wanted,hg,yielded,hdst,Option.bind_some,hv];cases v <;> rfl
   split at h
   ·rename_i hv;have hw:=wantedIs _ (hS.s.val _ _ hv);simp only[SV.den]at hw;split at h
    ·rw[hw];exact .inl (N6 hX h hS hN hρ hK)
    ·rw[hw];exact D6 h hS hN hρ hK
   ·rename_i hv;have hw:=wantedIs _ (hS.s.val _ _ hv);simp only[SV.den]at hw;split at h
    ·rw[hw];exact D6 h hS hN hρ hK
    ·rw[hw];exact .inl (N6 hX h hS hN hρ hK)
   ·rename_i hv;have hw:=wantedIs _ (hS.s.val _ _ hv);simp only[SV.den]at hw;rw[hw];exact D6 h hS hN hρ hK
   ·rename_i b hv;have hw:=wantedIs _ (hS.s.val _ _ hv);simp only[SV.den]at hw;rw[hw];cases b
    ·have h2:=h.2 rfl;have hS':Sat W0 Fr (R4 S d .ff) ρ a w:=hS.set hv rfl trivial;split at h2
     ·exact D6 h2 hS' hN hρ hK
     ·exact .inl (N6 hX h2 hS' hN hρ hK)
    ·have h1:=h.1 rfl;have hS':Sat W0 Fr (R4 S d .tt) ρ a w:=hS.set hv rfl trivial;split at h1
     ·exact .inl (N6 hX h1 hS' hN hρ hK)
     ·exact D6 h1 hS' hN hρ hK
   ·exact h.elim
theorem a2d(hX:y9 P X){N0:Nat}{ρ0:Rho}{ops:List Oper}{Q:Exit->Act->World->Prop}:∀(l:List Oper)(k:Nat) {S:St} {ρ:Rho} {a:Act} {w:World} {K:St->Prop},(∀ j,l[j]? = ops[k+j]?)->
  a9x X ops l S K->Sat W0 Fr S ρ a w->N0<=S.N->(∀ n,n<N0->ρ n=ρ0 n)->a0Z W0 Fr N0 ρ0 K (Q .normal)->wpOps P ops.toArray Q (List.range' k l.length) a w
 | [],k,S,ρ,a,w,K,_,h,hS,hN,hρ,hK=>hK S ρ a w h hS hN hρ
 | o :: r,k,S,ρ,a,w,K,hl,h,hS,hN,hρ,hK=>by
  have ho:ops[k]? = some o:=by simpa using (hl 0).symm
  simp only[List.length_cons,List.range'_succ];unfold wpOps;simp only[List.getElem?_toArray,ho];refine a8Q hX h hS hN hρ λS' ρ' a' w' h' hS' hN' hρ'=>?_
  refine a2d hX r (k+1) (λj=>?_) h' hS' hN' hρ' hK;have:=hl (j+1);simp only[List.getElem?_cons_succ]at this;rw[this];congr 1;omega
end
inductive DRX where
 | done (s:AS) (log:List Ent) (p:Option Prop)
 | need (j:Nat) (b:Bool)
 | fail
def b3J(ops:List Oper)(o:Oper)(s:AS):DRX :=
 match o.guard with
 | some (j,_)=>match a4E ops j with
  | some d=>match slot s.1 d with
   | some (.bool b)=>.need j b
   | _=>.fail
  | none=>.fail
 | none=>.fail
def b4f{α:Type}:Option α->Bool
 | none=>true
 | some _=>false
def c2g(nt:Nat):Option Nat->Bool
 | none=>true
 | some d=>Nat.blt d nt
def U4(X:D7)(nt N:Nat)(ops:List Oper)(dec:List (Nat×Bool))(r:Nat)(g:ChF):List Oper->Nat->AS->DRX
 | [],_,s=>.done s [] none
 | o :: l,i,s=>match Nat.beq i r with
  | true=>match c2g nt o.dst&&b4f o.guard with
   | true=>match g (opr s.1) (look s.2) (N+24*i)with
    | some (e,p)=>match U4 X nt N ops dec r g l (i+1) (B5 o e s)with
     | .done s' log _=>.done s' ((i,o,e) :: log) (some p)
     | x=>x
    | none=>.fail
   | false=>.fail
  | false=>match a1B X nt N ops dec i o s with
   | some e=>match U4 X nt N ops dec r g l (i+1) (B5 o e s)with
    | .done s' log p=>.done s' ((i,o,e) :: log) p
    | x=>x
   | none=>b3J ops o s
def b5m(p:Option Prop)(q:Prop):Prop:=match p with
 | none=>q
 | some p=>p->q
def a7r(X:D7)(ops:List Oper)(S:St)(K:St->Prop):Nat->List (Nat×Bool)->Prop
 | fuel,dec=>match U4 X S.nt S.N ops dec ops.length (λ_ _ _=>none) ops 0 (S.sl,S.H)with
  | .done s log _=>Z4 log (chk ops log=true/\K {nt:=S.nt,sl:=s.1,H:=s.2,N:=S.N+24*ops.length})
  | .need j b=>match fuel with
   | 0=>False
   | f+1=>(b=true->a7r X ops S K f ((j,true) :: dec))/\(b=false->a7r X ops S K f ((j,false) :: dec))
  | .fail=>False
def c7p(X:D7)(ops:List Oper)(S:St)(K:St->Prop)(r:Nat)(R:ROp):Prop :=
 ∀ i,match U4 X S.nt S.N ops [] r (R.ev i) ops 0 (S.sl,S.H)with
  | .done s log p=>Z4 log (chk ops log=true/\b5m p (K {nt:=S.nt,sl:=s.1,H:=s.2,N:=S.N+24*ops.length}))
  | _=>False
noncomputable def b0O(X:D7):List Oper->Nat->Option (Nat×ROp)
 | [],_=>none
 | o :: l,i=>match a9S X o.op with
  | some R=>some (i,R)
  | none=>b0O X l (i+1)
def b6D(X:D7)(ops:List Oper)(S:St)(K:St->Prop):Prop :=
 match b0O X ops 0 with
 | none=>a7r X ops S K 20 []
 | some (r,R)=>c7p X ops S K r R
section
variable {P:Program} {W0:World} {Fr:Nat->Prop} {X:D7}
theorem a6L{r:Nat}{R:ROp}:∀ {l:List Oper} {i:Nat},b0O X l i=some (r,R)->i<=r/\∃ o,l[r-i]? = some o/\a9S X o.op=some R
 | [],i,h=>by simp[b0O]at h
 | o :: l,i,h=>by
  unfold b0O at h;split at h
  ·rename_i R' hR;simp only[Option.some.injEq,Prod.mk.injEq]at h;obtain⟨rfl,rfl⟩:=h;exact⟨Nat.le_refl _,o,by simp,hR⟩
  ·obtain⟨h1,o',h2,h3⟩:=a6L h;refine⟨by omega,o',?_,h3⟩;rw[show r-i=(r-(i+1))+1 by omega];simpa using h2
theorem a2k{nt N:Nat}{ops:List Oper}{dec:List (Nat×Bool)}{r:Nat}{g:ChF}:∀(l:List Oper)(k:Nat)(s s':AS)(log:List Ent)(p:Option Prop),(∀ j,l[j]? = ops[k+j]?)->U4 X nt N ops dec r g l k s=.done s' log p->
  (∀ asm,(∀ q,p=some q->q=asm)->a0f X nt N ops dec r g asm log s)/\fin log s=s'/\(∀ x∈log,ops[x.1]? = some x.2.1)/\log.map (·.1)=List.range' k l.length/\(k<=r->r<k+l.length->∃ q,p=some q)
 | [],k,s,s',log,p,_,h=>by
  simp only[U4,DRX.done.injEq]at h;obtain⟨rfl,rfl,rfl⟩:=h;exact⟨λ_ _=>trivial,rfl,by simp,rfl,λh1 h2=>by simp at h2;omega⟩
 | o :: l,k,s,s',log,p,hl,h=>by
  have ho:ops[k]? = some o:=by simpa using (hl 0).symm
  have hl':∀ j,l[j]? = ops[k+1+j]? := λj=>by
   have:=hl (j+1);simp only[List.getElem?_cons_succ]at this;rw[this];congr 1;omega
  simp only[U4]at h;split at h
  ·rename_i hk;have hk:=Nat.eq_of_beq_eq_true hk;split at h
   ·rename_i hok;simp only[Bool.and_eq_true]at hok;split at h
    ·rename_i e q hq;split at h
     ·rename_i s1 log1 p1 h1;simp only[DRX.done.injEq]at h;obtain⟨rfl,rfl,rfl⟩:=h;obtain⟨h2,h3,h4,h5,h6⟩:=a2k l (k+1) _ _ _ _ hl' h1
      have hp1:∀(l:List Oper)(k':Nat)(s:AS)(s1:AS)(log1:List Ent)(p1:Option Prop),r<k'->U4 X nt N ops dec r g l k' s=.done s1 log1 p1->p1=none:=by
       intro l
       induction l with
       | nil=>intro k' s s1 log1 p1 _ h;simp only[U4,DRX.done.injEq]at h;exact h.2.2.symm
       | cons o l ih =>
        intro k' s s1 log1 p1 hlt h;simp only[U4]at h;split at h
        ·rename_i hb;have:=Nat.eq_of_beq_eq_true hb;omega
        ·split at h
         ·split at h
          ·rename_i h9;simp only[DRX.done.injEq]at h;obtain⟨_,_,rfl⟩:=h;exact ih (k'+1) _ _ _ _ (by omega) h9
          ·rename_i hno;exact absurd h (hno _ _ _)
         ·unfold b3J at h;split at h
          ·split at h
           ·split at h <;> cases h
           ·cases h
          ·cases h
      have hpn:=hp1 l (k+1) _ _ _ _ (by omega) h1;subst hpn;refine⟨λasm ha=>⟨.inl ⟨hk,λd hd=>?_,?_,?_⟩,h2 asm (λq hq=>by cases hq)⟩,h3,λx hx=>?_,by simp[h5,List.range'_succ],λ_ _=>⟨q,rfl⟩⟩
      ·have:=hok.1;rw[hd]at this;simpa [c2g]using this
      ·have:=hok.2
       cases hgd:o.guard with
       | none=>rfl
       | some x=>rw[hgd]at this;simp[b4f]at this
      ·rw[<-ha q rfl];exact hq
      ·rcases List.mem_cons.1 hx with rfl|hx
       ·exact ho
       ·exact h4 x hx
     ·rename_i hno;exact absurd h (hno _ _ _)
    ·cases h
   ·cases h
  ·rename_i hk;have hk:k≠r:=λe=>by subst e;simp at hk
   split at h
   ·rename_i e he;split at h
    ·rename_i s1 log1 p1 h1;simp only[DRX.done.injEq]at h;obtain⟨rfl,rfl,rfl⟩:=h;obtain⟨h2,h3,h4,h5,h6⟩:=a2k l (k+1) _ _ _ _ hl' h1;refine⟨λasm ha=>⟨.inr ⟨hk,he⟩,h2 asm ha⟩,h3,λx hx=>?_,by simp[h5,List.range'_succ],λh7 h8=>h6 (by omega) (by simp at h8;omega)⟩;rcases List.mem_cons.1 hx with rfl|hx
     ·exact ho
     ·exact h4 x hx
    ·rename_i hno;exact absurd h (hno _ _ _)
   ·unfold b3J at h;split at h
    ·split at h
     ·split at h <;> cases h
     ·cases h
    ·cases h
theorem a0U(hX:y9 P X)(hm:P.follows .mixedOrders=true){N0:Nat}{ρ0:Rho}{id:Nat}{ops:Array Oper}{S:St}{K:St->Prop}{Q:Exit->Act->World->Prop}{R:ROp}{r:Nat}{dec:List (Nat×Bool)}(hR:∀ o,ops.toList[r]? = some o->b4B P R o.op)
  (h:∀ i,∃ s log p,U4 X S.nt S.N ops.toList dec r (R.ev i) ops.toList 0 (S.sl,S.H)=.done s log p/\Z4 log (chk ops.toList log=true/\b5m p (K {nt:=S.nt,sl:=s.1,H:=s.2,N:=S.N+24*ops.toList.length})))
  {ρ:Rho} {a:Act} {w:World} (hS:Sat W0 Fr S ρ a w) (hN:N0<=S.N) (hρ:∀ n,n<N0->ρ n=ρ0 n) (hK:a0Z W0 Fr N0 ρ0 K (Q .normal)):(Code.region id ops true).wp P Q a w:=by
 obtain⟨i0⟩:=R.ne
 let F:R.ι->AS:=λi=>Classical.choose (h i)
 let L:R.ι->List Ent:=λi=>Classical.choose (Classical.choose_spec (h i))
 let p:R.ι->Option Prop:=λi=>Classical.choose (Classical.choose_spec (Classical.choose_spec (h i)))
 have hc:∀ i,U4 X S.nt S.N ops.toList dec r (R.ev i) ops.toList 0 (S.sl,S.H)=.done (F i) (L i) (p i)/\Z4 (L i) (chk ops.toList (L i)=true/\b5m (p i) (K {nt:=S.nt,sl:=(F i).1,H:=(F i).2,N:=S.N+24*ops.toList.length})) :=
  λi=>Classical.choose_spec (Classical.choose_spec (Classical.choose_spec (h i)))
 let asm:R.ι->Prop:=λi=>match p i with
  | some q=>q
  | none=>True
 have hasm:∀ i q,p i=some q->q=asm i:=λi q hq=>by simp only[asm,hq]
 have sp:=λi=>a2k ops.toList 0 _ _ _ _ (λj=>by simp) (hc i).1
 have ob:=λi=>a0b (hc i).2
 have ck:∀ i,a1W ops.toList=true/\a1j ops.toList (J6 ops.toList []) (L i)=true:=λi=>by
  have:=(ob i).2.1;simpa only[chk,Bool.and_eq_true]using this
 refine wp_region_any hm ?_
 have:=b2f (nt:=S.nt) (N:=S.N) (dec:=dec) (W0:=W0) (Fr:=Fr) (ρ0:=ρ0) (Q:=Q) hX (ck i0).1 (R:=R) (r:=r) hR (asm:=asm) (F:=F) hN (λi hi ρ' a' w' hS' hρ'=>?_) ops.toList.length (List.range' 0 ops.toList.length) (λ_=>True) L (Array.replicate ops.size false) (S.sl,S.H) ρ a {w with drawn:=w.drawn+1}
  (by simp) (by simp) (λj hj=>?_) ⟨i0,trivial⟩ (λi _=>(sp i).2.2.2.1) (λi _=>(sp i).2.2.1) ?_ (λi _=>Q5 (ck i).2) (λi _=>a0j (ob i).1) ?_ ?_ (λi _=>(sp i).1 (asm i) (hasm i)) (λi _=>by rw[(sp i).2.1];exact O3.refl _) ?_ hρ
 ·simpa using this
 ·refine hK _ ρ' a' w' (show K {nt:=S.nt,sl:=(F i).1,H:=(F i).2,N:=S.N+24*ops.toList.length} from ?_) ⟨?_,?_⟩ ?_ hρ'
  ·have h1:=(ob i).2.2;unfold b5m at h1;split at h1
   ·exact h1
   ·rename_i q hq;exact h1 (by rw[hasm i q hq];exact hi)
  ·exact hS'.h.mono λn hn=>hn.1
  ·exact hS'.s.mono (λn hn=>hn.1) (λ_ _=>rfl)
  ·exact Nat.le_trans hN (Nat.le_add_right _ _)
 ·have hj':j<ops.size:=by simpa using hj
  simp[hj']
 ·exact List.pairwise_lt_range'
 ·intro i o _ hl;rw[Array.getD_eq_getD_getElem?,Array.getElem?_replicate]at hl;split at hl <;> simp at hl
 ·by_cases hr:r<ops.toList.length
  ·exact .inl ⟨by simpa using hr,λ_=>trivial⟩
  ·refine .inr ⟨by simpa using hr,λi _=>?_⟩
   have hnone:∀(l:List Oper)(k:Nat)(s s1:AS)(log:List Ent)(q:Option Prop),k+l.length<=r->U4 X S.nt S.N ops.toList dec r (R.ev i) l k s=.done s1 log q->q=none:=by
    intro l
    induction l with
    | nil=>intro k s s1 log q _ h;simp only[U4,DRX.done.injEq]at h;exact h.2.2.symm
    | cons o l ih =>
     intro k s s1 log q hlt h;simp only[List.length_cons]at hlt;simp only[U4]at h;split at h
     ·rename_i hb;have:=Nat.eq_of_beq_eq_true hb;omega
     ·split at h
      ·split at h
       ·rename_i h9;simp only[DRX.done.injEq]at h;obtain⟨_,_,rfl⟩:=h;exact ih (k+1) _ _ _ _ (by omega) h9
       ·rename_i hno;exact absurd h (hno _ _ _)
      ·unfold b3J at h;split at h
       ·split at h
        ·split at h <;> cases h
        ·cases h
       ·cases h
   have:=hnone ops.toList 0 _ _ _ _ (by omega) (hc i).1;simp only[asm,this]
 ·have hU:∀ n,n<S.N->UI S.N ops.toList.length (List.range' 0 ops.toList.length) n:=λn hn=>⟨Nat.lt_of_lt_of_le hn (Nat.le_add_right _ _),λx _ hx=>absurd (Nat.lt_of_lt_of_le hn (Nat.le_trans (Nat.le_add_right _ _) hx.1)) (Nat.lt_irrefl _)⟩
  exact⟨(hS.h.mono hU).drew,hS.s.mono hU (λ_ _=>rfl)⟩
theorem b0X(hX:y9 P X){N0:Nat}{ρ0:Rho}{id:Nat}{ops:Array Oper}{S:St}{K:St->Prop}{Q:Exit->Act->World->Prop}(h:b6D X ops.toList S K)
  {ρ:Rho} {a:Act} {w:World} (hS:Sat W0 Fr S ρ a w) (hN:N0<=S.N) (hρ:∀ n,n<N0->ρ n=ρ0 n) (hK:a0Z W0 Fr N0 ρ0 K (Q .normal)):(Code.region id ops true).wp P Q a w:=by
 unfold b6D at h;split at h
 ·have key:∀(fuel:Nat)(dec:List (Nat×Bool)),a7r X ops.toList S K fuel dec->(Code.region id ops true).wp P Q a w:=by
   intro fuel
   induction fuel with
   | zero =>
    intro dec h;unfold a7r at h;split at h
    ·rename_i s log p hrun
     exact a0U hX hX.G.mix (R:=⟨Unit,⟨()⟩,λ_ _ _ _=>none⟩) (r:=ops.toList.length) (dec:=dec) (λo ho=>by simp at ho) (λi=>⟨s,log,p,hrun,by
      have:∀(l:List Ent)(q q':Prop),Z4 l q->(q->q')->Z4 l q':=by
       intro l
       induction l with
       | nil=>intro q q' h hq;exact hq h
       | cons x r ih =>
        intro q q' h hq;obtain⟨i,o,e⟩:=x;simp only[Z4]at h ⊢
        cases ho:e.obl with
        | none=>rw[ho]at h;exact ih _ _ h hq
        | some pp=>rw[ho]at h;exact⟨h.1,ih _ _ h.2 hq⟩
      exact this _ _ _ h λhq=>⟨hq.1,by
       unfold b5m;split
       ·exact hq.2
       ·exact λ_=>hq.2⟩⟩) hS hN hρ hK
    ·exact h.elim
    ·exact h.elim
   | succ fuel ih =>
    intro dec h;unfold a7r at h;split at h
    ·rename_i s log p hrun
     exact a0U hX hX.G.mix (R:=⟨Unit,⟨()⟩,λ_ _ _ _=>none⟩) (r:=ops.toList.length) (dec:=dec) (λo ho=>by simp at ho) (λi=>⟨s,log,p,hrun,by
      have:∀(l:List Ent)(q q':Prop),Z4 l q->(q->q')->Z4 l q':=by
       intro l
       induction l with
       | nil=>intro q q' h hq;exact hq h
       | cons x r ih =>
        intro q q' h hq;obtain⟨i,o,e⟩:=x;simp only[Z4]at h ⊢
        cases ho:e.obl with
        | none=>rw[ho]at h;exact ih _ _ h hq
        | some pp=>rw[ho]at h;exact⟨h.1,ih _ _ h.2 hq⟩
      exact this _ _ _ h λhq=>⟨hq.1,by
       unfold b5m;split
       ·exact hq.2
       ·exact λ_=>hq.2⟩⟩) hS hN hρ hK
    ·rename_i j b hrun
     cases b with
     | true=>exact ih _ (h.1 rfl)
     | false=>exact ih _ (h.2 rfl)
    ·exact h.elim
  exact key 20 [] h
 ·rename_i r R hR;obtain⟨_,o,ho,hro⟩:=a6L hR;simp only[Nat.sub_zero]at ho;refine a0U hX hX.G.mix (R:=R) (r:=r) (dec:=[]) (λo' ho'=>?_) (λi=>?_) hS hN hρ hK
  ·rw[ho]at ho';injection ho' with ho'
   subst ho';exact b0m hX hro
  ·have:=h i;split at this
   ·rename_i s log p hrun;exact⟨s,log,p,hrun,this⟩
   ·exact this.elim
end
end Go.Sx

namespace Go.Sx
open Go.RowKit
def H7(X:D7)(N0:Nat)(A:a6X):Code->Ann->St->(Xt->St->Prop)->Prop
 | .skip,_,S,K=>K .normal S
 | .region _ ops draw,_,S,K=>match draw with
  | false=>a9x X ops.toList ops.toList S (K .normal)
  | true=>b6D X ops.toList S (K .normal)
 | .seq x y,B,S,K=>match b3s B y with
  | none=>H7 X N0 A x B S (λe S'=>match e with
   | .normal=>H7 X N0 A y B S' K
   | e=>K e S')
  | some J=>H7 X N0 A x B S (λe S'=>match e with
   | .normal=>∃ j,J.inv j/\a4s N0 S' (J.I j)
   | e=>K e S')/\∀ j,J.inv j->H7 X N0 A y B (J.I j) K
 | .cond c x y,B,S,K=>match opr S.sl c with
  | some .tt=>H7 X N0 A x B S K
  | some .ff=>H7 X N0 A y B S K
  | some (.bool b)=>(b=true->H7 X N0 A x B S K)/\(b=false->H7 X N0 A y B S K)
  | _=>False
 | .block id x,B,S,K=>H7 X N0 A x B S (λe S'=>match e with
  | .exit j=>match Nat.beq j id with
   | true=>K .normal S'
   | false=>K (.exit j) S'
  | e=>K e S')
 | .exit id,_,S,K=>K (.exit id) S
 | .ret,_,S,K=>K .ret S
 | .loop x,B,S,K=>match b9g A x with
  | none=>match b3s B x with
   | none=>False
   | some J=>b1E N0 (λB' S' K'=>H7 X N0 A x (a1r B' B) S' K') S K ⟨J,λ_=>[]⟩
  | some (.unr l)=>a6e N0 S l/\a9j N0 (λS' K'=>H7 X N0 A x B S' K') K l
  | some (.unrD f)=>a6e N0 S (f S)/\a9j N0 (λS' K'=>H7 X N0 A x B S' K') K (f S)
  | some (.iter n)=>b0K (λS' K'=>H7 X N0 A x B S' K') K n S
  | some (.fam J)=>b1E N0 (λB' S' K'=>H7 X N0 A x (a1r B' B) S' K') S K J
  | some (.alt l)=>b6S N0 (λB' S' K'=>H7 X N0 A x (a1r B' B) S' K') S K l
 | _,_,_,_=>False
def J7(X:D7)(N0:Nat)(A:a6X)(B:Ann)(c:Code)(S:St)(K:Xt->St->Prop):Prop:=H7 X N0 A c B S K
section
variable {P:Program} {X:D7}
theorem b0n(hX:y9 P X){N0:Nat}{A:a6X}:∀(c:Code) {B:Ann} {S:St} {K:Xt->St->Prop},H7 X N0 A c B S K->Wp P N0 c S K:=by
 intro c
 induction c with
 | skip=>intro B S K h;exact Wp.run hX.G h
 | region id ops draw =>
  intro B S K h W0 Fr ρ0 ρ a w Q hS hN hρ hK;unfold H7 at h;split at h
  ·refine wp_region ?_;have:=a2d hX (ops:=ops.toList) (Q:=Q) ops.toList 0 (λj=>by simp) h hS hN hρ (λS' ρ' a' w' h1 h2 h3 h4=>hK .normal S' ρ' a' w' h1 h2 h3 h4);simpa [List.range_eq_range']using this
  ·exact b0X hX h hS hN hρ (λS' ρ' a' w' h1 h2 h3 h4=>hK .normal S' ρ' a' w' h1 h2 h3 h4)
 | seq x y ihx ihy =>
  intro B S K h;unfold H7 at h;split at h
  ·exact Wp.seq (ihx h) (λS' h'=>ihy h') (λ_ _ h=>h) (λ_ h=>h)
  ·rename_i J hJ;obtain⟨h1,h2⟩:=h;refine Wp.seq (ihx h1) (λS' h'=>?_) (λ_ _ h=>h) (λ_ h=>h);obtain⟨j,hj,hf⟩:=h';exact Wp.refines' (F5 hf) (ihy (h2 j hj))
 | cond c x y ihx ihy =>
  intro B S K h W0 Fr ρ0 ρ a w Q hS hN hρ hK;unfold H7 at h;split at h
  ·rename_i hv;exact wp_cond_true (by simpa [SV.den]using (F1 hS.s hv).1) (ihx h W0 Fr ρ0 ρ a w Q hS hN hρ hK)
  ·rename_i hv;exact wp_cond_false (by simpa [SV.den]using (F1 hS.s hv).1) (ihy h W0 Fr ρ0 ρ a w Q hS hN hρ hK)
  ·rename_i b hv;have hb:=(F1 hS.s hv).1;simp only[SV.den]at hb;exact wp_cond_split hb (λe=>ihx (h.1 e) W0 Fr ρ0 ρ a w Q hS hN hρ hK) (λe=>ihy (h.2 e) W0 Fr ρ0 ρ a w Q hS hN hρ hK)
  ·exact h.elim
 | block id x ih =>
  intro B S K h;exact Wp.block (ih h)
 | exit id=>intro B S K h;exact Wp.run hX.G h
 | ret=>intro B S K h;exact Wp.run hX.G h
 | loop x ih =>
  intro B S K h
  have hfam:∀ J:O9,b1E N0 (λB' S' K'=>H7 X N0 A x (a1r B' B) S' K') S K J->Wp P N0 (.loop x) S K:=by
   intro J h;obtain⟨⟨i0,h0,hf⟩,hr⟩:=h;refine Wp.loop (ι:={i:J.f.ι // J.f.inv i}) (λi=>J.f.I i.1) (λi=>J.f.μ i.1) ⟨i0,h0⟩ (F5 hf) λi=>?_
   refine Wp.mono (ih (hr i.1 i.2)) λe S' h'=>?_
   cases e with
   | normal =>
    obtain⟨i',h1,h2,h3⟩:=h';exact⟨⟨i',h1⟩,h2,F5 h3⟩
   | exit id=>exact h'
   | ret=>exact h'
  have hunr:∀ l:List Fam,(a6e N0 S l/\a9j N0 (λS' K'=>H7 X N0 A x B S' K') K l)->Wp P N0 (.loop x) S K:=by
   intro l h;obtain⟨h0,h1⟩:=h
   have key:∀(l:List Fam),a9j N0 (λS' K'=>H7 X N0 A x B S' K') K l->∀(k:Nat)(J:Fam),l[k]? = some J->∀ i,J.inv i->Wp P N0 x (J.I i) (λe S'=>match e with
     | .normal=>∃ J':Fam,l[k+1]? = some J'/\∃ i',J'.inv i'/\a4s N0 S' (J'.I i')
     | e=>K e S'):=by
    intro l
    induction l with
    | nil=>intro _ k J hk;simp at hk
    | cons J0 r ihl =>
     intro hu k J hk i hi;obtain⟨hu1,hu2⟩:=hu
     cases k with
     | zero =>
      simp only[List.getElem?_cons_zero,Option.some.injEq]at hk;subst hk;refine Wp.mono (ih (hu1 i hi)) λe S' h'=>?_
      cases e with
      | normal =>
       cases r with
       | nil=>exact(h':False).elim
       | cons J1 r1=>exact⟨J1,rfl,h'⟩
      | exit id=>exact h'
      | ret=>exact h'
     | succ k =>
      simp only[List.getElem?_cons_succ]at hk;refine Wp.mono (ihl hu2 k J hk i hi) λe S' h'=>?_
      cases e with
      | normal =>
       obtain⟨J',h2,h3⟩:=h';exact⟨J',by simpa using h2,h3⟩
      | exit id=>exact h'
      | ret=>exact h'
   cases l with
   | nil=>exact(h0:False).elim
   | cons J0 r =>
    obtain⟨i0,hi0,hf⟩:=h0;refine Wp.loop (ι:={q:(Σ k:Fin (J0 :: r).length,((J0 :: r).get k).ι) // ((J0 :: r).get q.1).inv q.2}) (λq=>((J0 :: r).get q.1.1).I q.1.2) (λq=>(J0 :: r).length-q.1.1.val) ⟨⟨⟨0,Nat.succ_pos _⟩,i0⟩,hi0⟩ (F5 hf) λq=>?_
    obtain⟨⟨⟨k,hk⟩,i⟩,hi⟩:=q;refine Wp.mono (key _ h1 k _ (List.getElem?_eq_getElem hk) i hi) λe S' h'=>?_
    cases e with
    | normal =>
     obtain⟨J',h2,i',h3,h4⟩:=h';obtain⟨hlt,h5⟩:=List.getElem?_eq_some_iff.1 h2;subst h5;exact⟨⟨⟨⟨k+1,hlt⟩,i'⟩,h3⟩,by show (J0 :: r).length-(k+1)<(J0 :: r).length-k;omega,F5 h4⟩
    | exit id=>exact h'
    | ret=>exact h'
  unfold H7 at h;split at h
  ·split at h
   ·exact h.elim
   ·rename_i J hJ;exact hfam ⟨J,λ_=>[]⟩ h
  ·rename_i l hl;exact hunr l h
  ·rename_i f hf;exact hunr (f S) h
  ·rename_i n hn;exact Wp.iter (λS K=>ih) n S h
  ·rename_i J hJ;exact hfam J h
  ·rename_i l hl
   have:∀ l:List O9,b6S N0 (λB' S' K'=>H7 X N0 A x (a1r B' B) S' K') S K l->Wp P N0 (.loop x) S K:=by
    intro l
    induction l with
    | nil=>intro h;exact(h:False).elim
    | cons J r ihl =>
     intro h;rcases h with h|h
     ·exact hfam J h
     ·exact ihl h
   exact this l h
 | _=>intro B S K h;exact(h:False).elim
theorem a2u(hX:y9 P X){N0:Nat}{A:a6X}{B:Ann}(c:Code){S:St}{K:Xt->St->Prop}(h:J7 X N0 A B c S K):Wp P N0 c S K:=b0n hX c h
end
structure RHC (ι:Type) where
 args:List SV
 heap:v5
 obl:Option Prop
 P:ι->Prop
 out:ι->HC
inductive RRd (ι:Type) where
 | fail
 | ret (hc:RHC ι)
 | read (n:Nm) (k:Ob->RRd ι)
def RRd.run{ι:Type}(rd:Nm->Option Ob):RRd ι->List Nm->Option (List Nm×RHC ι)
 | .fail,_=>none
 | .ret hc,sg=>some (sg,hc)
 | .read n k,sg=>match rd n with
  | some o=>(k o).run rd (sg++[n])
  | none=>none
def RRd.All{ι:Type}(Q:List (Nm×Ob)->RHC ι->Prop):RRd ι->List (Nm×Ob)->Prop
 | .fail,_=>True
 | .ret hc,acc=>Q acc hc
 | .read n k,acc=>∀ o,(k o).All Q (acc++[(n,o)])
theorem RRd.all_run{ι:Type}{rd:Nm->Option Ob}{Q:List (Nm×Ob)->RHC ι->Prop}:∀ {m:RRd ι} {acc:List (Nm×Ob)} {sg:List Nm} {hc:RHC ι},m.All Q acc->(∀ p∈acc,rd p.1=some p.2)->m.run rd (p7 acc)=some (sg,hc)->
  ∃ acc',p7 acc'=sg/\(∀ p∈acc',rd p.1=some p.2)/\Q acc' hc
 | .fail,_,_,_,_,_,h=>by simp[RRd.run]at h
 | .ret hc',acc,sg,hc,hq,hacc,h=>by
  simp only[RRd.run,Option.some.injEq,Prod.mk.injEq]at h;obtain⟨rfl,rfl⟩:=h;exact⟨acc,rfl,hacc,hq⟩
 | .read n k,acc,sg,hc,hq,hacc,h=>by
  simp only[RRd.run]at h;split at h
  ·rename_i o ho;refine RRd.all_run (hq o) (acc:=acc++[(n,o)]) (λp hp=>?_) (by rw[a1l];exact h);rcases List.mem_append.1 hp with hp|hp
   ·exact hacc p hp
   ·simp only[List.mem_singleton]at hp;subst hp;exact ho
  ·cases h
theorem RRd.run_sg{ι:Type}{rd:Nm->Option Ob}:∀ {m:RRd ι} {sg sg':List Nm} {hc:RHC ι},m.run rd sg=some (sg',hc)->∀ n∈sg,n∈sg'
 | .fail,_,_,_,h=>by simp[RRd.run]at h
 | .ret hc',sg,sg',hc,h=>by
  simp only[RRd.run,Option.some.injEq,Prod.mk.injEq]at h;obtain⟨rfl,rfl⟩:=h;exact λn hn=>hn
 | .read n k,sg,sg',hc,h=>by
  simp only[RRd.run]at h;split at h
  ·exact λm hm=>RRd.run_sg h m (List.mem_append_left _ hm)
  ·cases h
theorem RRd.run_loc{ι:Type}{rd rd':Nm->Option Ob}:∀ {m:RRd ι} {sg sg':List Nm} {hc:RHC ι},m.run rd sg=some (sg',hc)->(∀ n∈sg',rd' n=rd n)->m.run rd' sg=some (sg',hc)
 | .fail,_,_,_,h,_=>by simp[RRd.run]at h
 | .ret hc',sg,sg',hc,h,_=>h
 | .read n k,sg,sg',hc,h,hr=>by
  simp only[RRd.run]at h ⊢;split at h
  ·rename_i o ho;have hn:n∈sg':=RRd.run_sg h n (by simp);rw[hr n hn,ho];exact RRd.run_loc h hr
  ·cases h
def l9(ι:Type)(ne:Nonempty ι)(C:List SV->RRd ι):a9I:=⟨ι,ne,λi args rd nm=>match (C args).run rd []with
 | some (sg,hc)=>match U8 sg with
  | true=>some (⟨some ((hc.out i).val.ren (H1 sg nm)),R9 (H1 sg nm) (hc.out i).wr,R9 (H1 sg nm) (hc.out i).news,sg,hc.obl⟩,hc.P i)
  | false=>none
 | none=>none⟩
def a8u{ι:Type}(fn:Func)(args:List SV)(acc:List (Nm×Ob))(hc:RHC ι):Prop :=
 U9 (Z2 acc.length hc.args&&Nat.ble hc.args.length fn.ntmps)
  ((∀ i,(a1v acc.length hc.heap (hc.out i).wr&&(a1n acc.length (hc.out i).news&&b0W (hc.out i).wr hc.heap))=true)/\j9 (o9 (p7 acc)) args hc.args/\c0x (o9 (p7 acc)) acc.length 0 acc hc.heap)
theorem I6 {P:Program} {X:D7} (hX:y9 P X) {f:Nat} {fn:Func} (hf:P.funcs[f]? = some fn) (hb:fn.body.isNone=false) (hnm:(fn.name == "runtime.NumGoroutine")=false) {ι:Type} {ne:Nonempty ι} {C:List SV->RRd ι}
  (h:∀ args,(C args).All (λacc hc=>okP hc.obl->a8u fn args acc hc/\
   ∃ A B,J7 X acc.length A B (j3 fn) (q9 fn.ntmps hc.args hc.heap acc.length) (r6 X.G.E.T fn.results.toList λS v=>∃ i,hc.P i/\w0 acc.length (hc.out i) S v)) []):u6 P f (l9 ι ne C) where
 loc:=by
  intro i args rd rd' nm e p hc hr;simp only[l9]at hc ⊢;split at hc
  ·rename_i sg hc0 hrun;split at hc
   ·rename_i hd;have he:=hc;simp only[Option.some.injEq,Prod.mk.injEq]at he;obtain⟨rfl,_⟩:=he;simp only[RRd.run_loc hrun hr,hd];exact hc
   ·cases hc
  ·cases hc
 calls:=by
  intro W0 Fr U H ρ w nm args hH hbd hn hall;obtain⟨i0⟩:=ne;obtain⟨e0,p0,h0,ho⟩:=hall i0;simp only[l9]at h0;split at h0
  case h_2=>cases h0
  rename_i sg hc hrun;split at h0
  case h_2=>cases h0
  rename_i hd;simp only[Option.some.injEq,Prod.mk.injEq]at h0;obtain⟨rfl,rfl⟩:=h0;obtain⟨acc,hacc,hlook,hQ⟩:=RRd.all_run (rd:=look H) (h args) (acc:=[]) (by simp) hrun;obtain⟨h1,A,B,h2⟩:=hQ ho;obtain⟨h3,h4,h5,h6⟩:=D9 h1;simp only[Bool.and_eq_true]at h3;subst hacc
  refine(a3i hX.G hf (Q9 hb) hnm hH hn hlook hd h5 h3.1 h3.2 (a0a h6) (I:=ι) (post:=hc.P) (out:=hc.out) (λi _=>by
   have:=h4 i;simp only[Bool.and_eq_true]at this
   exact⟨this.1,this.2.1,this.2.2⟩) (Wp.mono (a2u hX _ h2) λe S' hk'=>Z5 (λ_ _ ⟨i,hi,hp⟩=>⟨i,hi,a2m hp⟩) hk')).mono ?_
  rintro en w' ⟨i,hi,ρ2,h7,h8,v,h9,h10,h11⟩
  exact⟨i,⟨some ((hc.out i).val.ren (H1 (p7 acc) nm)),R9 (H1 (p7 acc) nm) (hc.out i).wr,R9 (H1 (p7 acc) nm) (hc.out i).news,p7 acc,hc.obl⟩,hc.P i,
   by simp only[l9,hrun,hd],hi,ρ2,h7,h8,v,h9,h10,h11⟩
end Go.Sx

namespace Go.Sx
open Go.RowKit
def b8T(ts:List Nat):Ob:=⟨true,0, .raw ts (λ_=>False) (λ_=>0) (λ_ _=>.bool false),0⟩
def St.addRaw(S:St)(ts:List Nat):St:={nt:=S.nt,sl:=S.sl,H:=(S.N,b8T ts) :: S.H,N:=S.N+1}
theorem z5.addRaw{N0:Nat}{S:St}(ts:List Nat)(h:N0<=S.N):z5 N0 S (S.addRaw ts):=by
 refine⟨Nat.le_succ_of_le h,λW0 Fr ρ a w hS=>⟨λn=>if n=S.N then none else ρ n,⟨?_,?_⟩,λn hn=>if_neg (Nat.ne_of_lt (Nat.lt_of_lt_of_le hn h))⟩⟩
 ·have hag:∀ n,n<S.N->(if n=S.N then none else ρ n)=ρ n:=λn hn=>if_neg (Nat.ne_of_lt hn)
  have hne:∀ {m:Nm} {o:Ob},look S.H m=some o->m<S.N:=λhm=>hS.h.used _ _ hm
  refine {
   os:=hS.h.os,tape:=hS.h.tape,output:=hS.h.output,size:=hS.h.size,frlt:=hS.h.frlt,frame:=hS.h.frame
   used:=λm o hm=>?_
   bd:=λm o hm=>?_
   obj:=λm o hm=>?_
   inj:=λm1 m2 o1 o2 p q h1 h2 hne' hr1 hr2 hp hq=>?_
   free:=λm o p hm hr hp=>?_
   rawd:=λm o ts' D sz F hm hr hc=>?_}
  ·simp only[St.addRaw,b9]at hm;split at hm
   ·rename_i e;subst e;exact Nat.lt_succ_self _
   ·exact Nat.lt_succ_of_lt (hne hm)
  ·simp only[St.addRaw,b9]at hm;split at hm
   ·cases hm;intro j hj;exact absurd hj (Nat.not_lt_zero j)
   ·exact a9.bd_mono (λn hn=>Nat.lt_succ_of_lt hn) (hS.h.bd m o hm)
  ·simp only[St.addRaw,b9]at hm;split at hm
   ·rename_i e;subst e;cases hm;rw[if_pos rfl];rfl
   ·have hlt:=hne hm;show Y0 w _ o (if m=S.N then none else ρ m);rw[hag m hlt];exact(hS.h.obj m o hm).congr (λ_ _ _ _ _ _=>rfl) (λj hj=>SV.den_congr (U:=(·< S.N)) hag _ (hS.h.bd m o hm j hj))
  ·simp only[St.addRaw,b9]at h1 h2;split at h1
   ·rename_i e;subst e;rw[if_pos rfl]at hp;cases hp
   ·split at h2
    ·rename_i e;subst e;rw[if_pos rfl]at hq;cases hq
    ·rw[hag m1 (hne h1)]at hp;rw[hag m2 (hne h2)]at hq;exact hS.h.inj m1 m2 o1 o2 p q h1 h2 hne' hr1 hr2 hp hq
  ·simp only[St.addRaw,b9]at hm;split at hm
   ·rename_i e;subst e;rw[if_pos rfl]at hp;cases hp
   ·rw[hag m (hne hm)]at hp;exact hS.h.free m o p hm hr hp
  ·simp only[St.addRaw,b9]at hm;split at hm
   ·cases hm;simp only[b8T,a9.raw.injEq]at hc;obtain⟨rfl,rfl,rfl,rfl⟩:=hc;exact⟨λb hb=>hb.elim,λb hb=>hb.elim,λ_ _ _ _ _ _ _=>id,λ_ _ _ _ _ _ _ _ _ _ b hb=>hb.elim⟩
   ·have k:=hS.h.rawd m o ts' D sz F hm hr hc;refine⟨k.sat,k.free,λm' o' q hm' hne' hr' hq=>?_,λm' o' ts2 D2 sz2 F2 hm' hne' hr' hc'=>?_⟩
    ·simp only[St.addRaw,b9]at hm';split at hm'
     ·rename_i e;subst e;rw[if_pos rfl]at hq;cases hq
     ·rw[hag m' (hne hm')]at hq;exact k.sep m' o' q hm' hne' hr' hq
    ·simp only[St.addRaw,b9]at hm';split at hm'
     ·cases hm';simp only[b8T,a9.raw.injEq]at hc';obtain⟨rfl,rfl,rfl,rfl⟩:=hc';exact λb _=>id
     ·exact k.sepr m' o' ts2 D2 sz2 F2 hm' hne' hr' hc'
 ·exact hS.s.mono (λn hn=>Nat.lt_succ_of_lt hn) (λn hn=>if_neg (Nat.ne_of_lt hn))
theorem Wp.addRaw{P:Program}{N0:Nat}{c:Code}{S:St}{K:Xt->St->Prop}(ts:List Nat)(h:N0<=S.N)(hw:Wp P N0 c (S.addRaw ts) K):Wp P N0 c S K:=Wp.refines' (z5.addRaw ts h) hw
theorem a9X {P:Program} {X:D7} (hX:y9 P X) {f:Nat} {fn:Func} (hf:P.funcs[f]? = some fn) (hb:fn.body.isNone=false) (hnm:(fn.name == "runtime.NumGoroutine")=false) {ι:Type} {ne:Nonempty ι} {C:List SV->RRd ι} (ts:List Nat)
  (h:∀ args,(C args).All (λacc hc=>okP hc.obl->a8u fn args acc hc/\
   ∃ A B,J7 X acc.length A B (j3 fn) ((q9 fn.ntmps hc.args hc.heap acc.length).addRaw ts) (r6 X.G.E.T fn.results.toList λS v=>∃ i,hc.P i/\w0 acc.length (hc.out i) S v)) []):u6 P f (l9 ι ne C) where
 loc:=by
  intro i args rd rd' nm e p hc hr;simp only[l9]at hc ⊢;split at hc
  ·rename_i sg hc0 hrun;split at hc
   ·rename_i hd;have he:=hc;simp only[Option.some.injEq,Prod.mk.injEq]at he;obtain⟨rfl,_⟩:=he;simp only[RRd.run_loc hrun hr,hd];exact hc
   ·cases hc
  ·cases hc
 calls:=by
  intro W0 Fr U H ρ w nm args hH hbd hn hall;obtain⟨i0⟩:=ne;obtain⟨e0,p0,h0,ho⟩:=hall i0;simp only[l9]at h0;split at h0
  case h_2=>cases h0
  rename_i sg hc hrun;split at h0
  case h_2=>cases h0
  rename_i hd;simp only[Option.some.injEq,Prod.mk.injEq]at h0;obtain⟨rfl,rfl⟩:=h0;obtain⟨acc,hacc,hlook,hQ⟩:=RRd.all_run (rd:=look H) (h args) (acc:=[]) (by simp) hrun;obtain⟨h1,A,B,h2⟩:=hQ ho;obtain⟨h3,h4,h5,h6⟩:=D9 h1;simp only[Bool.and_eq_true]at h3;subst hacc
  refine(a3i hX.G hf (Q9 hb) hnm hH hn hlook hd h5 h3.1 h3.2 (a0a h6) (I:=ι) (post:=hc.P) (out:=hc.out) (λi _=>by
   have:=h4 i;simp only[Bool.and_eq_true]at this
   exact⟨this.1,this.2.1,this.2.2⟩) (Wp.mono (Wp.addRaw ts (Nat.le_refl _) (a2u hX _ h2)) λe S' hk'=>Z5 (λ_ _ ⟨i,hi,hp⟩=>⟨i,hi,a2m hp⟩) hk')).mono ?_
  rintro en w' ⟨i,hi,ρ2,h7,h8,v,h9,h10,h11⟩
  exact⟨i,⟨some ((hc.out i).val.ren (H1 (p7 acc) nm)),R9 (H1 (p7 acc) nm) (hc.out i).wr,R9 (H1 (p7 acc) nm) (hc.out i).news,p7 acc,hc.obl⟩,hc.P i,
   by simp only[l9,hrun,hd],hi,ρ2,h7,h8,v,h9,h10,h11⟩
end Go.Sx

namespace Go.Sx
open Go.RowKit
theorem a7C{k:Nat}{tau:List (Option Nm)}{n:Nat}(h:n<k):J9 k tau n=some n:=by
 unfold J9;rw[show Nat.blt n k=true from Nat.ble_eq_true_of_le h]
theorem a0g.one{k n:Nat}{hc:HC}{S:St}{v:SV}{o o':Ob}(hn:n<k)(hw:hc.wr=[(n,o')])(hnews:hc.news=[])(hl:look S.H n=some o)(hu:o'.c.und (k+24))(ho:obR (J9 k []) o o')(hv:o8 (J9 k []) v hc.val)(hvu:hc.val.und (k+24)=true):a0g k hc S v [] where
 val:=hv
 vu:=hvu
 hp:=by
  rw[hw,hnews];refine⟨⟨Nat.ble_eq_true_of_le (by omega),hu,?_⟩,trivial⟩;rw[a7C hn];simp only[hl];exact ho
 dist:=by
  rw[hw,hnews];simp[M9,a7C hn,U8,b5G]
theorem b3E{σ:Sig}{el es:Nat}{ts D sz F}:obR σ ⟨true,el, .raw ts D sz F,es⟩ ⟨true,el, .raw ts D sz F,es⟩:=⟨rfl,rfl,rfl,rfl,rfl,rfl⟩
end Go.Sx

namespace Go.Sx
open Go.RowKit
structure RM where
 D:Nat->Prop
 S:Nat->Nat
 F:Nat->Nat->Value
instance:Inhabited RM:=⟨⟨λ_=>False,λ_=>0,λ_ _=>.bool false⟩⟩
def rwO(ts:List Nat)(q:RM):Ob:=⟨true,0, .raw ts q.D q.S q.F,0⟩
def G2:Ob->Option (List Nat×RM)
 | ⟨true,0, .raw ts D sz F,0⟩=>some (ts,⟨D,sz,F⟩)
 | _=>none
theorem b2Z{o:Ob}{ts:List Nat}{q:RM}(h:G2 o=some (ts,q)):o=rwO ts q:=by
 unfold G2 at h;split at h
 ·simp only[Option.some.injEq,Prod.mk.injEq]at h;obtain⟨rfl,rfl⟩:=h;rfl
 ·cases h
theorem z9{σ:Sig}{o:Ob}{ts:List Nat}{q:RM}(h:G2 o=some (ts,q)):obR σ o (rwO ts q):=by
 rw[b2Z h];exact b3E
def G6{ι:Type}(k:Nat)(ts:List Nat)(P:ι->Prop)(q:ι->RM)(val:ι->SV)(o:Option Ob)(v:SV):Prop :=
 ∃ i,P i/\o=some (rwO ts (q i))/\o8 (J9 k []) v (val i)
theorem a1H {P:Program} {X:D7} (hX:y9 P X) {f:Nat} {fn:Func} (hf:P.funcs[f]? = some fn) (hb:fn.body.isNone=false) (hnm:(fn.name == "runtime.NumGoroutine")=false) {ι:Type} {ne:Nonempty ι} {C:List SV->RRd ι}
  (h:∀ args,(C args).All (λacc hc=>okP hc.obl->a8u fn args acc hc/\
   Wp P acc.length (j3 fn) (q9 fn.ntmps hc.args hc.heap acc.length) (r6 X.G.E.T fn.results.toList λS v=>∃ i,hc.P i/\∃ tau,a0g acc.length (hc.out i) S v tau)) []):u6 P f (l9 ι ne C) where
 loc:=by
  intro i args rd rd' nm e p hc hr;simp only[l9]at hc ⊢;split at hc
  ·rename_i sg hc0 hrun;split at hc
   ·rename_i hd;have he:=hc;simp only[Option.some.injEq,Prod.mk.injEq]at he;obtain⟨rfl,_⟩:=he;simp only[RRd.run_loc hrun hr,hd];exact hc
   ·cases hc
  ·cases hc
 calls:=by
  intro W0 Fr U H ρ w nm args hH hbd hn hall;obtain⟨i0⟩:=ne;obtain⟨e0,p0,h0,ho⟩:=hall i0;simp only[l9]at h0;split at h0
  case h_2=>cases h0
  rename_i sg hc hrun;split at h0
  case h_2=>cases h0
  rename_i hd;simp only[Option.some.injEq,Prod.mk.injEq]at h0;obtain⟨rfl,rfl⟩:=h0;obtain⟨acc,hacc,hlook,hQ⟩:=RRd.all_run (rd:=look H) (h args) (acc:=[]) (by simp) hrun;obtain⟨h1,h2⟩:=hQ ho;obtain⟨h3,h4,h5,h6⟩:=D9 h1;simp only[Bool.and_eq_true]at h3;subst hacc
  refine(a3i hX.G hf (Q9 hb) hnm hH hn hlook hd h5 h3.1 h3.2 (a0a h6) (I:=ι) (post:=hc.P) (out:=hc.out) (λi _=>by
   have:=h4 i;simp only[Bool.and_eq_true]at this
   exact⟨this.1,this.2.1,this.2.2⟩) h2).mono ?_
  rintro en w' ⟨i,hi,ρ2,h7,h8,v,h9,h10,h11⟩
  exact⟨i,⟨some ((hc.out i).val.ren (H1 (p7 acc) nm)),R9 (H1 (p7 acc) nm) (hc.out i).wr,R9 (H1 (p7 acc) nm) (hc.out i).news,p7 acc,hc.obl⟩,hc.P i,
   by simp only[l9,hrun,hd],hi,ρ2,h7,h8,v,h9,h10,h11⟩
theorem A7 {P:Program} {X:D7} (hX:y9 P X) {f:Nat} {fn:Func} (hf:P.funcs[f]? = some fn) (hb:fn.body.isNone=false) (hnm:(fn.name == "runtime.NumGoroutine")=false) {ι:Type} {ne:Nonempty ι} {C:List SV->RRd ι}
  (h:∀ args,(C args).All (λacc hc=>okP hc.obl->a8u fn args acc hc/\0<acc.length/\
   ∃ ts q val,(∀ i,hc.out i=⟨[],[],val i,[(0,rwO ts (q i))],[],none⟩)/\(∀ i,hc.P i->(val i).und (acc.length+24)=true)/\
   ∃ A B,J7 X acc.length A B (j3 fn) (q9 fn.ntmps hc.args hc.heap acc.length) (r6 X.G.E.T fn.results.toList λS v=>G6 acc.length ts hc.P q val (look S.H 0) v)) []):u6 P f (l9 ι ne C):=by
 refine a1H hX hf hb hnm λargs=>?_
 have mono:∀ {Q Q':List (Nm×Ob)->RHC ι->Prop} (hq:∀ acc hc,Q acc hc->Q' acc hc) {m:RRd ι} {acc:List (Nm×Ob)},m.All Q acc->m.All Q' acc:=by
  intro Q Q' hq m
  induction m with
  | fail=>intro acc h;trivial
  | ret hc=>intro acc h;exact hq _ _ h
  | read n k ih=>intro acc h o;exact ih o (h o)
 refine mono (λacc hc hh ho=>?_) (h args);obtain⟨h1,h0,ts,q,val,ho1,hu,A,B,h2⟩:=hh ho;refine⟨h1,Wp.mono (a2u hX _ h2) λe S' hk'=>Z5 (λS v hq=>?_) hk'⟩;obtain⟨i,hi,hl,hv⟩:=hq;refine⟨i,hi,[],?_⟩;rw[ho1 i];exact a0g.one (n:=0) (o:=rwO ts (q i)) (o':=rwO ts (q i)) h0 rfl rfl hl trivial b3E hv (hu i hi)
end Go.Sx

namespace Go.Proofs.Tryz.Sx
open Go Go.Sx Go.Proofs Go.Fl Go.Geo
set_option maxRecDepth 100000
def nx(len i:Nat):Nat:=if i+1=len then 0 else i+1
def nx2(len i:Nat):Nat:=if i+1=len then 1 else if i+2=len then 0 else i+2
def la(g:Nat->Nat)(k:Nat):Nat->Nat
 | 0=>0
 | i+1=>g (2*i+k)
def lb(g:Nat->Nat)(len k:Nat):Nat->Nat
 | 0=>0
 | i+1=>g (2*nx len i+k)
def lc(g:Nat->Nat)(len k:Nat):Nat->Nat
 | 0=>0
 | i+1=>g (2*nx2 len i+k)
def b1V(i x y:Nat):Nat:=if i=0∨fLt .f64 x y=true then x else y
def a6l(i x lo hi:Nat):Nat:=if i=0 then x else if fLt .f64 x lo=true then hi else if fGt .f64 x hi=true then x else hi
def rlo(g:Nat->Nat)(k:Nat):Nat->Nat
 | 0=>0
 | i+1=>b1V i (g (2*i+k)) (rlo g k i)
def rhi(g:Nat->Nat)(k:Nat):Nat->Nat
 | 0=>0
 | i+1=>a6l i (g (2*i+k)) (rlo g k i) (rhi g k i)
def b7p(s ax ay bx by':Nat):Nat:=fop .add .f64 s (fop .mul .f64 (fop .sub .f64 bx ax) (fop .add .f64 by' ay))
def cwF(g:Nat->Nat)(len:Nat):Nat->Nat
 | 0=>0
 | i+1=>b7p (cwF g len i) (g (2*i)) (g (2*i+1)) (g (2*nx len i)) (g (2*nx len i+1))
def zcF(g:Nat->Nat)(len i:Nat):Nat :=
 fop .sub .f64 (fop .mul .f64 (fop .sub .f64 (g (2*nx len i)) (g (2*i))) (fop .sub .f64 (g (2*nx2 len i+1)) (g (2*nx len i+1))))
  (fop .mul .f64 (fop .sub .f64 (g (2*nx len i+1)) (g (2*i+1))) (fop .sub .f64 (g (2*nx2 len i)) (g (2*nx len i))))
def c2N(d:Int)(c:Bool)(z:Nat):Int×Bool :=
 if c=true then(d,c)else if d=0 then(if fLt .f64 z 0=true then(-1,c)else if fGt .f64 z 0=true then(1,c)else(d,c))
 else if fLt .f64 z 0=true then(d,decide (d=1))else if fGt .f64 z 0=true then(d,decide (d = -1))else(d,c)
def dcF(g:Nat->Nat)(len:Nat):Nat->Int×Bool
 | 0=>(0,false)
 | i+1=>c2N (dcF g len i).1 (dcF g len i).2 (zcF g len i)
def j4(len:Nat)(cl:Bool):Bool:=decide (2<=len/\(cl=true->3<=len))
def pick(b:Bool)(x:Nat):Nat:=if b=true then x else 0
def c7z(s ax ay bx by':Nat):Prop:=fok .sub .f64 bx ax/\fok .add .f64 by' ay/\fok .mul .f64 (fop .sub .f64 bx ax) (fop .add .f64 by' ay)/\fok .add .f64 s (fop .mul .f64 (fop .sub .f64 bx ax) (fop .add .f64 by' ay))
def c7f(ax ay bx by' cx cy:Nat):Prop:=fok .sub .f64 bx ax/\fok .sub .f64 cy by'/\fok .mul .f64 (fop .sub .f64 bx ax) (fop .sub .f64 cy by')/\fok .sub .f64 by' ay/\fok .sub .f64 cx bx/\fok .mul .f64 (fop .sub .f64 by' ay) (fop .sub .f64 cx bx)/\
 fok .sub .f64 (fop .mul .f64 (fop .sub .f64 bx ax) (fop .sub .f64 cy by')) (fop .mul .f64 (fop .sub .f64 by' ay) (fop .sub .f64 cx bx))
def ppOk(g:Nat->Nat)(len:Nat):Prop:=∀ i,i<len->c7z (cwF g len i) (g (2*i)) (g (2*i+1)) (g (2*nx len i)) (g (2*nx len i+1))/\
 c7f (g (2*i)) (g (2*i+1)) (g (2*nx len i)) (g (2*nx len i+1)) (g (2*nx2 len i)) (g (2*nx2 len i+1))
def ppH(len:Nat)(g:Nat->Nat)(r a b c:List SV):v5:=[(0,⟨false,100, .flts .f64 (2*len) g,0⟩),(1,⟨true,102, .cells r,0⟩),(2,⟨true,100, .cells a,0⟩),(3,⟨true,100, .cells b,0⟩),(4,⟨true,100, .cells c,0⟩)]
def pf(x:Nat):SV:=.flt .f64 x
def ppS(len i:Nat)(cl:Bool)(cw:Nat)(d:Int)(cc:Bool):Slots :=
 [(0, .slcc 0 len),(1, .bool cl),(5, .ptr 1 0),(7, .bool cc),(8, .int .i64 d),(9, .ptr 2 0),(10, .ptr 3 0),(11, .ptr 4 0),(12, .flt .f64 cw),(13, .int .i64 i)]
def c9r(len i:Nat)(cl:Bool)(g:Nat->Nat)(rx ry:Nat)(ai bi:Nat)(cwi:Nat)(di:Nat):St :=
 ⟨201,ppS len i cl (cwF g len cwi) (dcF g len di).1 (dcF g len di).2,
  ppH len g [pf (rlo g 0 rx),pf (rlo g 1 ry),pf (rhi g 0 rx),pf (rhi g 1 ry)] [pf (la g 0 ai),pf (la g 1 ai)] [pf (lb g len 0 bi),pf (lb g len 1 bi)] [pf (lc g len 0 bi),pf (lc g len 1 bi)],5⟩
def one(len i:Nat)(cl:Bool)(g:Nat->Nat)(rx ry ai bi cwi di:Nat)(p:Prop):Fam:=⟨Nat,λ_=>c9r len i cl g rx ry ai bi cwi di,λ_=>p,λ_=>0⟩
def ppL(len:Nat)(cl:Bool)(g:Nat->Nat):O9 :=
 ⟨⟨Nat,λi=>c9r len i cl g i i i i i i,λi=>i<=len/\j4 len cl=true,λi=>len-i⟩,λi=>[
  (19,one len i cl g (i+1) (i+1) i i i i (i<len/\j4 len cl=true)),
  (20,one len i cl g (i+1) (i+1) (i+1) i i i (i<len/\j4 len cl=true)),
  (28,one len i cl g (i+1) (i+1) (i+1) (i+1) i i (i<len/\j4 len cl=true)),
  (29,one len i cl g (i+1) (i+1) (i+1) (i+1) (i+1) i (i<len/\j4 len cl=true))]⟩
def ppK(len:Nat)(cl:Bool)(g:Nat->Nat):Fam:=⟨Nat,λ_=>⟨201,[(0, .slcc 0 len),(1, .bool cl),(5, .ptr 1 0)],[(0,⟨false,100, .flts .f64 (2*len) g,0⟩),(1,⟨true,102, .cells [pf 0,pf 0,pf 0,pf 0],0⟩)],2⟩,λ_=>j4 len cl=true,λ_=>0⟩
noncomputable def a9o:List SV->RdM
 | [.slcc n len,v]=>.read n λo0=>(match r7 .f64 o0.c with
  | some (m0,g)=>(match v.toB with
  | some cl=>.ret ⟨[.slcc 0 len, .bool cl],[(0,⟨false,100, .flts .f64 m0 g,0⟩)], .tup [.bool (j4 len cl && !(dcF g len len).2), .agg [.flt .f64 (pick (j4 len cl) (rlo g 0 len)), .flt .f64 (pick (j4 len cl) (rlo g 1 len)), .flt .f64 (pick (j4 len cl) (rhi g 0 len)), .flt .f64 (pick (j4 len cl) (rhi g 1 len))], .bool (j4 len cl&&fGt .f64 (cwF g len len) 0)],[],[],some (m0=2*len/\len<=1000000/\(j4 len cl=true->ppOk g len))⟩
  | none=>.fail)
  | none=>.fail)
 | _=>.fail
theorem b6N(len:Nat)(cl:Bool)(g:Nat->Nat){w9:HC}(e9:w9=⟨[.slcc 0 len, .bool cl],[(0,⟨false,100, .flts .f64 (2*len) g,0⟩)], .tup [.bool (j4 len cl && !(dcF g len len).2), .agg [.flt .f64 (pick (j4 len cl) (rlo g 0 len)), .flt .f64 (pick (j4 len cl) (rlo g 1 len)), .flt .f64
 (pick (j4 len cl) (rhi g 0 len)), .flt .f64 (pick (j4 len cl) (rhi g 1 len))], .bool (j4 len cl&&fGt .f64 (cwF g len len) 0)],[],[],some (2*len=2*len/\len<=1000000/\(j4 len cl=true->ppOk g len))⟩){T1}(t1:T1=fun
 (i:Nat)=>((True/\len=len)/\cl=cl/\(True/\0=0)/\(dcF g len i).2=(dcF g len i).2/\(dcF g len i).1=(dcF g len i).1/\(True/\0=0)/\(True/\0=0)/\(True/\0=0)/\cwF g len i=cwF g len i/\(↑i:Int)=(↑i:Int)/\True))
 {T2}(t2:T2=λ(i:Nat)=>(fop BinOp.sub .f64 (fop BinOp.mul .f64 (fop BinOp.sub .f64 (lb g len 0 (i+1)) (la g 0 (i+1))) (fop BinOp.sub .f64 (lc g len 1 (i+1)) (lb g len 1 (i+1)))) (fop BinOp.mul .f64 (fop BinOp.sub .f64 (lb g len 1 (i+1))
 (la g 1 (i+1))) (fop BinOp.sub .f64 (lc g len 0 (i+1)) (lb g len 0 (i+1)))))) {T3}(t3:T3=λ(i:Nat)=>(2*len<=2*len/\∀(i:Nat),i<2*len->g i=g i)) {T4}(t4:T4=λ(i:Nat)(i':Nat)=>(102=102/\0=0/\rlo g 0 (i+1)=rlo g 0
 i'/\rlo g 1 (i+1)=rlo g 1 i'/\rhi g 0 (i+1)=rhi g 0 i'/\rhi g 1 (i+1)=rhi g 1 i'/\True)) {T5}(t5:T5=λ(i:Nat)=>((0<=(↑i:Int)/\(↑i:Int)<(↑len:Int))/\1<=2*len)) {T6}(t6:T6=λ(i:Nat)=>(100=100/\0=0/\lb g len 0 i
 = lb g len 0 i/\lb g len 1 i=lb g len 1 i/\True)) {T7}(t7:T7=λ(i:Nat)=>(100=100/\0=0/\lc g len 0 i=lc g len 0 i/\lc g len 1 i=lc g len 1 i/\True)) {T8}(t8:T8=(True/\0=0)) {T9}(t9:T9=λ(i:Nat)(i':Nat)=>(100=100/\0=0/\lb
 g len 0 (i+1)=lb g len 0 i'/\lb g len 1 (i+1)=lb g len 1 i'/\True)) {T10}(t10:T10=λ(i:Nat)(i':Nat)=>(100=100/\0=0/\lc g len 0 (i+1)=lc g len 0 i'/\lc g len 1 (i+1)=lc g len 1 i'/\True)) {T11}(t11:T11=λ(i:Nat)=>(102 =
 102/\0=0/\rlo g 0 (i+1)=rlo g 0 (i+1)/\rlo g 1 (i+1)=rlo g 1 (i+1)/\rhi g 0 (i+1)=rhi g 0 (i+1)/\rhi g 1 (i+1)=rhi g 1 (i+1)/\True)) {T12}(t12:T12=λ(i:Nat)(i':Nat)=>((True/\len=len)/\cl=cl/\T8/\(dcF g len
 i).2=(dcF g len i').2/\(dcF g len i).1=(dcF g len i').1/\T8/\T8/\T8/\cwF g len (i+1)=cwF g len i'/\IntKind.wrap .i64 ((↑i:Int)+1)=(↑i':Int)/\True)) {T13}(t13:T13=λ(i:Nat)(i':Nat)=>(100=100/\0=0/\la g 0 (i+1)=la g
 0 i'/\la g 1 (i+1)=la g 1 i'/\True)) {T14}(t14:T14=λ(i:Nat)=>(100=100/\0=0/\la g 0 i=la g 0 i/\la g 1 i=la g 1 i/\True)) {T15}(t15:T15=((j4 len cl && !(dcF g len len).2)=false/\(0=pick (j4 len cl) (rlo g 0 len)/\0 =
 pick (j4 len cl) (rlo g 1 len)/\0=pick (j4 len cl) (rhi g 0 len)/\0=pick (j4 len cl) (rhi g 1 len)/\True)/\(j4 len cl&&fGt .f64 (cwF g len len) 0)=false/\True)) {T16}(t16:T16=λ(i:Nat)=>(0+Int.toNat (↑i:Int)*2+1))
 {T17}(t17:T17=λ(i:Nat)=>(i<len/\j4 len cl=true)) {T18}(t18:T18=λ(i:Nat)=>(↑i:Int)) {T19}(t19:T19=λ(i:Nat)=>(100=100/\0=0/\la g 0 (i+1)=la g 0 (i+1)/\la g 1 (i+1)=la g 1 (i+1)/\True)) {T20}(t20:T20=fun
 (i:Nat)=>(fGt .f64 (T2 i) 0=false->∃(i':Nat),(i'<=len/\j4 len cl=true)/\len-i'<len-i/\(T12 i i')/\True/\(T3 i)/\True/\(T4 i i')/\True/\(T13 i i')/\True/\(T9 i i')/\True/\(T10 i i')/\True)) {T21}(t21:T21=fun
 (i:Nat)=>(dcF g len i)) {T22}(t22:T22=λ(i:Nat)=>(0+Int.toNat (T18 i)*2+0)) {T23}(t23:T23=(True/\len=len)) {T24}(t24:T24=(↑len:Int)) {T25}(t25:T25=λ(i:Nat)=>(fop BinOp.sub .f64 (lb g len 0 (i+1)) (la g 0 (i+1))))
 {T26}(t26:T26=λ(i:Nat)(i':Nat)=>(T23/\cl=cl/\T8/\(dcF g len i').2=true/\(T21 i).1=(dcF g len i').1/\T8/\T8/\T8/\cwF g len (i+1)=cwF g len i'/\IntKind.wrap .i64 ((T18 i)+1)=(↑i':Int)/\True)) {T27}(t27:T27=fun
 (i':Nat)=>(i'<=len/\j4 len cl=true)) {T28}(t28:T28=λ(i:Nat)=>(T23/\cl=cl/\T8/\(T21 i).2=(T21 i).2/\(T21 i).1=Prod.fst (T21 i)/\T8/\T8/\T8/\cwF g len i=cwF g len i/\(T18 i)=(T18 i)/\True)) {T29}(t29:T29=λ(i:Nat)=>(lb
 g len 1 (i+1))) {T30}(t30:T30=λ(i:Nat)=>(((0:Int)<=IntKind.wrap .i64 ((T18 i)+1)/\IntKind.wrap .i64 ((T18 i)+1)<T24)/\1<=2*len)) {T31}(t31:T31=(102=102/\0=0/\0=0/\0=0/\0=0/\0=0/\True)) {T32}(t32:T32=fun
 (i:Nat)=>(IntKind.wrap .i64 ((T18 i)+1))) {T33}(t33:T33=λ(i:Nat)=>(fop BinOp.add .f64 (T29 i) (la g 1 (i+1)))) {T34}(t34:T34=(2*len<=2*len/\∀(i:Nat),i<2*len->g i=g i)) {T35}(t35:T35=(((0:Int)<=0/\0<T24)/\1<=2*len)):z7 G0 1 [(7,ppL len cl g)] [(2,ppK len cl g)] (j3 Tryz.f102) (q9 Tryz.f102.ntmps w9.args w9.heap 1) (r6 G0.E.T Tryz.f102.results.toList λS v=>w0 1 w9 S v)=(
 ((cl=true->(decide (T24<3)=true->T15/\True)/\(decide (T24<(3:Int))=false->(decide (T24<2)=true->T15/\True)/\(decide (T24<(2:Int))=false->∃(_:Nat),j4 len cl=true/\(T23/\cl=cl/\T8/\True)/\True/\T34/\True
 /\T31/\True)))/\(cl=false->(decide (T24<2)=true->T15/\True)/\(decide (T24<2)=false->∃(_:Nat),j4 len cl=true/\(T23/\cl=cl/\T8/\True)/\True/\T34/\True/\T31/\True)))/\∀(_:Nat),j4 len cl=true->(∃(i:Nat),
 (i<=len/\j4 len cl=true)/\(T23/\cl=cl/\T8/\(T21 i).2=false/\(0:Int)=(T21 i).1/\T8/\T8/\T8/\0=cwF g len i/\0=(T18 i)/\True)/\True/\(T3 i)/\True/\(102=102/\0=0/\0=rlo g 0 i/\0=rlo g 1 i/\0=rhi g 0 i/\0 =
 rhi g 1 i/\True)/\True/\(100=100/\0=0/\0=la g 0 i/\0=la g 1 i/\True)/\True/\(100=100/\0=0/\0=lb g len 0 i/\0=lb g len 1 i/\True)/\True/\(100=100/\0=0/\0=lc g len 0 i/\0=lc g len 1 i/\True)/\True)/\∀(i :
 Nat),i<=len/\j4 len cl=true->(decide ((T18 i)<T24)=true->((((T18 i)==(0:Int))=true->(T5 i)/\0+Int.toNat (T18 i)*2+2<=2*len/\(T5 i)/\0+Int.toNat (T18 i)*2+2<=2*len/\true=true/\∃(_:Nat),(T17 i)/\(T1 i)
 /\True/\(T3 i)/\True/\(102=102/\0=0/\g (0+Int.toNat (T18 i)*2)=rlo g 0 (i+1)/\g (T16 i)=rlo g 1 (i+1)/\g (0+Int.toNat (T18 i)*2)=rhi g 0 (i+1)/\g (T16 i)=rhi g 1 (i+1)/\True)/\True/\(T14 i)/\True/\(T6 i)/\
 True/\(T7 i)/\True)/\(((T18 i)==(0:Int))=false->(T5 i)/\0<2*len/\0+Int.toNat (T18 i)*2+0+1<=2*len/\true=true/\(fLt .f64 (g (T22 i)) (rlo g 0 i)=true->(T5 i)/\0<2*len/\0+Int.toNat (T18 i)*2+0+1<=2*len
 /\(T5 i)/\0<2*len/\0+Int.toNat (T18 i)*2+1+1<=2*len/\true=true/\(fLt .f64 (g (T16 i)) (rlo g 1 i)=true->(T5 i)/\0<2*len/\0+Int.toNat (T18 i)*2+1+1<=2*len/\∃(_:Nat),(T17 i)/\(T1 i)/\True/\(T3 i)/\True
 /\(102=102/\0=0/\g (T22 i)=rlo g 0 (i+1)/\g (T16 i)=rlo g 1 (i+1)/\rhi g 0 i=rhi g 0 (i+1)/\rhi g 1 i=rhi g 1 (i+1)/\True)/\True/\(T14 i)/\True/\(T6 i)/\True/\(T7 i)/\True)/\(fLt .f64 (g (T16 i)) (rlo g 1 i)=false
 ->(T5 i)/\0<2*len/\0+Int.toNat (T18 i)*2+1+1<=2*len/\true=true/\(fGt .f64 (g (T16 i)) (rhi g 1 i)=true->(T5 i)/\0<2*len/\0+Int.toNat (T18 i)*2+1+1<=2*len/\∃(_:Nat),(T17 i)/\(T1 i)/\True/\(T3 i)/\True
 /\(102=102/\0=0/\g (T22 i)=rlo g 0 (i+1)/\rlo g 1 i=rlo g 1 (i+1)/\rhi g 0 i=rhi g 0 (i+1)/\g (T16 i)=rhi g 1 (i+1)/\True)/\True/\(T14 i)/\True/\(T6 i)/\True/\(T7 i)/\True)/\(fGt .f64 (g (T16 i)) (rhi g 1 i)=false
 ->∃(_:Nat),(T17 i)/\(T28 i)/\True/\(T3 i)/\True/\(102=102/\0=0/\g (T22 i)=rlo g 0 (i+1)/\rlo g 1 i=rlo g 1 (i+1)/\rhi g 0 i=rhi g 0 (i+1)/\rhi g 1 i=rhi g 1 (i+1)/\True)/\True/\(T14 i)/\True/\(T6 i)/\True/\(T7
 i)/\True)))/\(fLt .f64 (g (T22 i)) (rlo g 0 i)=false->(T5 i)/\0<2*len/\0+Int.toNat (T18 i)*2+0+1<=2*len/\true=true/\(fGt .f64 (g (T22 i)) (rhi g 0 i)=true->(T5 i)/\0<2*len/\0+Int.toNat (T18 i)*2+0+1<=2 *
 len/\(T5 i)/\0<2*len/\0+Int.toNat (T18 i)*2+1+1<=2*len/\true=true/\(fLt .f64 (g (T16 i)) (rlo g 1 i)=true->(T5 i)/\0<2*len/\0+Int.toNat (T18 i)*2+1+1<=2*len/\∃(_:Nat),(T17 i)/\(T28 i)/\True/\(T3 i)/\
 True/\(102=102/\0=0/\rlo g 0 i=rlo g 0 (i+1)/\g (T16 i)=rlo g 1 (i+1)/\g (T22 i)=rhi g 0 (i+1)/\rhi g 1 i=rhi g 1 (i+1)/\True)/\True/\(T14 i)/\True/\(T6 i)/\True/\(T7 i)/\True)/\(fLt .f64 (g (T16 i)) (rlo g 1 i) =
 false->(T5 i)/\0<2*len/\0+Int.toNat (T18 i)*2+1+1<=2*len/\true=true/\(fGt .f64 (g (T16 i)) (rhi g 1 i)=true->(((0:Int)<=(T18 i)/\(T18 i)<T24)/\1<=2*len)/\0<2*len/\0+Int.toNat (T18 i)*2+1+1<=2*len/\
 ∃(_:Nat),(T17 i)/\(T1 i)/\True/\(T3 i)/\True/\(102=102/\0=0/\rlo g 0 i=rlo g 0 (i+1)/\rlo g 1 i=rlo g 1 (i+1)/\g (T22 i)=rhi g 0 (i+1)/\g (T16 i)=rhi g 1 (i+1)/\True)/\True/\(T14 i)/\True/\(T6 i)/\True/\(T7 i)
 /\True)/\(fGt .f64 (g (T16 i)) (rhi g 1 i)=false->∃(_:Nat),(T17 i)/\(T1 i)/\True/\(T3 i)/\True/\(102=102/\0=0/\rlo g 0 i=rlo g 0 (i+1)/\rlo g 1 i=rlo g 1 (i+1)/\g (T22 i)=rhi g 0 (i+1)/\rhi g 1 i=rhi g 1 (i+1)/\
 True)/\True/\(T14 i)/\True/\(T6 i)/\True/\(T7 i)/\True)))/\(fGt .f64 (g (T22 i)) (rhi g 0 i)=false->(T5 i)/\0<2*len/\0+Int.toNat (T18 i)*2+1+1<=2*len/\true=true/\(fLt .f64 (g (T16 i)) (rlo g 1 i)=true->(T5 i)/\0 <
 2*len/\0+Int.toNat (T18 i)*2+1+1<=2*len/\∃(_:Nat),(T17 i)/\(T1 i)/\True/\(T3 i)/\True/\(102=102/\0=0/\rlo g 0 i=rlo g 0 (i+1)/\g (T16 i)=rlo g 1 (i+1)/\rhi g 0 i=rhi g 0 (i+1)/\rhi g 1 i=rhi g 1 (i+1)
 /\True)/\True/\(T14 i)/\True/\(T6 i)/\True/\(T7 i)/\True)/\(fLt .f64 (g (T16 i)) (rlo g 1 i)=false->(T5 i)/\0<2*len/\0+Int.toNat (T18 i)*2+1+1<=2*len/\true=true/\(fGt .f64 (g (T16 i)) (rhi g 1 i)=true->(T5 i)/\0 <
 2*len/\0+Int.toNat (T18 i)*2+1+1<=2*len/\∃(_:Nat),(T17 i)/\(T1 i)/\True/\(T3 i)/\True/\(102=102/\0=0/\rlo g 0 i=rlo g 0 (i+1)/\rlo g 1 i=rlo g 1 (i+1)/\rhi g 0 i=rhi g 0 (i+1)/\g (T16 i)=rhi g 1 (i+1)
 /\True)/\True/\(T14 i)/\True/\(T6 i)/\True/\(T7 i)/\True)/\(fGt .f64 (g (T16 i)) (rhi g 1 i)=false->∃(_:Nat),(T17 i)/\(T1 i)/\True/\(T3 i)/\True/\(102=102/\0=0/\rlo g 0 i=rlo g 0 (i+1)/\rlo g 1 i=rlo g 1 (i+1)/\rhi
 g 0 i=rhi g 0 (i+1)/\rhi g 1 i=rhi g 1 (i+1)/\True)/\True/\(T14 i)/\True/\(T6 i)/\True/\(T7 i)/\True))))))/\∀(_:Nat),i<len/\j4 len cl=true->((T5 i)/\0+Int.toNat (T18 i)*2+2<=2*len/\∃(_:Nat),(T17 i)/\(T1
 i)/\True/\(T3 i)/\True/\(T11 i)/\True/\(100=100/\0=0/\g (0+Int.toNat (T18 i)*2)=la g 0 (i+1)/\g (T16 i)=la g 1 (i+1)/\True)/\True/\(T6 i)/\True/\(T7 i)/\True)/\∀(_:Nat),i<len/\j4 len cl=true->((((T18 i) ==
 IntKind.wrap .i64 (T24-1))=true->T35/\2<=2*len/\(((0:Int)<=(1:Int)/\1<T24)/\1<=2*len)/\4<=2*len/\∃(_:Nat),(T17 i)/\(T23/\cl=cl/\T8/\Prod.snd (T21 i)=(T21 i).2/\(T21 i).1=(T21 i).1/\T8/\T8/\T8/\cwF g len i
 = cwF g len i/\(T18 i)=(T18 i)/\True)/\True/\(T3 i)/\True/\(T11 i)/\True/\(T19 i)/\True/\(100=100/\0=0/\g 0=lb g len 0 (i+1)/\g 1=lb g len 1 (i+1)/\True)/\True/\(100=100/\0=0/\g 2=lc g len 0 (i+1)/\g 3=lc g
 len 1 (i+1)/\True)/\True)/\(((T18 i)==IntKind.wrap .i64 (T24-1))=false->(((T18 i)==IntKind.wrap .i64 (T24-2))=true->(T30 i)/\0+Int.toNat (IntKind.wrap .i64 ((T18 i)+(1:Int)))*2+2<=2*len/\T35/\2<=2*len/\∃(_ :
 Nat),(T17 i)/\(T1 i)/\True/\(T3 i)/\True/\(T11 i)/\True/\(T19 i)/\True/\(100=100/\0=0/\g (0+Int.toNat (T32 i)*2)=lb g len 0 (i+1)/\g (0+Int.toNat (T32 i)*2+1)=lb g len 1 (i+1)/\True)/\True/\(100=100/\0=0/\g
 0=lc g len 0 (i+1)/\g 1=lc g len 1 (i+1)/\True)/\True)/\(((T18 i)==IntKind.wrap .i64 (T24-2))=false->(T30 i)/\0+Int.toNat (T32 i)*2+2<=2*len/\(((0:Int)<=IntKind.wrap .i64 ((T18 i)+2)/\IntKind.wrap .i64 ((T18 i) +
 2)<T24)/\1<=2*len)/\0+Int.toNat (IntKind.wrap .i64 ((T18 i)+2))*2+2<=2*len/\∃(_:Nat),(T17 i)/\(T23/\cl=cl/\T8/\(T21 i).2=(T21 i).2/\Prod.fst (T21 i)=(T21 i).1/\T8/\T8/\T8/\cwF g len i=cwF g len i/\(T18 i) =
 (T18 i)/\True)/\True/\(T3 i)/\True/\(T11 i)/\True/\(T19 i)/\True/\(100=100/\0=0/\g (0+Int.toNat (IntKind.wrap .i64 ((T18 i)+(1:Int)))*2)=lb g len 0 (i+1)/\g (0+Int.toNat (T32 i)*2+1)=lb g len 1 (i+1)/\True)/\
 True/\(100=100/\0=0/\g (0+Int.toNat (IntKind.wrap .i64 ((T18 i)+2))*2)=lc g len 0 (i+1)/\g (0+Int.toNat (IntKind.wrap .i64 ((T18 i)+2))*2+1)=lc g len 1 (i+1)/\True)/\True)))/\∀(_:Nat),i<len/\j4 len cl=true
 ->(fok BinOp.sub .f64 (lb g len 0 (i+1)) (la g 0 (i+1))/\fok BinOp.add .f64 (T29 i) (la g 1 (i+1))/\fok BinOp.mul .f64 (T25 i) (T33 i)/\fok BinOp.add .f64 (cwF g len i) (fop BinOp.mul .f64 (T25 i) (T33 i))/\∃(_:Nat),(T17 i)/\(T23/\cl
 = cl/\T8/\(T21 i).2=(T21 i).2/\(T21 i).1=(T21 i).1/\T8/\T8/\T8/\fop BinOp.add .f64 (cwF g len i) (fop BinOp.mul .f64 (T25 i) (T33 i))=cwF g len (i+1)/\(T18 i)=(T18 i)/\True)/\True/\(T3 i)/\True/\(T11 i)/\True/\(T19 i)/\True
 /\(100=100/\0=0/\lb g len 0 (i+1)=lb g len 0 (i+1)/\lb g len 1 (i+1)=lb g len 1 (i+1)/\True)/\True/\(100=100/\0=0/\lc g len 0 (i+1)=lc g len 0 (i+1)/\lc g len 1 (i+1)=lc g len 1 (i+1)/\True)/\True)/\∀(_ :
 Nat),i<len/\j4 len cl=true->((T21 i).2=true->∃(i':Nat),(T27 i')/\len-i'<len-i/\(T12 i i')/\True/\(T3 i)/\True/\(T4 i i')/\True/\(T13 i i')/\True/\(T9 i i')/\True/\(T10 i i')/\True)/\((T21 i).2=false->fok
 BinOp.sub .f64 (lb g len 0 (i+1)) (la g 0 (i+1))/\fok BinOp.sub .f64 (lc g len 1 (i+1)) (T29 i)/\fok BinOp.mul .f64 (T25 i) (fop BinOp.sub .f64 (lc g len 1 (i+1)) (T29 i))/\fok BinOp.sub .f64 (T29 i) (la g 1 (i+1))/\fok BinOp.sub .f64
 (lc g len 0 (i+1)) (lb g len 0 (i+1))/\fok BinOp.mul .f64 (fop BinOp.sub .f64 (T29 i) (la g 1 (i+1))) (fop BinOp.sub .f64 (lc g len 0 (i+1)) (lb g len 0 (i+1)))/\fok BinOp.sub .f64 (fop BinOp.mul .f64 (T25 i) (fop BinOp.sub .f64 (lc g len
 1 (i+1)) (T29 i))) (fop BinOp.mul .f64 (fop BinOp.sub .f64 (T29 i) (la g 1 (i+1))) (fop BinOp.sub .f64 (lc g len 0 (i+1)) (lb g len 0 (i+1))))/\(((T21 i).1==(0:Int))=true->(fLt .f64 (T2 i) 0=true->∃(i':Nat),(T27 i')/\len-i'
 < len-i/\(T23/\cl=cl/\T8/\(T21 i).2=(dcF g len i').2/\(-1:Int)=Prod.fst (dcF g len i')/\T8/\T8/\T8/\cwF g len (i+1)=cwF g len i'/\IntKind.wrap .i64 ((T18 i)+(1:Int))=(↑i':Int)/\True)/\True/\(T3 i)/\True/\(T4 i i')
 /\True/\(T13 i i')/\True/\(T9 i i')/\True/\(T10 i i')/\True)/\(fLt .f64 (T2 i) 0=false->(fGt .f64 (T2 i) 0=true->∃(i':Nat),(T27 i')/\len-i'<len-i/\(T23/\cl=cl/\T8/\(T21 i).2=(dcF g len i').2/\(1:Int)=(dcF g len
 i').1/\T8/\T8/\T8/\cwF g len (i+1)=cwF g len i'/\IntKind.wrap .i64 ((T18 i)+1)=(↑i':Int)/\True)/\True/\(T3 i)/\True/\(T4 i i')/\True/\(T13 i i')/\True/\(T9 i i')/\True/\(T10 i i')/\True)/\(T20 i)))/\(((T21 i).1==(0 :
 Int))=false->(fLt .f64 (T2 i) 0=true->(((T21 i).1==(1:Int))=true->∃(i':Nat),(T27 i')/\len-i'<len-i/\(T26 i i')/\True/\(T3 i)/\True/\(T4 i i')/\True/\(T13 i i')/\True/\(T9 i i')/\True/\(T10 i i')/\True)/\(((T21
 i).1==(1:Int))=false->∃(i':Nat),(T27 i')/\len-i'<len-i/\(T23/\cl=cl/\T8/\Prod.snd (T21 i)=(dcF g len i').2/\(T21 i).1=(dcF g len i').1/\T8/\T8/\T8/\cwF g len (i+1)=cwF g len i'/\IntKind.wrap .i64 ((T18 i)+1) =
 (↑i':Int)/\True)/\True/\(T3 i)/\True/\(T4 i i')/\True/\(T13 i i')/\True/\(T9 i i')/\True/\(T10 i i')/\True))/\(fLt .f64 (T2 i) 0=false->(fGt .f64 (T2 i) 0=true->(((T21 i).1==(-1:Int))=true->∃(i':Nat),(T27 i')/\len -
 i'<len-i/\(T26 i i')/\True/\(T3 i)/\True/\(T4 i i')/\True/\(T13 i i')/\True/\(T9 i i')/\True/\(T10 i i')/\True)/\((Prod.fst (T21 i)==(-1:Int))=false->∃(i':Nat),(T27 i')/\len-i'<len-i/\(T12 i i')/\True/\(T3 i)/\
 True/\(T4 i i')/\True/\(T13 i i')/\True/\(T9 i i')/\True/\(T10 i i')/\True))/\(T20 i)))))/\(decide ((T18 i)<T24)=false->true=true/\((!(T21 i).2)=(j4 len cl && !(dcF g len len).2)/\(rlo g 0 i=pick (j4 len cl) (rlo g 0 len)
 /\rlo g 1 i=pick (j4 len cl) (rlo g 1 len)/\rhi g 0 i=pick (j4 len cl) (rhi g 0 len)/\rhi g 1 i=pick (j4 len cl) (rhi g 1 len)/\True)/\fGt .f64 (cwF g len i) 0=(j4 len cl&&fGt .f64 (cwF g len len) 0)/\True)/\True)):=by subst e9 t1 t2 t3 t4 t5 t6 t7 t8 t9 t10 t11 t12 t13 t14 t15 t16 t17 t18 t19 t20 t21 t22 t23 t24 t25 t26 t27 t28 t29 t30 t31 t32 t33 t34 t35;kernel_rfl
theorem c2k:q7 Tryz.prog 102 (p9 a9o):=by
 refine j8 g0 Tryz.func102 rfl (by kernel_rfl) λargs=>?_
 unfold a9o;split
 ·rename_i n len v;intro o0;try dsimp only
  split
  ·rename_i m0 g hm0;try dsimp only
   split
   ·rename_i cl hcl;intro ho;replace ho:m0=2*len/\len<=1000000/\(j4 len cl=true->ppOk g len):=ho;obtain⟨hsz0,ho⟩:=ho;subst hsz0;refine⟨?_,_,_,(b6N len cl g rfl rfl rfl rfl rfl rfl rfl rfl rfl rfl rfl rfl rfl rfl rfl rfl rfl rfl rfl rfl rfl rfl rfl rfl rfl rfl rfl rfl rfl rfl rfl rfl rfl rfl rfl rfl).mpr ?_⟩
    ·refine g9 rfl ⟨?_,⟨trivial,(r9 hm0).1,trivial⟩⟩;simp[j9,o8,o9,p7,nth,a8,C7 hcl]
    ·obtain⟨hlen,hok⟩:=ho;refine⟨⟨λhc=>⟨λh3=>?_,λh3=>⟨λh2=>?_,λh2=>?_⟩⟩,λhc=>⟨λh2=>?_,λh2=>?_⟩⟩,λ_ hb=>?_⟩
     ·have h3:=of_decide_eq_true h3;have hb:j4 len cl=false:=by simp[j4,hc];omega
      simp[hb,pick]
     ·have h2:=of_decide_eq_true h2;have hb:j4 len cl=false:=by simp[j4,hc];omega
      simp[hb,pick]
     ·have h2:=of_decide_eq_false h2;have h3:=of_decide_eq_false h3;have hb:j4 len cl=true:=by simp[j4,hc];omega
      refine⟨0,hb,?_⟩;simp
     ·have h2:=of_decide_eq_true h2;have hb:j4 len cl=false:=by simp[j4,hc];omega
      simp[hb,pick]
     ·have h2:=of_decide_eq_false h2;have hb:j4 len cl=true:=by simp[j4,hc];omega
      refine⟨0,hb,?_⟩;simp
     have hbb:2<=len/\(cl=true->3<=len):=by unfold j4 at hb;exact of_decide_eq_true hb
     have hl2:=hbb.1;replace hok:=hok hb;refine⟨⟨0,⟨by omega,hb⟩,by simp[dcF,cwF,rlo,rhi,la,lb,lc]⟩,λi hi=>⟨λhlt=>?_,λhlt=>?_⟩⟩
     ·have hlt:=of_decide_eq_true hlt;have hil:i<len:=by omega
      have w1:IntKind.i64.wrap ((i:Int)+1)=((i+1:Nat):Int):=by rw[j5 (by omega) (by omega)];omega
      have w2:IntKind.i64.wrap ((i:Int)+2)=((i+2:Nat):Int):=by rw[j5 (by omega) (by omega)];omega
      have v1:IntKind.i64.wrap ((len:Int)-1)=((len-1:Nat):Int):=by rw[j5 (by omega) (by omega)];omega
      have v2:IntKind.i64.wrap ((len:Int)-2)=((len-2:Nat):Int):=by rw[j5 (by omega) (by omega)];omega
      have m0:i*2=2*i:=by omega
      have m1:(i+1)*2=2*(i+1):=by omega
      have m2:(i+2)*2=2*(i+2):=by omega
      obtain⟨hcw,hzc⟩:=hok i hil;simp only[w1,w2,v1,v2,Int.toNat_natCast,Nat.zero_add,Nat.add_zero,m0,m1,m2,true_and,and_true,implies_true,Nat.le_refl];refine⟨⟨λh0=>?_,λh0=>?_⟩,λ_ _=>⟨?_,λ_ _=>⟨?_,λ_ _=>⟨?_,λ_ _=>?_⟩⟩⟩⟩
      ·have h0:i=0:=by simpa using h0
       subst h0;refine⟨by omega,by omega,by omega,by omega,0,⟨hil,hb⟩,?_⟩;simp[rlo,rhi,b1V,a6l]
      ·have h0:¬i=0:=by simpa using h0
       repeat' first
        | intro hx
        | apply And.intro
        | apply Exists.intro 0
       all_goals first
        | omega
        | simp[rlo,rhi,b1V,a6l, *]
      ·refine⟨by omega,by omega,0,⟨hil,hb⟩,?_⟩;simp[la]
      ·refine⟨λh1=>?_,λh1=>⟨λh2=>?_,λh2=>?_⟩⟩
       ·have h1:=eq_of_beq h1;have h1:i+1=len:=by omega
        refine⟨by omega,by omega,by omega,by omega,0,⟨hil,hb⟩,?_⟩;simp[lb,lc,nx,nx2,h1]
       ·have h1:=ne_of_beq_false h1;have h2:=eq_of_beq h2;have h1:¬i+1=len:=by omega
        have h2:i+2=len:=by omega
        refine⟨by omega,by omega,by omega,by omega,0,⟨hil,hb⟩,?_⟩;simp[lb,lc,nx,nx2,h1,h2]
       ·have h1:=ne_of_beq_false h1;have h2:=ne_of_beq_false h2;have h1:¬i+1=len:=by omega
        have h2:¬i+2=len:=by omega
        refine⟨by omega,by omega,by omega,by omega,0,⟨hil,hb⟩,?_⟩;simp[lb,lc,nx,nx2,h1,h2]
      ·obtain⟨k1,k2,k3,k4⟩:=hcw;refine⟨k1,k2,k3,k4,0,⟨hil,hb⟩,?_⟩;simp[cwF,b7p,la,lb]
      ·obtain⟨k1,k2,k3,k4,k5,k6,k7⟩:=hzc;refine⟨λhc=>?_,λhc=>⟨k1,k2,k3,k4,k5,k6,k7,⟨λhd=>⟨λz1=>?_,λz1=>⟨λz2=>?_,λz2=>?_⟩⟩,λhd=>⟨λz1=>⟨λhd1=>?_,λhd1=>?_⟩,λz1=>⟨λz2=>⟨λhd1=>?_,λhd1=>?_⟩,λz2=>?_⟩⟩⟩⟩⟩
       all_goals refine⟨i+1,⟨by omega,hb⟩,by omega,?_⟩
       all_goals try (replace hd1:=eq_of_beq hd1)
       all_goals try (replace hd1:=ne_of_beq_false hd1)
       all_goals try (replace hd:=eq_of_beq hd)
       all_goals try (replace hd:=ne_of_beq_false hd)
       all_goals try (change fLt .f64 (zcF g len i) 0=_ at z1)
       all_goals try (change fGt .f64 (zcF g len i) 0=_ at z2)
       all_goals simp[dcF,c2N, *]
     ·have hlt:=of_decide_eq_false hlt;have:i=len:=by omega
      subst this;simp[hb,pick]
   ·trivial
  ·trivial
 ·trivial
def Whl(g:Nat->Nat)(z:Nat->Int)(m:Nat):Prop:=∀ j,j<m->FI (g j) (z j)/\(z j).natAbs<=4194304
def cwZ(z:Nat->Int)(len:Nat):Nat->Int
 | 0=>0
 | i+1=>cwZ z len i+(z (2*nx len i)-z (2*i))*(z (2*nx len i+1)+z (2*i+1))
def zcZ(z:Nat->Int)(len i:Nat):Int :=
 (z (2*nx len i)-z (2*i))*(z (2*nx2 len i+1)-z (2*nx len i+1))-(z (2*nx len i+1)-z (2*i+1))*(z (2*nx2 len i)-z (2*nx len i))
def loZ(z:Nat->Int)(k:Nat):Nat->Int
 | 0=>0
 | i+1=>if i=0∨z (2*i+k)<loZ z k i then z (2*i+k)else loZ z k i
def hiZ(z:Nat->Int)(k:Nat):Nat->Int
 | 0=>0
 | i+1=>if i=0 then z (2*i+k)else if z (2*i+k)<loZ z k i then hiZ z k i else if hiZ z k i<z (2*i+k)then z (2*i+k)else hiZ z k i
theorem c3r{x y:Nat}{a b:Int}(hx:FI x a)(hy:FI y b)(h:(a+b).natAbs<2 ^ 53):fok .add .f64 x y/\FI (fop .add .f64 x y) (a+b):=by
 obtain⟨r,h1,h2⟩:=c5h hx hy h;obtain⟨h3,h4⟩:=a9P (op:=.add) h1;exact⟨h3,by rw[h4];exact h2⟩
theorem a4z{x y:Nat}{a b:Int}(hx:FI x a)(hy:FI y b)(h:(a-b).natAbs<2 ^ 53):fok .sub .f64 x y/\FI (fop .sub .f64 x y) (a-b):=by
 obtain⟨r,h1,h2⟩:=b2q hx hy h;obtain⟨h3,h4⟩:=a9P (op:=.sub) h1;exact⟨h3,by rw[h4];exact h2⟩
theorem Q7{a b:Int}{m n:Nat}(ha:a.natAbs<=m)(hb:b.natAbs<=n):(a*b).natAbs<=m*n:=by
 rw[Int.natAbs_mul];exact Nat.mul_le_mul ha hb
theorem K2{a b:Int}{m:Nat}(ha:a.natAbs<=m)(hb:b.natAbs<=m):(a-b).natAbs<=2*m:=by omega
theorem a5L{a b:Int}{m:Nat}(ha:a.natAbs<=m)(hb:b.natAbs<=m):(a+b).natAbs<=2*m:=by omega
theorem a1q{len i:Nat}(h:i<len):nx len i<len:=by unfold nx;split <;> omega
theorem c4x{len i:Nat}(h:i<len)(h2:2<=len):nx2 len i<len:=by unfold nx2;split;omega;split <;> omega
section
variable {g:Nat->Nat} {z:Nat->Int} {len:Nat} (hl:len<=64) (hg:Whl g z (2*len))
include hg
theorem b5e{k:Nat}(hk:k<2):∀ i,i<=len->FI (rlo g k i) (loZ z k i)/\(loZ z k i).natAbs<=4194304
 | 0,_=>⟨V9,by simp[loZ]⟩
 | i+1,h=>by
  obtain⟨h1,h2⟩:=b5e hk i (by omega);obtain⟨h3,h4⟩:=hg (2*i+k) (by omega);show FI (if i=0∨fLt .f64 (g (2*i+k)) (rlo g k i)=true then g (2*i+k)else rlo g k i) (if i=0∨z (2*i+k)<loZ z k i then z (2*i+k)else loZ z k i)/\(if i=0∨z (2*i+k)<loZ z k i then z (2*i+k)else loZ z k i).natAbs<=4194304;rw[G3 h3 h1];by_cases hc:i=0∨z (2*i+k)<loZ z k i
  ·rw[if_pos hc,if_pos (by simpa using hc)];exact⟨h3,h4⟩
  ·rw[if_neg hc,if_neg (by simpa using hc)];exact⟨h1,h2⟩
theorem b6w{k:Nat}(hk:k<2):∀ i,i<=len->FI (rhi g k i) (hiZ z k i)/\(hiZ z k i).natAbs<=4194304
 | 0,_=>⟨V9,by simp[hiZ]⟩
 | i+1,h=>by
  obtain⟨h1,h2⟩:=b6w hk i (by omega);obtain⟨h1',h2'⟩:=b5e hg hk i (by omega);obtain⟨h3,h4⟩:=hg (2*i+k) (by omega);show FI (a6l i (g (2*i+k)) (rlo g k i) (rhi g k i)) (hiZ z k (i+1))/\(hiZ z k (i+1)).natAbs<=4194304;unfold a6l hiZ;rw[G3 h3 h1',E6 h3 h1];by_cases c0:i=0
  ·rw[if_pos c0,if_pos c0];exact⟨h3,h4⟩
  rw[if_neg c0,if_neg c0];by_cases c1:z (2*i+k)<loZ z k i
  ·rw[if_pos c1,if_pos (decide_eq_true c1)];exact⟨h1,h2⟩
  rw[if_neg c1,if_neg (by simpa using c1)];by_cases c2:hiZ z k i<z (2*i+k)
  ·rw[if_pos c2,if_pos (decide_eq_true c2)];exact⟨h3,h4⟩
  ·rw[if_neg c2,if_neg (by simpa using c2)];exact⟨h1,h2⟩
theorem d1m{i:Nat}(hi:i<len)(h2:2<=len):c7f (g (2*i)) (g (2*i+1)) (g (2*nx len i)) (g (2*nx len i+1)) (g (2*nx2 len i)) (g (2*nx2 len i+1))/\
  FI (zcF g len i) (zcZ z len i):=by
 have n1:=a1q hi;have n2:=c4x hi h2;obtain⟨fa,ba⟩:=hg (2*i) (by omega);obtain⟨fa',ba'⟩:=hg (2*i+1) (by omega);obtain⟨fb,bb⟩:=hg (2*nx len i) (by omega);obtain⟨fb',bb'⟩:=hg (2*nx len i+1) (by omega);obtain⟨fc,bc⟩:=hg (2*nx2 len i) (by omega);obtain⟨fc',bc'⟩:=hg (2*nx2 len i+1) (by omega);have s1:=K2 bb ba;have s2:=K2 bc' bb';have s3:=K2 bb' ba';have s4:=K2 bc bb;have p1:=Q7 s1 s2;have p2:=Q7 s3 s4;obtain⟨k1,e1⟩:=a4z fb fa (by omega);obtain⟨k2,e2⟩:=a4z fc' fb' (by omega);obtain⟨k3,e3⟩:=a4z fb' fa' (by omega)
 obtain⟨k4,e4⟩:=a4z fc fb (by omega);obtain⟨k5,e5⟩:=a3H e1 e2 (by omega);obtain⟨k6,e6⟩:=a3H e3 e4 (by omega);obtain⟨k7,e7⟩:=a4z e5 e6 (by omega);exact⟨⟨k1,k2,k5,k3,k4,k6,k7⟩,e7⟩
include hl in
theorem c8y:∀ i,i<=len->FI (cwF g len i) (cwZ z len i)/\(cwZ z len i).natAbs<=i*70368744177664/\
  (i<len->c7z (cwF g len i) (g (2*i)) (g (2*i+1)) (g (2*nx len i)) (g (2*nx len i+1))/\FI (cwF g len (i+1)) (cwZ z len (i+1))/\(cwZ z len (i+1)).natAbs<=(i+1)*70368744177664)
 | i,h=>by
  have base:FI (cwF g len i) (cwZ z len i)/\(cwZ z len i).natAbs<=i*70368744177664:=by
   cases i with
   | zero=>exact⟨V9,by simp[cwZ]⟩
   | succ j=>exact((c8y j (by omega)).2.2 (by omega)).2
  refine⟨base.1,base.2,λhi=>?_⟩;have n1:=a1q hi;obtain⟨fa,ba⟩:=hg (2*i) (by omega);obtain⟨fa',ba'⟩:=hg (2*i+1) (by omega);obtain⟨fb,bb⟩:=hg (2*nx len i) (by omega);obtain⟨fb',bb'⟩:=hg (2*nx len i+1) (by omega);have s1:=K2 bb ba;have s2:=a5L bb' ba';have p1:=Q7 s1 s2;obtain⟨k1,e1⟩:=a4z fb fa (by omega);obtain⟨k2,e2⟩:=c3r fb' fa' (by omega);obtain⟨k3,e3⟩:=a3H e1 e2 (by omega);obtain⟨k4,e4⟩:=c3r base.1 e3 (by omega);exact⟨⟨k1,k2,k3,k4⟩,e4,by show (cwZ z len i+_).natAbs<=_;omega⟩
include hl in
theorem c4Y(h2:2<=len):ppOk g len:=λi hi=>⟨((c8y hl hg i (by omega)).2.2 hi).1,(d1m hg hi h2).1⟩
end
theorem Y5{z:Nat->Int}{k:Nat}:∀ {i j:Nat},j<i->loZ z k i<=z (2*j+k)
 | 0,_,h=>by omega
 | i+1,j,h=>by
  unfold loZ;split
  ·rename_i hc;by_cases e:j=i
   ·subst e;exact Int.le_refl _
   ·rcases hc with rfl|hc
    ·omega
    ·exact Int.le_trans (Int.le_of_lt hc) (Y5 (by omega))
  ·rename_i hc;by_cases e:j=i
   ·subst e;omega
   ·exact Y5 (by omega)
theorem a0h{z:Nat->Int}{k:Nat}:∀ {i j:Nat},j<i->z (2*j+k)<=hiZ z k i
 | 0,_,h=>by omega
 | i+1,j,h=>by
  have hl:=λ(hi:0<i)=>Y5 (z:=z) (k:=k) (i:=i) (j:=0) hi
  have hh:=λ(hi:0<i)=>a0h (z:=z) (k:=k) (i:=i) (j:=0) hi
  unfold hiZ;split
  ·have:j=i:=by omega
   subst this;exact Int.le_refl _
  ·have hl:=hl (by omega);have hh:=hh (by omega);by_cases e:j=i
   ·subst e;split
    ·omega
    ·split <;> omega
   ·have h3:=a0h (z:=z) (k:=k) (i:=i) (j:=j) (by omega);split
    ·exact h3
    ·split
     ·omega
     ·exact h3
theorem a2L(b:Nat):∀(vs:List Value)(c:Nat)(F:Nat->Nat->Value)(b' c':Nat),a3p F b c vs b' c'=if b'=b/\c<=c'/\c'<c+vs.length then vs.getD (c'-c) (.bool false)else F b' c'
 | [],c,F,b',c'=>by
  have:¬(b'=b/\c<=c'/\c'<c+([]:List Value).length):=by simp only[List.length_nil];omega
  rw[if_neg this];rfl
 | v :: r,c,F,b',c'=>by
  show a3p (j0 F b c v) b (c+1) r b' c'=_;rw[a2L b r (c+1)];by_cases h:b'=b/\c+1<=c'/\c'<c+1+r.length
  ·have h2:b'=b/\c<=c'/\c'<c+(v :: r).length:=⟨h.1,by omega,by simp only[List.length_cons];omega⟩;rw[if_pos h,if_pos h2,show c'-c=(c'-(c+1))+1 by omega];rfl
  ·rw[if_neg h];by_cases h1:b'=b/\c'=c
   ·obtain⟨rfl,rfl⟩:=h1;have h2:b'=b'/\c'<=c'/\c'<c'+(v :: r).length:=⟨rfl,Nat.le_refl _,by simp only[List.length_cons];omega⟩;rw[if_pos h2];simp[j0]
   ·have h2:¬(b'=b/\c<=c'/\c'<c+(v :: r).length):=by
     simp only[List.length_cons];rintro⟨e1,e2,e3⟩;by_cases e:c'=c
     ·exact h1 ⟨e1,e⟩
     ·exact h ⟨e1,by omega,by omega⟩
    rw[if_neg h2];simp only[j0];rw[if_neg h1]
theorem a0c{b c:Nat}{vs:List Value}{F:Nat->Nat->Value}{b' c':Nat}(h:b'≠b∨c'<c∨c+vs.length<=c'):a3p F b c vs b' c'=F b' c':=by
 rw[a2L,if_neg];rintro⟨h1,h2,h3⟩;omega
theorem b8{b c:Nat}{v:Value}{F:Nat->Nat->Value}{b' c':Nat}(h:b'≠b∨c'≠c):j0 F b c v b' c'=F b' c':=by
 unfold j0;rw[if_neg];rintro⟨h1,h2⟩;omega
theorem v9{b c:Nat}{v:Value}{F:Nat->Nat->Value}:j0 F b c v b c=v:=by simp[j0]
def fz(v:Value)(n:Int):Prop:=v=.float .f64 (j1 v)/\FI (j1 v) n/\n.natAbs<=4194304
theorem fz.flt{v:Value}{n:Int}(h:fz v n):u5 .f64 v:=h.1
theorem fz.lt{v w:Value}{n m:Int}(h1:fz v n)(h2:fz w m):fLt .f64 (j1 v) (j1 w)=decide (n<m):=G3 h1.2.1 h2.2.1
theorem fz.gt{v w:Value}{n m:Int}(h1:fz v n)(h2:fz w m):fGt .f64 (j1 v) (j1 w)=decide (m<n):=E6 h1.2.1 h2.2.1
theorem fz.sub{v w:Value}{n m:Int}(h1:fz v n)(h2:fz w m):fok .sub .f64 (j1 v) (j1 w)/\FI (fop .sub .f64 (j1 v) (j1 w)) (n-m)/\(n-m).natAbs<=8388608:=by
 have a:=h1.2.2;have b:=h2.2.2;obtain⟨h3,h4⟩:=a4z h1.2.1 h2.2.1 (by omega);exact⟨h3,h4,by omega⟩
structure Bx where
 x0:Int
 y0:Int
 x1:Int
 y1:Int
deriving DecidableEq
def Bx.lo(B:Bx)(k:Nat):Int:=if k=0 then B.x0 else B.y0
def Bx.hi(B:Bx)(k:Nat):Int:=if k=0 then B.x1 else B.y1
def isBox(F:Nat->Nat->Value)(b c:Nat)(B:Bx):Prop:=fz (F b (c+1)) B.x0/\fz (F b (c+2)) B.y0/\fz (F b (c+3)) B.x1/\fz (F b (c+4)) B.y1
theorem isBox.lo{F:Nat->Nat->Value}{b c:Nat}{B:Bx}(h:isBox F b c B){k:Nat}(hk:k<2):fz (F b (c+1+k)) (B.lo k):=by
 unfold Bx.lo
 match k,hk with
 | 0,_=>exact h.1
 | 1,_=>exact h.2.1
theorem isBox.hi{F:Nat->Nat->Value}{b c:Nat}{B:Bx}(h:isBox F b c B){k:Nat}(hk:k<2):fz (F b (c+3+k)) (B.hi k):=by
 unfold Bx.hi
 match k,hk with
 | 0,_=>exact h.2.2.1
 | 1,_=>exact h.2.2.2
def A6(A B:Bx):Prop:=A.x0<=B.x0/\A.y0<=B.y0/\B.x1<=A.x1/\B.y1<=A.y1
instance (A B:Bx):Decidable (A6 A B):=by unfold A6;infer_instance
def z8(A B:Bx):Bx:=⟨if B.x0<A.x0 then B.x0 else A.x0,if B.y0<A.y0 then B.y0 else A.y0,if A.x1<B.x1 then B.x1 else A.x1,if A.y1<B.y1 then B.y1 else A.y1⟩
theorem a7U(A B:Bx)(h:A6 A B):z8 A B=A:=by
 unfold A6 at h;cases A;cases B;simp only[z8,Bx.mk.injEq]at h ⊢;refine⟨if_neg (by omega),if_neg (by omega),if_neg (by omega),if_neg (by omega)⟩
def F3(B:Bx)(l:List Bx):Prop:=(∀ a∈l,A6 B a)/\(l≠[]->(∃ a∈l,a.x0=B.x0)/\(∃ a∈l,a.y0=B.y0)/\(∃ a∈l,a.x1=B.x1)/\(∃ a∈l,a.y1=B.y1))
theorem a7W(B:Bx):F3 B [B]:=⟨λa ha=>by simp at ha;subst ha;exact⟨Int.le_refl _,Int.le_refl _,Int.le_refl _,Int.le_refl _⟩,λ_=>⟨⟨B,by simp⟩,⟨B,by simp⟩,⟨B,by simp⟩,⟨B,by simp⟩⟩⟩
theorem b2m{B:Bx}{l l':List Bx}(h:l.Perm l')(ht:F3 B l):F3 B l':=by
 refine⟨λa ha=>ht.1 a (h.mem_iff.2 ha),λhn=>?_⟩;have hn':l≠[]:=λe=>hn (by rw[e]at h;exact h.nil_eq.symm)
 obtain⟨⟨a,h1,h2⟩,⟨b,h3,h4⟩,⟨c,h5,h6⟩,⟨d,h7,h8⟩⟩:=ht.2 hn';exact⟨⟨a,h.mem_iff.1 h1,h2⟩,⟨b,h.mem_iff.1 h3,h4⟩,⟨c,h.mem_iff.1 h5,h6⟩,⟨d,h.mem_iff.1 h7,h8⟩⟩
theorem a7D{B C:Bx}{l:List Bx}(hn:l≠[])(ht:F3 B l):F3 (z8 B C) (l++[C]):=by
 obtain⟨h0,h⟩:=ht;obtain⟨⟨a,h1,h2⟩,⟨b,h3,h4⟩,⟨c,h5,h6⟩,⟨d,h7,h8⟩⟩:=h hn;refine⟨λx hx=>?_,λ_=>⟨?_,?_,?_,?_⟩⟩
 ·rcases List.mem_append.1 hx with hx|hx
  ·have:=h0 x hx;unfold A6 at this ⊢;simp only[z8];refine⟨?_,?_,?_,?_⟩ <;> split <;> omega
  ·simp at hx;subst hx;unfold A6;simp only[z8];refine⟨?_,?_,?_,?_⟩ <;> split <;> omega
 ·by_cases e:C.x0<B.x0
  ·exact⟨C,by simp,by simp[z8,e]⟩
  ·exact⟨a,by simp[h1],by simp[z8,e,h2]⟩
 ·by_cases e:C.y0<B.y0
  ·exact⟨C,by simp,by simp[z8,e]⟩
  ·exact⟨b,by simp[h3],by simp[z8,e,h4]⟩
 ·by_cases e:B.x1<C.x1
  ·exact⟨C,by simp,by simp[z8,e]⟩
  ·exact⟨c,by simp[h5],by simp[z8,e,h6]⟩
 ·by_cases e:B.y1<C.y1
  ·exact⟨C,by simp,by simp[z8,e]⟩
  ·exact⟨d,by simp[h7],by simp[z8,e,h8]⟩
noncomputable def zI(v:Value):Int:=V (j1 v) / 2 ^ U1
theorem fz.zI{v:Value}{n:Int}(h:fz v n):zI v=n:=by
 unfold Go.Proofs.Tryz.Sx.zI;rw[h.2.1.2];exact Int.mul_ediv_cancel _ (by have:=C6 U1;omega)
noncomputable def bxOf(F:Nat->Nat->Value)(b c:Nat):Bx:=⟨zI (F b (c+1)),zI (F b (c+2)),zI (F b (c+3)),zI (F b (c+4))⟩
theorem isBox.bxOf{F:Nat->Nat->Value}{b c:Nat}{B:Bx}(h:isBox F b c B):bxOf F b c=B:=by
 obtain⟨h1,h2,h3,h4⟩:=h;cases B;simp only[Go.Proofs.Tryz.Sx.bxOf,h1.zI,h2.zI,h3.zI,h4.zI]
def okR(q:RM)(b c:Nat):Prop:=q.D b/\c+5<=q.S b/\isBox q.F b c (bxOf q.F b c)
theorem okR.mk'{q:RM}{b c:Nat}{B:Bx}(hD:q.D b)(hS:c+5<=q.S b)(h:isBox q.F b c B):okR q b c:=⟨hD,hS,by rw[h.bxOf];exact h⟩
def J3(q q':RM)(W:Nat->Nat->Prop):Prop:=q'.D=q.D/\q'.S=q.S/\∀ b c,¬W b c->q'.F b c=q.F b c
theorem J3.refl(q:RM)(W:Nat->Nat->Prop):J3 q q W:=⟨rfl,rfl,λ_ _ _=>rfl⟩
theorem J3.trans{q q' q'':RM}{W W' W'':Nat->Nat->Prop}(h:J3 q q' W)(h':J3 q' q'' W')(h1:∀ b c,W b c->W'' b c)(h2:∀ b c,W' b c->W'' b c):J3 q q'' W'' :=
 ⟨h'.1.trans h.1,h'.2.1.trans h.2.1,λb c hw=>(h'.2.2 b c λhw'=>hw (h2 b c hw')).trans (h.2.2 b c λhw'=>hw (h1 b c hw'))⟩
structure En where
 v:Value
 B:Bx
structure C5 (q:RM) (b:Nat) (l:List En):Prop where
 D:q.D b
 S:q.S b=86
 n:q.F b 0=.int .i64 (l.length:Nat)
 le:l.length<=17
 v:∀ j e,l[j]? = some e->q.F b (1+5*j)=e.v
 o:∀(j:Nat)(e:En),l[j]? = some e->e.v.oneCell'=true
 B:∀ j e,l[j]? = some e->isBox q.F b (1+5*j) e.B
theorem C5.okR{q:RM}{b:Nat}{l:List En}(h:C5 q b l){j:Nat}{e:En}(hj:l[j]? = some e):okR q b (1+5*j):=by
 refine okR.mk' h.D ?_ (h.B j e hj);have:=(List.getElem?_eq_some_iff.1 hj).1;have:=h.le;rw[h.S];omega
theorem C5.same{q q':RM}{b:Nat}{l:List En}(h:C5 q b l)(hD:q'.D b)(hS:q'.S b=q.S b)(hF:∀ c,q'.F b c=q.F b c):C5 q' b l where
 D:=hD
 S:=hS.trans h.S
 n:=(hF 0).trans h.n
 le:=h.le
 v:=λj e hj=>(hF _).trans (h.v j e hj)
 o:=h.o
 B:=λj e hj=>by
  obtain⟨h1,h2,h3,h4⟩:=h.B j e hj;exact⟨by rw[hF];exact h1,by rw[hF];exact h2,by rw[hF];exact h3,by rw[hF];exact h4⟩
theorem C5.push{q q':RM}{b:Nat}{l:List En}(h:C5 q b l)(hl:l.length<17)(hD:q'.D b)(hS:q'.S b=q.S b){e:En}(ho:e.v.oneCell'=true)(hn:q'.F b 0=.int .i64 (l.length+1:Nat))
  (hv:q'.F b (1+5*l.length)=e.v) (hB:isBox q'.F b (1+5*l.length) e.B) (hF:∀ c,1<=c->c<1+5*l.length->q'.F b c=q.F b c):C5 q' b (l++[e]) where
 D:=hD
 S:=hS.trans h.S
 n:=by rw[hn];simp
 le:=by simp;omega
 v:=λj x hj=>by
  by_cases hc:j<l.length
  ·rw[List.getElem?_append_left hc]at hj;rw[hF _ (by omega) (by omega)];exact h.v j x hj
  ·have hjl:j=l.length:=by
    have:=(List.getElem?_eq_some_iff.1 hj).1;simp at this;omega
   subst hjl;simp at hj;subst hj;exact hv
 o:=λj x hj=>by
  rcases List.mem_append.1 (List.mem_of_getElem? hj)with h1|h1
  ·obtain⟨i,hi,h2⟩:=List.getElem_of_mem h1;exact h.o i x (by rw[List.getElem?_eq_getElem hi,h2])
  ·simp at h1;subst h1;exact ho
 B:=λj x hj=>by
  by_cases hc:j<l.length
  ·rw[List.getElem?_append_left hc]at hj;obtain⟨h1,h2,h3,h4⟩:=h.B j x hj;exact⟨by rw[hF _ (by omega) (by omega)];exact h1,by rw[hF _ (by omega) (by omega)];exact h2,by rw[hF _ (by omega) (by omega)];exact h3,by rw[hF _ (by omega) (by omega)];exact h4⟩
  ·have hjl:j=l.length:=by
    have:=(List.getElem?_eq_some_iff.1 hj).1;simp at this;omega
   subst hjl;simp at hj;subst hj;exact hB
def a1A(l:List En)(i:Nat):List En:=(match l.getLast? with|some e=>l.set i e|none=>l).dropLast
theorem a5D{l:List En}{i:Nat}{e:En}(h:l[i]? = some e):l.Perm (e :: a1A l i):=by
 obtain⟨hi,rfl⟩:=List.getElem?_eq_some_iff.1 h;rcases List.eq_nil_or_concat l with rfl|⟨m,x,hm⟩
 ·simp at hi
 ·have hm:l=m++[x]:=by simpa using hm
  subst hm;simp only[a1A,List.getLast?_concat];by_cases hc:i<m.length
  ·rw[List.set_append_left _ _ hc,List.dropLast_concat,List.getElem_append_left hc];have h1:(m.set i x)=m.take i++x :: m.drop (i+1):=List.set_eq_take_append_cons_drop.trans (by rw[if_pos hc])
   have h2:m=m.take i++m[i] :: m.drop (i+1):=by
    conv=>lhs;rw[<-List.take_append_drop i m]
    rw[List.drop_eq_getElem_cons hc]
   rw[h1]
   conv=>lhs;rw[h2]
   rw[List.append_assoc];refine(List.perm_middle).trans (List.Perm.cons _ ?_);exact(List.Perm.append_left _ (List.perm_append_singleton x (m.drop (i+1))))
  ·have:i=m.length:=by simp at hi;omega
   subst this;simp
theorem a3l{l:List En}{i:Nat}(_:i<l.length):(a1A l i).length=l.length-1:=by
 unfold a1A;split <;> simp
theorem a8l{l:List En}{i j:Nat}(hi:i<l.length)(hj:j<l.length-1):(a1A l i)[j]? = if j=i then l[l.length-1]? else l[j]? := by
 rcases List.eq_nil_or_concat l with rfl|⟨m,x,hm⟩
 ·simp at hi
 ·have hm:l=m++[x]:=by simpa using hm
  subst hm;simp only[List.length_append,List.length_cons,List.length_nil,Nat.zero_add,Nat.add_sub_cancel]at hi hj ⊢;simp only[a1A,List.getLast?_concat,List.getElem?_dropLast,List.length_set,List.length_append,List.length_cons,List.length_nil,Nat.zero_add,Nat.add_sub_cancel,hj,if_true];rw[List.getElem?_set];by_cases hc:i=j
  ·subst hc;simp[hi]
  ·rw[if_neg hc,if_neg (λe=>hc e.symm)]
structure Kid where
 b:Nat
 fp:List Nat
 its:List (Int×Bx)
 B:Bx
 n:Nat
def b0I(x:Int×Bx):En:=⟨.iface 3 (.int .i64 x.1),x.2⟩
def B4(k:Kid):En:=⟨.iface 207 (.pointer (some ⟨k.b,0,none⟩)),k.B⟩
def isTr(q:RM):Nat->Kid->Prop
 | 0,k=>k.fp=[k.b]/\k.n=k.its.length/\C5 q k.b (k.its.map b0I)/\F3 k.B (k.its.map (·.2))
 | h+1,k=>∃ ks:List Kid,k.n=ks.length/\1<=k.n/\k.fp=k.b :: ks.flatMap (·.fp)/\k.its=ks.flatMap (·.its)/\C5 q k.b (ks.map B4)/\F3 k.B (ks.map (·.B))/\∀ x∈ks,isTr q h x/\1<=x.n/\x.n<=16
theorem isTr.nd{q:RM}:∀ {h:Nat} {k:Kid},isTr q h k->∃ l:List En,C5 q k.b l/\l.length=k.n/\F3 k.B (l.map (·.B))
 | 0,k,⟨_,h2,h3,h4⟩=>⟨_,h3,by simp[h2],by simpa [List.map_map,b0I,Function.comp_def]using h4⟩
 | h+1,k,⟨ks,h1,_,_,_,h5,h6,_⟩=>⟨_,h5,by simp[h1],by simpa [List.map_map,B4,Function.comp_def]using h6⟩
theorem isTr.fp0{q:RM}:∀ {h:Nat} {k:Kid},isTr q h k->k.b∈k.fp
 | 0,k,⟨h1,_⟩=>by rw[h1];simp
 | h+1,k,⟨ks,_,_,h3,_⟩=>by rw[h3];simp
theorem isTr.D{q:RM}:∀ {h:Nat} {k:Kid},isTr q h k->∀ b∈k.fp,q.D b
 | 0,k,⟨h1,_,h3,_⟩,b,hb=>by rw[h1]at hb;simp at hb;subst hb;exact h3.D
 | h+1,k,⟨ks,_,_,h3,_,h5,_,h7⟩,b,hb=>by
  rw[h3]at hb;rcases List.mem_cons.1 hb with rfl|hb
  ·exact h5.D
  ·obtain⟨x,hx,hb⟩:=List.mem_flatMap.1 hb;exact(h7 x hx).1.D b hb
theorem isTr.same{q q':RM}:∀ {h:Nat} {k:Kid},isTr q h k->(∀ b∈k.fp,q'.D b/\q'.S b=q.S b/\∀ c,q'.F b c=q.F b c)->isTr q' h k
 | 0,k,⟨h1,h2,h3,h4⟩,hs=>⟨h1,h2,h3.same (hs k.b (by rw[h1];simp)).1 (hs k.b (by rw[h1];simp)).2.1 (hs k.b (by rw[h1];simp)).2.2,h4⟩
 | h+1,k,⟨ks,h1,h2,h3,h4,h5,h6,h7⟩,hs=>⟨ks,h1,h2,h3,h4,h5.same (hs k.b (by rw[h3];simp)).1 (hs k.b (by rw[h3];simp)).2.1 (hs k.b (by rw[h3];simp)).2.2,h6,
   λx hx=>⟨(h7 x hx).1.same λb hb=>hs b (by rw[h3];exact List.mem_cons_of_mem _ (List.mem_flatMap.2 ⟨x,hx,hb⟩)),(h7 x hx).2⟩⟩
def X0:D7:=⟨G0,[],[],[],[]⟩
theorem x0:y9 Tryz.prog X0:=⟨g0,q8.nil⟩
noncomputable def a9e:List SV->RRd (Unit)
 | [.pb n rb rc, .pb n1 bb bc]=>.read n λo0=>(match G2 o0 with
  | some (ts,q)=>.ret ⟨[.pb 0 rb rc, .pb 0 bb bc],[(0,rwO ts q)],some (n=n1/\(okR q rb rc/\okR q bb bc)),λ_i=>True,λ_i=>⟨[],[], .bool (decide (A6 (bxOf q.F rb rc) (bxOf q.F bb bc))),[(0,rwO ts (q))],[],none⟩⟩
  | none=>.fail)
 | _=>.fail
theorem b7j(R:Option Ob->SV->Prop)(ts:List Nat)(q:RM)(rb rc bb bc:Nat){T1}(t1:T1=(Option.some (Ob.mk true 0 (a9.raw ts (RM.D q) q.2 q.3) 0))){T2}(t2:T2=((0:Int)<=0/\(0:Int)<2)){T3}(t3:T3=((0:Int)<=1/\(1:Int)<2)){T4}(t4:T4=((0:Int)<=2/\(2:Int)<2)){T5}(t5:T5=(q.3 bb (bc+1+0))){T6}(t6:T6=(q.3
 rb (rc+1+0))){T7}(t7:T7=(q.3 bb (bc+1+1))){T8}(t8:T8=(q.3 rb (rc+1+1))){T9}(t9:T9=(q.3 bb (bc+1+2))){T10}(t10:T10=(q.3 rb (rc+1+2))){T11}(t11:T11=(q.1 rb/\rc+1+2<q.2 rb/\u5 .f64 T10)){T12}(t12:T12=(q.1 bb/\bc+1+0
 < q.2 bb/\u5 .f64 T5)){T13}(t13:T13=(q.1 rb/\rc+1+0<q.2 rb/\u5 .f64 T6)){T14}(t14:T14=(q.1 bb/\bc+1+1<q.2 bb/\u5 .f64 T7)){T15}(t15:T15=(q.1 rb/\rc+1+1<q.2 rb/\u5 .f64 T8)){T16}(t16:T16=(q.1 bb/\bc+1+2<q.2
 bb/\u5 .f64 T9)):J7 X0 1 [(2, .iter 3)] [] (j3 Tryz.f133) (q9 Tryz.f133.ntmps [.pb 0 rb rc, .pb 0 bb bc] [(0,rwO ts q)] 1) (r6 X0.G.E.T Tryz.f133.results.toList λS v=>R (Go.Sx.look S.H 0) v)=(
 (true=true->(fLt .f64 (j1 T5) (j1 T6)=true->T2/\T12/\T2/\T13/\fLt .f64 (j1 T5) (j1 T6)=true/\true=true/\R T1 SV.ff)/\(fLt .f64 (j1 T5) (j1 T6)=false->T2/\T12/\T2/\T13/\fLt .f64 (j1 T5) (j1 T6)=false/\T2/\
 (q.1 bb/\bc+3+0<q.2 bb/\u5 .f64 (q.3 bb (bc+3+0)))/\T2/\(q.1 rb/\rc+3+0<q.2 rb/\u5 .f64 (q.3 rb (rc+3+0)))/\true=true/\(fGt .f64 (j1 (q.3 bb (bc+3+0))) (j1 (q.3 rb (rc+3+0)))=true->R T1 SV.ff)/\(fGt
 .f64 (j1 (q.3 bb (bc+3+0))) (j1 (q.3 rb (rc+3+0)))=false->(true=true->(fLt .f64 (j1 T7) (j1 T8)=true->T3/\T14/\T3/\T15/\fLt .f64 (j1 T7) (j1 T8)=true/\true=true/\R T1 SV.ff)/\(fLt .f64 (j1 T7) (j1 T8) =
 false->T3/\T14/\((0:Int)<=1/\(1:Int)<(2:Int))/\T15/\fLt .f64 (j1 T7) (j1 T8)=false/\((0:Int)<=(1:Int)/\(1:Int)<2)/\(q.1 bb/\bc+3+1<q.2 bb/\u5 .f64 (q.3 bb (bc+3+1)))/\T3/\(q.1 rb/\rc+3+1<q.2 rb
 /\u5 .f64 (q.3 rb (rc+3+1)))/\true=true/\(fGt .f64 (j1 (q.3 bb (bc+3+1))) (j1 (q.3 rb (rc+3+1)))=true->R T1 SV.ff)/\(fGt .f64 (j1 (q.3 bb (bc+3+1))) (j1 (q.3 rb (rc+3+1)))=false->(false=true->(fLt .f64
 (j1 T9) (j1 T10)=true->T4/\T16/\((0:Int)<=(2:Int)/\(2:Int)<2)/\T11/\fLt .f64 (j1 T9) (j1 T10)=true/\true=true/\R T1 SV.ff)/\(fLt .f64 (j1 T9) (j1 T10)=false->T4/\T16/\T4/\T11/\fLt .f64 (j1 T9) (j1 T10) =
 false/\((0:Int)<=2/\(2:Int)<(2:Int))/\(q.1 bb/\bc+3+2<q.2 bb/\u5 .f64 (q.3 bb (bc+3+2)))/\T4/\(q.1 rb/\rc+3+2<q.2 rb/\u5 .f64 (q.3 rb (rc+3+2)))/\true=true/\(fGt .f64 (j1 (q.3 bb (bc+3+2))) (j1
 (q.3 rb (rc+3+2)))=true->R T1 SV.ff)/\(fGt .f64 (j1 (q.3 bb (bc+3+2))) (j1 (q.3 rb (rc+3+2)))=false->False)))/\(false=false->R T1 SV.tt))))/\(true=false->R T1 SV.tt))))/\(true=false->R T1 SV.tt)):=by subst t1 t2 t3 t4 t5 t6 t7 t8 t9 t10 t11 t12 t13 t14 t15 t16;kernel_rfl
theorem c2u:u6 Tryz.prog 133 (l9 (Unit) ⟨()⟩ a9e):=by
 refine A7 x0 Tryz.func133 rfl (by kernel_rfl) λargs=>?_
 unfold a9e;split
 ·rename_i n rb rc n1 bb bc;intro o0;try dsimp only
  split
  ·rename_i ts q hm0;intro ho;replace ho:n=n1/\(okR q rb rc/\okR q bb bc):=ho;obtain⟨heq0,ho⟩:=ho;subst heq0;refine⟨?_,Nat.succ_pos _,ts,λ_i=>q,λ_i=>.bool (decide (A6 (bxOf q.F rb rc) (bxOf q.F bb bc))),λ_=>rfl,?_,_,_,(b7j (G6 1 ts (λ_i=>True) (λ_i=>q) (λ_i=>.bool (decide (A6 (bxOf q.F rb rc) (bxOf q.F bb bc))))) ts q rb rc bb bc rfl rfl rfl rfl rfl rfl rfl rfl rfl rfl rfl rfl rfl rfl rfl rfl).mpr ?_⟩
   ·refine g9 rfl ⟨λ_=>rfl,?_,⟨trivial,z9 hm0,trivial⟩⟩;simp[j9,o8,o9,p7,nth,a8]
   ·intro _i _;rfl
   ·obtain⟨⟨d1,s1,b1⟩,⟨d2,s2,b2⟩⟩:=ho;have e0:=(b2.lo (k:=0) (by omega)).lt (b1.lo (k:=0) (by omega));have e1:=(b2.lo (k:=1) (by omega)).lt (b1.lo (k:=1) (by omega));have e2:=(b2.hi (k:=0) (by omega)).gt (b1.hi (k:=0) (by omega));have e3:=(b2.hi (k:=1) (by omega)).gt (b1.hi (k:=1) (by omega));have f0:=(b2.lo (k:=0) (by omega)).flt;have f1:=(b2.lo (k:=1) (by omega)).flt;have f2:=(b2.hi (k:=0) (by omega)).flt;have f3:=(b2.hi (k:=1) (by omega)).flt;have g0:=(b1.lo (k:=0) (by omega)).flt;have g1:=(b1.lo (k:=1) (by omega)).flt;have g2:=(b1.hi (k:=0) (by omega)).flt
    have g3:=(b1.hi (k:=1) (by omega)).flt;have hR:∀ b:Bool,b=decide (A6 (bxOf q.F rb rc) (bxOf q.F bb bc))->∀ v,o8 (J9 1 []) v (.bool b)->G6 1 ts (λ_i:Unit=>True) (λ_i=>q) (λ_i=>.bool (decide (A6 (bxOf q.F rb rc) (bxOf q.F bb bc)))) (some ⟨true,0, .raw ts q.D q.S q.F,0⟩) v:=λb hb v hv=>⟨(),trivial,rfl,by subst hb;exact hv⟩
    generalize G6 1 ts (λ_i:Unit=>True) (λ_i=>q) (λ_i=>.bool (decide (A6 (bxOf q.F rb rc) (bxOf q.F bb bc))))=R at hR ⊢;have hff:¬A6 (bxOf q.F rb rc) (bxOf q.F bb bc)->R (some ⟨true,0, .raw ts q.D q.S q.F,0⟩) .ff:=λh=>hR false (decide_eq_false h).symm _ rfl
    have htt:A6 (bxOf q.F rb rc) (bxOf q.F bb bc)->R (some ⟨true,0, .raw ts q.D q.S q.F,0⟩) .tt:=λh=>hR true (decide_eq_true h).symm _ rfl
    clear hR;simp only[Bx.lo,Bx.hi,if_true,show ¬(1=0)from by omega,if_false]at e0 e1 e2 e3;simp only[e0,e1,e2,e3,f0,f1,f2,f3,g0,g1,g2,g3,d1,d2,true_and,and_true];unfold A6 at hff htt;grind
  ·trivial
 ·trivial
def a3t(i j:Nat)(A B:Bx):Bx:=⟨if 0<i/\B.x0<A.x0 then B.x0 else A.x0,if 1<i/\B.y0<A.y0 then B.y0 else A.y0,if 0<j/\A.x1<B.x1 then B.x1 else A.x1,if 1<j/\A.y1<B.y1 then B.y1 else A.y1⟩
def rW(rb rc:Nat):Nat->Nat->Prop:=λb c=>b=rb/\rc+1<=c/\c<rc+5
def apart(rb rc bb bc:Nat):Prop:=rb≠bb∨rc+5<=bc∨bc+5<=rc
def exI(q:RM)(rb rc bb bc i j:Nat)(q':RM):Prop:=J3 q q' (rW rb rc)/\isBox q'.F rb rc (a3t i j (bxOf q.F rb rc) (bxOf q.F bb bc))
def c7T(ts:List Nat)(rb rc bb bc i:Nat)(q:RM):St:=⟨57,[(0, .pb 0 rb rc),(1, .pb 0 bb bc),(4, .int .i64 i)],[(0,rwO ts q)],1⟩
def exL(ts:List Nat)(q:RM)(rb rc bb bc:Nat):O9 :=
 ⟨⟨Nat×RM,λp=>c7T ts rb rc bb bc p.1 p.2,λp=>p.1<=2/\exI q rb rc bb bc p.1 p.1 p.2,λp=>2-p.1⟩,λp=>[(5,⟨RM,λq'=>c7T ts rb rc bb bc p.1 q',λq'=>p.1<2/\exI q rb rc bb bc (p.1+1) p.1 q',λ_=>0⟩)]⟩
theorem K7{F:Nat->Nat->Value}{b c:Nat}{B:Bx}:isBox F b c B↔∀ k,k<2->fz (F b (c+1+k)) (B.lo k)/\fz (F b (c+3+k)) (B.hi k) :=
 ⟨λh k hk=>⟨h.lo hk,h.hi hk⟩,λh=>⟨(h 0 (by omega)).1,(h 1 (by omega)).1,(h 0 (by omega)).2,(h 1 (by omega)).2⟩⟩
theorem Y8(i j k:Nat)(A B:Bx)(hk:k<2):(a3t i j A B).lo k=if k<i/\B.lo k<A.lo k then B.lo k else A.lo k:=by
 match k,hk with
 | 0,_=>rfl
 | 1,_=>rfl
theorem Z0(i j k:Nat)(A B:Bx)(hk:k<2):(a3t i j A B).hi k=if k<j/\A.hi k<B.hi k then B.hi k else A.hi k:=by
 match k,hk with
 | 0,_=>rfl
 | 1,_=>rfl
theorem a3Q(A B:Bx):a3t 2 2 A B=z8 A B:=by
 unfold a3t z8;simp
theorem b1N(A B:Bx):a3t 0 0 A B=A:=by
 cases A;simp[a3t]
section
variable {q q':RM} {rb rc bb bc i j:Nat} (h1:okR q rb rc) (h2:okR q bb bc) (ha:apart rb rc bb bc) (h:exI q rb rc bb bc i j q')
include h1 h2 ha h
theorem exI.rd{k:Nat}(hk:k<2):fz (q'.F bb (bc+1+k)) ((bxOf q.F bb bc).lo k)/\fz (q'.F bb (bc+3+k)) ((bxOf q.F bb bc).hi k)/\fz (q'.F rb (rc+1+k)) ((a3t i j (bxOf q.F rb rc) (bxOf q.F bb bc)).lo k)/\fz (q'.F rb (rc+3+k)) ((a3t i j (bxOf q.F rb rc) (bxOf q.F bb bc)).hi k):=by
 have _:=h1;have off:∀ c,bc+1<=c->c<bc+5->q'.F bb c=q.F bb c:=λc c1 c2=>h.1.2.2 bb c (by unfold apart at ha;unfold rW;omega)
 refine⟨?_,?_,h.2.lo hk,h.2.hi hk⟩
 ·rw[off _ (by omega) (by omega)];exact h2.2.2.lo hk
 ·rw[off _ (by omega) (by omega)];exact h2.2.2.hi hk
theorem exI.dom:q'.D bb/\q'.D rb/\bc+5<=q'.S bb/\rc+5<=q'.S rb:=by
 have _:=ha;rw[h.1.1,h.1.2.1];exact⟨h2.1,h1.1,h2.2.1,h1.2.1⟩
theorem exI.lo1(hi:i<2)(hlt:fLt .f64 (j1 (q'.F bb (bc+1+i))) (j1 (q'.F rb (rc+1+i)))=true) :
  exI q rb rc bb bc (i+1) j ⟨q'.D,q'.S,j0 q'.F rb (rc+1+i) (.float .f64 (j1 (q'.F bb (bc+1+i))))⟩:=by
 obtain⟨r1,r2,r3,r4⟩:=exI.rd h1 h2 ha h hi;rw[r1.lt r3,Y8 _ _ _ _ _ hi,if_neg (by omega),decide_eq_true_eq]at hlt;refine⟨⟨h.1.1,h.1.2.1,λb c hw=>(b8 (by unfold rW at hw;omega)).trans (h.1.2.2 b c hw)⟩,K7.2 λk hk=>?_⟩;obtain⟨t1,t2⟩:=K7.1 h.2 k hk;rw[Y8 _ _ _ _ _ hk]at t1 ⊢;rw[Z0 _ _ _ _ _ hk]at t2 ⊢;refine⟨?_,?_⟩
 ·by_cases e:k=i
  ·subst e;show fz (j0 q'.F rb (rc+1+k) _ rb (rc+1+k)) _;rw[v9,if_pos ⟨by omega,hlt⟩,<-r1.1];exact r1
  ·show fz (j0 q'.F rb (rc+1+i) _ rb (rc+1+k)) _;rw[b8 (by omega)];have:(k<i+1/\(bxOf q.F bb bc).lo k<(bxOf q.F rb rc).lo k)↔(k<i/\(bxOf q.F bb bc).lo k<(bxOf q.F rb rc).lo k):=by omega
   simp only[this];exact t1
 ·show fz (j0 q'.F rb (rc+1+i) _ rb (rc+3+k)) _;rw[b8 (by omega)];exact t2
theorem exI.lo0(hi:i<2)(hlt:fLt .f64 (j1 (q'.F bb (bc+1+i))) (j1 (q'.F rb (rc+1+i)))=false):exI q rb rc bb bc (i+1) j q':=by
 obtain⟨r1,r2,r3,r4⟩:=exI.rd h1 h2 ha h hi;rw[r1.lt r3,Y8 _ _ _ _ _ hi,if_neg (by omega),decide_eq_false_iff_not]at hlt;refine⟨h.1,K7.2 λk hk=>?_⟩;obtain⟨t1,t2⟩:=K7.1 h.2 k hk;rw[Y8 _ _ _ _ _ hk]at t1 ⊢;rw[Z0 _ _ _ _ _ hk]at t2 ⊢;refine⟨?_,t2⟩
 have:(k<i+1/\(bxOf q.F bb bc).lo k<(bxOf q.F rb rc).lo k)↔(k<i/\(bxOf q.F bb bc).lo k<(bxOf q.F rb rc).lo k):=by
  by_cases e:k=i
  ·subst e;omega
  ·omega
 simp only[this];exact t1
theorem exI.hi1(hi:j<2)(hlt:fGt .f64 (j1 (q'.F bb (bc+3+j))) (j1 (q'.F rb (rc+3+j)))=true) :
  exI q rb rc bb bc i (j+1) ⟨q'.D,q'.S,j0 q'.F rb (rc+3+j) (.float .f64 (j1 (q'.F bb (bc+3+j))))⟩:=by
 obtain⟨r1,r2,r3,r4⟩:=exI.rd h1 h2 ha h hi;rw[r2.gt r4,Z0 _ _ _ _ _ hi,if_neg (by omega),decide_eq_true_eq]at hlt;refine⟨⟨h.1.1,h.1.2.1,λb c hw=>(b8 (by unfold rW at hw;omega)).trans (h.1.2.2 b c hw)⟩,K7.2 λk hk=>?_⟩;obtain⟨t1,t2⟩:=K7.1 h.2 k hk;rw[Y8 _ _ _ _ _ hk]at t1 ⊢;rw[Z0 _ _ _ _ _ hk]at t2 ⊢;refine⟨?_,?_⟩
 ·show fz (j0 q'.F rb (rc+3+j) _ rb (rc+1+k)) _;rw[b8 (by omega)];exact t1
 ·by_cases e:k=j
  ·subst e;show fz (j0 q'.F rb (rc+3+k) _ rb (rc+3+k)) _;rw[v9,if_pos ⟨by omega,hlt⟩,<-r2.1];exact r2
  ·show fz (j0 q'.F rb (rc+3+j) _ rb (rc+3+k)) _;rw[b8 (by omega)];have:(k<j+1/\(bxOf q.F rb rc).hi k<(bxOf q.F bb bc).hi k)↔(k<j/\(bxOf q.F rb rc).hi k<(bxOf q.F bb bc).hi k):=by omega
   simp only[this];exact t2
theorem exI.hi0(hi:j<2)(hlt:fGt .f64 (j1 (q'.F bb (bc+3+j))) (j1 (q'.F rb (rc+3+j)))=false):exI q rb rc bb bc i (j+1) q':=by
 obtain⟨r1,r2,r3,r4⟩:=exI.rd h1 h2 ha h hi;rw[r2.gt r4,Z0 _ _ _ _ _ hi,if_neg (by omega),decide_eq_false_iff_not]at hlt;refine⟨h.1,K7.2 λk hk=>?_⟩;obtain⟨t1,t2⟩:=K7.1 h.2 k hk;rw[Y8 _ _ _ _ _ hk]at t1 ⊢;rw[Z0 _ _ _ _ _ hk]at t2 ⊢;refine⟨t1,?_⟩
 have:(k<j+1/\(bxOf q.F rb rc).hi k<(bxOf q.F bb bc).hi k)↔(k<j/\(bxOf q.F rb rc).hi k<(bxOf q.F bb bc).hi k):=by
  by_cases e:k=j
  ·subst e;omega
  ·omega
 simp only[this];exact t2
end
noncomputable def a6j:List SV->RRd (RM)
 | [.pb n rb rc, .pb n1 bb bc]=>.read n λo0=>(match G2 o0 with
  | some (ts,q)=>.ret ⟨[.pb 0 rb rc, .pb 0 bb bc],[(0,rwO ts q)],some (n=n1/\(okR q rb rc/\okR q bb bc/\apart rb rc bb bc)),λi=>exI q rb rc bb bc 2 2 i,λi=>⟨[],[], .tup [],[(0,rwO ts (i))],[],none⟩⟩
  | none=>.fail)
 | _=>.fail
theorem b7U(R:Option Ob->SV->Prop)(ts:List Nat)(q:RM)(rb rc bb bc:Nat){T1}(t1:T1=λ(i:Nat×RM)=>(↑(i.1):Int)){T2}(t2:T2=λ(i:Nat×RM)=>((i.2).3 bb (bc+1+Int.toNat (T1 i)*1))){T3}(t3:T3=(True/\rb=rb/\rc=rc)){T4}(t4:T4=(True/\bb=bb/\bc=bc)){T5}(t5:T5=λ(i:Nat×RM) (j:RM)=>(j.3 bb (bc+3 +
 Int.toNat (T1 i)*1))){T6}(t6:T6=λ(pq:Nat×RM)=>(pq.1<=2/\exI q rb rc bb bc (pq.1) (pq.1) (pq.2))){T7}(t7:T7=λ(i:Nat×RM)=>((i.2).3 rb (rc+1+Int.toNat (T1 i)*1))){T8}(t8:T8=λ(i:Nat×RM)=>(rc+3+Int.toNat (T1 i) *
 1)){T9}(t9:T9=λ(i:Nat×RM)=>(0<=(T1 i)/\(T1 i)<2)):J7 X0 1 [(1,exL ts q rb rc bb bc)] [] (j3 Tryz.f128) (q9 Tryz.f128.ntmps [.pb 0 rb rc, .pb 0 bb bc] [(0,rwO ts q)] 1) (r6 X0.G.E.T Tryz.f128.results.toList λS v=>R (Go.Sx.look S.H 0) v)=(
 (∃(pq:Nat×RM),(T6 pq)/\(T3/\T4/\0=(↑(pq.1):Int)/\True)/\True/\(0=0/\0=0/\ts=ts/\q.3=(pq.2).3/\q.2=(pq.2).2/\RM.D q=RM.D (pq.2))/\True)/\∀(i:Nat×RM),i.1<=2/\exI q rb rc bb bc (i.1) (i.1) (i.2)->(decide ((T1
 i)<2)=true->((T9 i)/\((i.2).1 bb/\bc+1+Int.toNat (T1 i)*1<(Prod.snd i).2 bb/\u5 .f64 (T2 i))/\(T9 i)/\((i.2).1 rb/\rc+1+Int.toNat (T1 i)*1<(i.2).2 rb/\u5 .f64 (T7 i))/\true=true/\(fLt .f64 (j1 (T2 i)) (j1 (T7
 i))=true->(T9 i)/\((i.2).1 bb/\bc+1+Int.toNat (T1 i)*1<(i.2).2 bb/\u5 .f64 (T2 i))/\(T9 i)/\((i.2).1 rb/\rc+1+Int.toNat (T1 i)*1+1<=(i.2).2 rb)/\true=true/\∃(pq:RM),(i.1<2/\exI q rb rc bb bc (i.1+1) (i.1) pq)
 /\(T3/\T4/\(T1 i)=(T1 i)/\True)/\True/\(0=0/\0=0/\ts=ts/\j0 (i.2).3 rb (rc+1+Int.toNat (T1 i)*1) (Value.float .f64 (j1 (T2 i)))=pq.3/\(i.2).2=pq.2/\RM.D (i.2)=RM.D pq)/\True)/\(fLt .f64 (j1 (T2 i)) (j1 (T7 i))
 = false->∃(pq:RM),(i.1<2/\exI q rb rc bb bc (i.1+1) (i.1) pq)/\(T3/\T4/\(T1 i)=(T1 i)/\True)/\True/\(0=0/\0=0/\ts=ts/\(i.2).3=pq.3/\(i.2).2=pq.2/\RM.D (i.2)=RM.D pq)/\True))/\∀(j:RM),i.1<2/\exI q rb rc bb
 bc (i.1+1) (i.1) j->((0:Int)<=(T1 i)/\(T1 i)<2)/\(j.1 bb/\bc+3+Int.toNat (T1 i)*1<j.2 bb/\u5 .f64 (T5 i j))/\((0:Int)<=(T1 i)/\(T1 i)<2)/\(j.1 rb/\rc+3+Int.toNat (T1 i)*1<j.2 rb/\u5 .f64 (j.3 rb (T8 i)))/\
 true=true/\(fGt .f64 (j1 (T5 i j)) (j1 (j.3 rb (T8 i)))=true->(0<=(T1 i)/\(T1 i)<(2:Int))/\(j.1 bb/\bc+3+Int.toNat (T1 i)*1<j.2 bb/\u5 .f64 (T5 i j))/\(0<=(T1 i)/\(T1 i)<(2:Int))/\(j.1 rb/\rc+3+Int.toNat (T1
 i)*1+1<=j.2 rb)/\true=true/\∃(pq:Nat×RM),(T6 pq)/\2-pq.1<2-i.1/\(T3/\T4/\IntKind.wrap .i64 ((T1 i)+1)=(↑(pq.1):Int)/\True)/\True/\(0=0/\0=0/\ts=ts/\j0 j.3 rb (T8 i) (Value.float .f64 (j1 (T5 i j))) =
 (pq.2).3/\j.2=(pq.2).2/\RM.D j=RM.D (pq.2))/\True)/\(fGt .f64 (j1 (T5 i j)) (j1 (j.3 rb (T8 i)))=false->∃(pq:Nat×RM),(T6 pq)/\2-pq.1<2-i.1/\(T3/\T4/\IntKind.wrap .i64 ((T1 i)+1)=(↑(pq.1):Int)/\True)/\True/\(0 =
 0/\0=0/\ts=ts/\j.3=(pq.2).3/\j.2=(pq.2).2/\RM.D j=RM.D (pq.2))/\True))/\(decide ((T1 i)<2)=false->R (Option.some (Ob.mk true 0 (a9.raw ts (RM.D (i.2)) (i.2).2 (i.2).3) 0)) (SV.tup []))):=by subst t1 t2 t3 t4 t5 t6 t7 t8 t9;kernel_rfl
theorem b8Z:u6 Tryz.prog 128 (l9 (RM) ⟨default⟩ a6j):=by
 refine A7 x0 Tryz.func128 rfl (by kernel_rfl) λargs=>?_
 unfold a6j;split
 ·rename_i n rb rc n1 bb bc;intro o0;try dsimp only
  split
  ·rename_i ts q hm0;intro ho;replace ho:n=n1/\(okR q rb rc/\okR q bb bc/\apart rb rc bb bc):=ho;obtain⟨heq0,ho⟩:=ho;subst heq0;refine⟨?_,Nat.succ_pos _,ts,λ(i:RM)=>i,λ(i:RM)=>.tup [],λ_=>rfl,?_,_,_,(b7U (G6 1 ts (λ(i:RM)=>exI q rb rc bb bc 2 2 i) (λ(i:RM)=>i) (λ(i:RM)=>.tup [])) ts q rb rc bb bc rfl rfl rfl rfl rfl rfl rfl rfl rfl).mpr ?_⟩
   ·refine g9 rfl ⟨λ_=>rfl,?_,⟨trivial,z9 hm0,trivial⟩⟩;simp[j9,o8,o9,p7,nth,a8]
   ·intro i _;rfl
   ·obtain⟨o1,o2,hap⟩:=ho;have hw:∀ i:Nat,i<2->IntKind.wrap .i64 ((i:Int)+1)=((i+1:Nat):Int):=λi hi=>by rw[j5 (by omega) (by omega)];omega
    refine⟨⟨(0,q),⟨by show 0<=2;omega,J3.refl _ _,by rw[b1N];exact o1.2.2⟩,(by and_intros <;> first|trivial|rfl|(rw[j5 (by omega) (by omega)];first|rfl|omega))⟩,?_⟩;rintro⟨i,q'⟩ ⟨hi,hq⟩;replace hi:i<=2:=hi;replace hq:exI q rb rc bb bc i i q':=hq;simp only[true_and,and_true,eq_self,Int.toNat_natCast,Nat.mul_one,decide_eq_true_eq,decide_eq_false_iff_not];refine⟨λhlt=>⟨?_,?_⟩,λhge=>?_⟩
    ·have hi2:i<2:=by omega
     obtain⟨m1,m2,m3,m4⟩:=exI.dom o1 o2 hap hq;obtain⟨r1,r2,r3,r4⟩:=exI.rd o1 o2 hap hq hi2;refine⟨⟨by omega,by omega⟩,⟨m1,by omega,r1.flt⟩,⟨by omega,by omega⟩,⟨m2,by omega,r3.flt⟩,λhc=>⟨⟨by omega,by omega⟩,⟨m1,by omega,r1.flt⟩,⟨by omega,by omega⟩,⟨m2,by omega⟩,⟨_,_,_⟩,⟨hi2,exI.lo1 o1 o2 hap hq hi2 hc⟩,(by and_intros <;> first|trivial|rfl|(rw[j5 (by omega) (by omega)];first|rfl|omega))⟩,λhc=>⟨q',⟨hi2,exI.lo0 o1 o2 hap hq hi2 hc⟩,(by and_intros <;> first|trivial|rfl|(rw[j5 (by omega) (by omega)];first|rfl|omega))⟩⟩
    ·rintro q2 ⟨hi2,hq2⟩;obtain⟨m1,m2,m3,m4⟩:=exI.dom o1 o2 hap hq2;obtain⟨r1,r2,r3,r4⟩:=exI.rd o1 o2 hap hq2 hi2;simp only[hw i hi2]
     refine⟨⟨by omega,by omega⟩,⟨m1,by omega,r2.flt⟩,⟨by omega,by omega⟩,⟨m2,by omega,r4.flt⟩,λhc=>⟨⟨by omega,by omega⟩,⟨m1,by omega,r2.flt⟩,⟨by omega,by omega⟩,⟨m2,by omega⟩,(i+1,⟨_,_,_⟩),⟨by show i+1<=2;omega,exI.hi1 o1 o2 hap hq2 hi2 hc⟩,by show 2-(i+1)<2-i;omega,(by and_intros <;> first|trivial|rfl|(rw[j5 (by omega) (by omega)];first|rfl|omega))⟩,λhc=>⟨(i+1,q2),⟨by show i+1<=2;omega,exI.hi0 o1 o2 hap hq2 hi2 hc⟩,by show 2-(i+1)<2-i;omega,(by and_intros <;> first|trivial|rfl|(rw[j5 (by omega) (by omega)];first|rfl|omega))⟩⟩
    ·have e:i=2:=by omega
     subst e;exact⟨q',hq,rfl,trivial⟩
  ·trivial
 ·trivial
end Go.Proofs.Tryz.Sx

namespace Go.Sx
open Go.RowKit
def a1f(R:a9I)(i:R.ι):Con:=λargs rd nm=>match R.c i args rd nm with
 | some (e,_)=>some e
 | none=>none
theorem a9L{P:Program}{f:Nat}{R:a9I}(h:u6 P f R)(i:R.ι)(hi:∀ j,j=i):q7 P f (a1f R i) where
 calls:=by
  intro W0 Fr U H ρ w nm args e hH hbd hn hc ho;unfold a1f at hc;split at hc
  ·rename_i e' p he;simp only[Option.some.injEq]at hc;subst hc;refine(h.calls hH hbd hn λj=>by rw[hi j];exact⟨e',p,he,ho⟩).mono ?_;rintro en w' ⟨j,e2,p2,h1,h2,h3⟩;rw[hi j,he]at h1;simp only[Option.some.injEq,Prod.mk.injEq]at h1;obtain⟨rfl,rfl⟩:=h1;exact h3
  ·cases hc
 loc:=by
  intro args rd rd' nm e hc hr;unfold a1f at hc ⊢;split at hc
  ·rename_i e' p he;simp only[Option.some.injEq]at hc;subst hc;rw[h.loc he hr]
  ·cases hc
end Go.Sx

namespace Go.Proofs.Tryz.Sx
open Go Go.Sx Go.Proofs Go.Fl Go.Geo
set_option maxRecDepth 100000
noncomputable def a8v:List SV->RRd (Nat×Nat)
 | [.pb n rb rc]=>.read n λo0=>(match G2 o0 with
  | some (ts,q)=>.ret ⟨[.pb 0 rb rc],[(0,rwO ts q)],some ((okR q rb rc)),λi=>i.1<2,λi=>⟨[],[], .tup [.int .i64 (i.1:Nat), .flt .f64 i.2],[(0,rwO ts (q))],[],none⟩⟩
  | none=>.fail)
 | _=>.fail
theorem b8u(R:Option Ob->SV->Prop)(ts:List Nat)(q:RM)(rb rc:Nat){T1}(t1:T1=(false=false->(fGt .f64 (fop BinOp.sub .f64 (j1 (q.3 rb (rc+3+2))) (j1 (q.3 rb (rc+1+2)))) (fop BinOp.sub .f64 (j1 (q.3 rb (rc+3+1))) (j1 (q.3 rb (rc+1+1))))=true->False)/\(fGt .f64 (fop BinOp.sub .f64 (j1
 (q.3 rb (rc+3+2))) (j1 (q.3 rb (rc+1+2)))) (fop BinOp.sub .f64 (j1 (q.3 rb (rc+3+1))) (j1 (q.3 rb (rc+1+1))))=false->False))){T2}(t2:T2=(fGt .f64 (fop BinOp.sub .f64 (j1 (q.3 rb (rc+3+1))) (j1 (q.3 rb (rc+1+1))))
 (fop BinOp.sub .f64 (j1 (q.3 rb (rc+3+0))) (j1 (q.3 rb (rc+1+0))))=false->(false=true->((0:Int)<=2/\(2:Int)<2)/\(q.1 rb/\rc+3+2<q.2 rb/\u5 .f64 (q.3 rb (rc+3+2)))/\((0:Int)<=2/\(2:Int)<2)/\(q.1 rb
 /\rc+1+2<q.2 rb/\u5 .f64 (q.3 rb (rc+1+2)))/\fok BinOp.sub .f64 (j1 (q.3 rb (rc+3+2))) (j1 (q.3 rb (rc+1+2)))/\true=true/\(false=true->False)/\(false=false->(fGt .f64 (fop BinOp.sub .f64 (j1 (q.3 rb (rc+3 +
 2))) (j1 (q.3 rb (rc+1+2)))) (fop BinOp.sub .f64 (j1 (q.3 rb (rc+3+0))) (j1 (q.3 rb (rc+1+0))))=true->False)/\(fGt .f64 (fop BinOp.sub .f64 (j1 (q.3 rb (rc+3+2))) (j1 (q.3 rb (rc+1+2)))) (fop BinOp.sub .f64 (j1
 (q.3 rb (rc+3+0))) (j1 (q.3 rb (rc+1+0))))=false->False)))/\(false=false->R (Option.some (Ob.mk true 0 (a9.raw ts (RM.D q) q.2 q.3) 0)) (SV.tup [SV.int .i64 (0:Int),SV.flt .f64 (fop BinOp.sub .f64 (j1 (q.3 rb (rc+3+0)))
 (j1 (q.3 rb (rc+1+0))))])))){T3}(t3:T3=(false=false->R (Option.some (Ob.mk true 0 (a9.raw ts (RM.D q) q.2 q.3) 0)) (SV.tup [SV.int .i64 (1:Int),SV.flt .f64 (fop BinOp.sub .f64 (j1 (q.3 rb (rc+3+1))) (j1 (q.3 rb (rc+1 +
 1))))]))){T4}(t4:T4=(false=true->((0:Int)<=2/\(2:Int)<2)/\(q.1 rb/\rc+3+2<q.2 rb/\u5 .f64 (q.3 rb (rc+3+2)))/\((0:Int)<=2/\(2:Int)<2)/\(q.1 rb/\rc+1+2<q.2 rb/\u5 .f64 (q.3 rb (rc+1+2)))/\fok
 BinOp.sub .f64 (j1 (q.3 rb (rc+3+2))) (j1 (q.3 rb (rc+1+2)))/\true=true/\(false=true->False)/\T1)){T5}(t5:T5=(false=true->((0:Int)<=(2:Int)/\(2:Int)<2)/\(q.1 rb/\rc+3+2<q.2 rb/\u5 .f64 (q.3 rb (rc+3 +
 2)))/\((0:Int)<=2/\(2:Int)<2)/\(q.1 rb/\rc+1+2<q.2 rb/\u5 .f64 (q.3 rb (rc+1+2)))/\fok BinOp.sub .f64 (j1 (q.3 rb (rc+3+2))) (j1 (q.3 rb (rc+1+2)))/\true=true/\(false=true->False)/\T1)){T6}(t6:T6=(fop
 BinOp.sub .f64 (j1 (q.3 rb (rc+3+0))) (j1 (q.3 rb (rc+1+0))))){T7}(t7:T7=(Option.some (Ob.mk true 0 (a9.raw ts (RM.D q) q.2 q.3) 0))){T8}(t8:T8=(fop BinOp.sub .f64 (j1 (q.3 rb (rc+3+1))) (j1 (q.3 rb (rc+1 +
 1))))){T9}(t9:T9=(q.1 rb/\rc+3+1<q.2 rb/\u5 .f64 (q.3 rb (rc+3+1)))){T10}(t10:T10=(q.1 rb/\rc+1+1<q.2 rb/\u5 .f64 (q.3 rb (rc+1+1)))){T11}(t11:T11=((0:Int)<=1/\(1:Int)<2)){T12}(t12:T12=(q.3 rb (rc+3 +
 2))){T13}(t13:T13=(q.3 rb (rc+1+2))){T14}(t14:T14=(SV.tup [SV.int .i64 (0:Int),SV.flt .f64 0])){T15}(t15:T15=(true=false->R T7 (SV.tup [SV.int .i64 (0:Int),SV.flt .f64 T6]))){T16}(t16:T16=((0:Int)<=2/\(2:Int) <
 2)){T17}(t17:T17=(j1 (q.3 rb (rc+3+1)))){T18}(t18:T18=(j1 (q.3 rb (rc+1+1)))){T19}(t19:T19=(q.1 rb/\rc+3+2<q.2 rb/\u5 .f64 T12)){T20}(t20:T20=(q.1 rb/\rc+1+2<q.2 rb/\u5 .f64 T13)):J7 X0 1 [(3, .iter 3)] [] (j3 Tryz.f135) (q9 Tryz.f135.ntmps [.pb 0 rb rc] [(0,rwO ts q)] 1) (r6 X0.G.E.T Tryz.f135.results.toList λS v=>R (Go.Sx.look S.H 0) v)=(
 (true=true->((0:Int)<=0/\(0:Int)<2)/\(q.1 rb/\rc+3+0<q.2 rb/\u5 .f64 (q.3 rb (rc+3+0)))/\((0:Int)<=0/\(0:Int)<2)/\(q.1 rb/\rc+1+0<q.2 rb/\u5 .f64 (q.3 rb (rc+1+0)))/\fok BinOp.sub .f64 (j1 (q.3
 rb (rc+3+0))) (j1 (q.3 rb (rc+1+0)))/\true=true/\(true=true->(true=true->T11/\T9/\T11/\T10/\fok BinOp.sub .f64 T17 T18/\true=true/\(false=true->T5/\T3)/\(false=false->(fGt .f64 T8 T6=true->(false=true->((0 :
 Int)<=2/\(2:Int)<(2:Int))/\T19/\T16/\T20/\fok BinOp.sub .f64 (j1 T12) (j1 T13)/\true=true/\(false=true->False)/\T1)/\T3)/\T2))/\T15)/\(true=false->(fGt .f64 T6 0=true->(true=true->T11/\T9/\T11/\T10/\fok
 BinOp.sub .f64 T17 T18/\true=true/\(false=true->T4/\T3)/\(false=false->(fGt .f64 T8 T6=true->T5/\T3)/\T2))/\T15)/\(fGt .f64 T6 0=false->(true=true->T11/\T9/\((0:Int)<=1/\(1:Int)<(2:Int))/\T10/\fok BinOp.sub .f64
 T17 T18/\true=true/\(false=true->T4/\T3)/\(false=false->(fGt .f64 T8 0=true->T4/\T3)/\(fGt .f64 T8 0=false->(false=true->T16/\T19/\T16/\T20/\fok BinOp.sub .f64 (j1 T12) (j1 T13)/\true=true/\(false=true->False)/\
 (false=false->(fGt .f64 (fop BinOp.sub .f64 (j1 T12) (j1 T13)) 0=true->False)/\(fGt .f64 (fop BinOp.sub .f64 (j1 T12) (j1 T13)) 0=false->False)))/\(false=false->R T7 T14))))/\(true=false->R T7 T14))))/\(true=false->R T7
 T14)):=by subst t1 t2 t3 t4 t5 t6 t7 t8 t9 t10 t11 t12 t13 t14 t15 t16 t17 t18 t19 t20;kernel_rfl
theorem c1F:u6 Tryz.prog 135 (l9 (Nat×Nat) ⟨default⟩ a8v):=by
 refine A7 x0 Tryz.func135 rfl (by kernel_rfl) λargs=>?_
 unfold a8v;split
 ·rename_i n rb rc;intro o0;try dsimp only
  split
  ·rename_i ts q hm0;intro ho;replace ho:(okR q rb rc):=ho;refine⟨?_,Nat.succ_pos _,ts,λ(i:Nat×Nat)=>q,λ(i:Nat×Nat)=>.tup [.int .i64 (i.1:Nat), .flt .f64 i.2],λ_=>rfl,?_,_,_,(b8u (G6 1 ts (λ(i:Nat×Nat)=>i.1<2) (λ(i:Nat×Nat)=>q) (λ(i:Nat×Nat)=>.tup [.int .i64 (i.1:Nat), .flt .f64 i.2])) ts q rb rc rfl rfl rfl rfl rfl rfl rfl rfl rfl rfl rfl rfl rfl rfl rfl rfl rfl rfl rfl rfl).mpr ?_⟩
   ·refine g9 rfl ⟨λ_=>rfl,?_,⟨trivial,z9 hm0,trivial⟩⟩;simp[j9,o8,o9,p7,nth,a8]
   ·intro i _;rfl
   ·obtain⟨d1,s1,b1⟩:=ho;have f0:=(b1.lo (k:=0) (by omega)).flt;have f1:=(b1.lo (k:=1) (by omega)).flt;have f2:=(b1.hi (k:=0) (by omega)).flt;have f3:=(b1.hi (k:=1) (by omega)).flt;have g0:=((b1.hi (k:=0) (by omega)).sub (b1.lo (k:=0) (by omega))).1;have g1:=((b1.hi (k:=1) (by omega)).sub (b1.lo (k:=1) (by omega))).1
    have hR:∀(a:Int)(x:Nat),0<=a->a<2->G6 1 ts (λi:Nat×Nat=>i.1<2) (λ_=>q) (λi=>.tup [.int .i64 (i.1:Nat), .flt .f64 i.2]) (some ⟨true,0, .raw ts q.D q.S q.F,0⟩) (.tup [.int .i64 a, .flt .f64 x]):=λa x h1 h2=>⟨(a.toNat,x),by show a.toNat<2;omega,rfl,⟨by show a=((a.toNat:Nat):Int);omega,rfl,trivial⟩⟩
    generalize G6 1 ts (λi:Nat×Nat=>i.1<2) (λ_=>q) (λi=>.tup [.int .i64 (i.1:Nat), .flt .f64 i.2])=R at hR ⊢;have h0:=λx=>hR 0 x (by decide) (by decide)
    have h1:=λx=>hR 1 x (by decide) (by decide)
    clear hR;simp only[f0,f1,f2,f3,g0,g1,d1,true_and,and_true];grind
  ·trivial
 ·trivial
noncomputable def w7(q:RM)(b:Nat):List En:=(List.range (m8 (q.F b 0)).toNat).map λj=>⟨q.F b (1+5*j),bxOf q.F b (1+5*j)⟩
theorem C5.of{q:RM}{b:Nat}{l:List En}(h:C5 q b l):w7 q b=l:=by
 have hn:(m8 (q.F b 0)).toNat=l.length:=by rw[h.n];rfl
 refine List.ext_getElem? λj=>?_
 simp only[w7,hn,List.getElem?_map];by_cases hj:j<l.length
 ·rw[List.getElem?_range hj,List.getElem?_eq_getElem hj];simp only[Option.map_some,Option.some.injEq];have h1:=h.v j _ (List.getElem?_eq_getElem hj);have h2:=h.B j _ (List.getElem?_eq_getElem hj);rw[h1,h2.bxOf]
 ·rw[List.getElem?_eq_none (by simpa using Nat.le_of_not_lt hj),List.getElem?_eq_none (by omega)];rfl
def kb(v:Value):Nat:=ptB (I0 v)
def isRef(v:Value):Prop:=v=.iface 207 (.pointer (some ⟨kb v,0,none⟩))
theorem isRef.facts{v:Value}(h:isRef v):a1X 207 v/\a0J (I0 v)/\ptB (I0 v)=kb v/\ptC (I0 v)=0:=by
 unfold isRef at h;refine⟨?_,?_,rfl,?_⟩
 ·unfold a1X;rw[h];rfl
 ·rw[h];rfl
 ·rw[h];rfl
def rcP(q:RM)(rb rc nb i:Nat)(q':RM):Prop:=J3 q q' (rW rb rc)/\∃ B,isBox q'.F rb rc B/\F3 B (((w7 q nb).take i).map (·.B))
noncomputable def c9E(ts:List Nat)(rb rc nb i:Nat)(q:RM):St:=⟨42,[(0, .pb 0 rb rc),(2, .pb 0 nb 0),(3, .int .i64 i)],[(0,rwO ts q)],1⟩
noncomputable def rcL(ts:List Nat)(q:RM)(rb rc:Nat):O9 :=
 ⟨⟨Nat×RM,λp=>c9E ts rb rc (kb (q.F rb rc)) p.1 p.2,λp=>(1<=p.1/\p.1<=(w7 q (kb (q.F rb rc))).length)/\rcP q rb rc (kb (q.F rb rc)) p.1 p.2,λp=>(w7 q (kb (q.F rb rc))).length-p.1⟩,λ_=>[]⟩
def hangs(q:RM)(rb rc:Nat):Prop:=q.D rb/\rc+5<=q.S rb/\isRef (q.F rb rc)/\kb (q.F rb rc)≠rb/\C5 q (kb (q.F rb rc)) (w7 q (kb (q.F rb rc)))
noncomputable def X1:D7:=⟨G0,[(128,l9 RM ⟨default⟩ a6j),(133,l9 Unit ⟨()⟩ a9e),(135,l9 (Nat×Nat) ⟨default⟩ a8v)],[],[],[]⟩
theorem x1:y9 Tryz.prog X1:=⟨g0,q8.cons b8Z (q8.cons c2u (q8.cons c1F q8.nil))⟩
noncomputable def a8R:List SV->RRd (RM)
 | [.pb n rb rc]=>.read n λo0=>(match G2 o0 with
  | some (ts,q)=>.ret ⟨[.pb 0 rb rc],[(0,rwO ts q)],some ((hangs q rb rc/\w7 q (kb (q.F rb rc))≠[])),λi=>rcP q rb rc (kb (q.F rb rc)) (w7 q (kb (q.F rb rc))).length i,λi=>⟨[],[], .tup [],[(0,rwO ts (i))],[],none⟩⟩
  | none=>.fail)
 | _=>.fail
theorem b9l(R:Option Ob->SV->Prop)(ts:List Nat)(q:RM)(rb rc:Nat){T1}(t1:T1=(I0 (q.3 rb (rc+0)))){T2}(t2:T2=(j0 q.3 rb (rc+1) (q.3 (ptB T1) (ptC T1+1+0+1)))){T3}(t3:T3=(kb (q.3 rb rc))){T4}(t4:T4=(q.3 (ptB T1) (ptC T1+1+0+1+1))){T5}(t5:T5=(j0 T2 rb (rc+1+1) T4 (ptB T1) (ptC T1+1+0 +
 3+1))){T6}(t6:T6=λ(pq:Nat×RM)=>((1<=pq.1/\pq.1<=List.length (w7 q T3))/\rcP q rb rc T3 (pq.1) (pq.2))){T7}(t7:T7=(j0 T2 rb (rc+1+1) T4 (ptB T1) (ptC T1+1+0+3))){T8}(t8:T8=λ(i:Nat×RM)=>(↑(i.1):Int)){T9}(t9:T9=fun
 (i:Nat×RM)=>(RM.mk (RM.D (i.2)) (i.2).2 (i.2).3)):J7 X1 1 [(4,rcL ts q rb rc)] [] (j3 Tryz.f130) (q9 Tryz.f130.ntmps [.pb 0 rb rc] [(0,rwO ts q)] 1) (r6 X1.G.E.T Tryz.f130.results.toList λS v=>R (Go.Sx.look S.H 0) v)=(
 (q.1 rb/\rc+0<q.2 rb)/\(a1X 207 (q.3 rb (rc+0))/\a0J T1)/\((0:Int)<=0/\(0:Int)<17)/\(q.1 (ptB T1)/\ptC T1+1+0+1+2<=q.2 (ptB T1))/\(((q.1 rb/\rc+1+2<=q.2 rb)/\Value.oneCell' (q.3 (ptB T1) (ptC T1+1+0+1)) =
 true)/\Value.oneCell' T4=true)/\((0:Int)<=0/\(0:Int)<17)/\(q.1 (ptB T1)/\ptC T1+1+0+3+2<=q.2 (ptB T1))/\(((q.1 rb/\rc+3+2<=q.2 rb)/\Value.oneCell' T7=true)/\Value.oneCell' T5=true)/\(∃(pq:Nat×RM),(T6 pq)/\
 ((True/\rb=rb/\rc=rc)/\(True/\ptB T1=kb (q.3 rb rc)/\ptC T1=0)/\1=(↑(pq.1):Int)/\True)/\True/\(0=0/\0=0/\ts=ts/\j0 (j0 (j0 T2 rb (rc+1+1) T4) rb (rc+3) T7) rb (rc+3+1) T5=(pq.2).3/\q.2=(pq.2).2/\
 RM.D q=RM.D (pq.2))/\True)/\∀(i:Nat×RM),(1<=i.1/\i.1<=List.length (w7 q T3))/\rcP q rb rc T3 (i.1) (i.2)->((i.2).1 T3/\0<(i.2).2 T3/\A1 .i64 ((i.2).3 T3 0))/\(decide ((T8 i)<m8 ((i.2).3 T3 0))=true->((0:Int)<=(T8 i)
 /\(T8 i)<17)/\∀(i_1:RM),(0=0/\okR (T9 i) rb rc/\okR (T9 i) T3 (1+Int.toNat (T8 i)*5)/\apart rb rc T3 (1+Int.toNat (T8 i)*5))/\(exI (T9 i) rb rc T3 (1+Int.toNat (T8 i)*5) 2 2 i_1->∃(pq:Nat×RM),(T6 pq)/\List.length
 (w7 q T3)-pq.1<List.length (w7 q T3)-i.1/\((True/\rb=rb/\rc=rc)/\(True/\kb (q.3 rb rc)=kb (q.3 rb rc)/\0=0)/\IntKind.wrap .i64 ((T8 i)+1)=(↑(pq.1):Int)/\True)/\True/\(0=0/\0=0/\ts=ts/\i_1.3=(pq.2).3/\
 i_1.2=(pq.2).2/\RM.D i_1=RM.D (pq.2))/\True))/\(decide ((T8 i)<m8 ((i.2).3 T3 0))=false->R (Option.some (Ob.mk true 0 (a9.raw ts (RM.D (i.2)) (i.2).2 (i.2).3) 0)) (SV.tup []))):=by subst t1 t2 t3 t4 t5 t6 t7 t8 t9;kernel_rfl
theorem c3m:u6 Tryz.prog 130 (l9 (RM) ⟨default⟩ a8R):=by
 refine A7 x1 Tryz.func130 rfl (by kernel_rfl) λargs=>?_
 unfold a8R;split
 ·rename_i n rb rc;intro o0;try dsimp only
  split
  ·rename_i ts q hm0;intro ho;replace ho:(hangs q rb rc/\w7 q (kb (q.F rb rc))≠[]):=ho;refine⟨?_,Nat.succ_pos _,ts,λ(i:RM)=>i,λ(i:RM)=>.tup [],λ_=>rfl,?_,_,_,(b9l (G6 1 ts (λ(i:RM)=>rcP q rb rc (kb (q.F rb rc)) (w7 q (kb (q.F rb rc))).length i) (λ(i:RM)=>i) (λ(i:RM)=>.tup [])) ts q rb rc rfl rfl rfl rfl rfl rfl rfl rfl rfl).mpr ?_⟩
   ·refine g9 rfl ⟨λ_=>rfl,?_,⟨trivial,z9 hm0,trivial⟩⟩;simp[j9,o8,o9,p7,nth,a8]
   ·intro i _;rfl
   ·obtain⟨⟨d,s,hr,hne,hnd⟩,hnil⟩:=ho;obtain⟨f1,f2,f3,f4⟩:=hr.facts;have hoff:∀(F:Nat->Nat->Value)(c:Nat)(v:Value)(c':Nat),j0 F rb c v (kb (q.F rb rc)) c'=F (kb (q.F rb rc)) c':=λ_ _ _ _=>b8 (.inl hne)
    simp only[true_and,and_true,eq_self,Int.toNat_natCast,decide_eq_true_eq,decide_eq_false_iff_not,Int.reduceLT,Int.le_refl];simp only[Nat.add_zero,f3,f4,Nat.zero_add,Nat.reduceAdd,hoff,rcP];generalize kb (q.F rb rc)=nb at *;generalize w7 q nb=l at *;have hle:=hnd.le;obtain⟨e0,r,hl⟩:∃ e0 r,l=e0 :: r:=by cases l with|nil=>exact absurd rfl hnil|cons a r=>exact⟨a,r,rfl⟩
    have h0:l[0]? = some e0:=by rw[hl];rfl
    have hS:=hnd.S;have hb0:=hnd.B 0 e0 h0;simp only[Nat.mul_zero,Nat.add_zero]at hb0;have c1:=hb0.1.flt;have c2:=hb0.2.1.flt;have c3:=hb0.2.2.1.flt;have c4:=hb0.2.2.2.flt;have one:∀ v,u5 .f64 v->v.oneCell'=true:=λv h=>by rw[h];rfl
    refine⟨⟨d,by omega⟩,⟨f1,f2⟩,⟨hnd.D,by omega⟩,⟨⟨⟨d,by omega⟩,one _ c1⟩,one _ c2⟩,⟨hnd.D,by omega⟩,⟨⟨⟨d,by omega⟩,one _ c3⟩,one _ c4⟩,⟨(1,⟨q.D,q.S,j0 (j0 (j0 (j0 q.F rb (rc+1) (q.F nb 2)) rb (rc+1+1) (q.F nb 3)) rb (rc+3) (q.F nb 4)) rb (rc+3+1) (q.F nb 5)⟩),⟨⟨Nat.le_refl _,by rw[hl];simp⟩,⟨rfl,rfl,?_⟩,e0.B,?_,?_⟩,(by and_intros <;> first|trivial|rfl|(rw[j5 (by omega) (by omega)];first|rfl|omega))⟩,?_⟩
    ·intro b c hw;unfold rW at hw;show j0 _ _ _ _ _ _=_;rw[b8 (by omega),b8 (by omega),b8 (by omega),b8 (by omega)]
    ·refine⟨?_,?_,?_,?_⟩
     ·simpa [j0]using hb0.1
     ·simpa [j0]using hb0.2.1
     ·simpa [j0]using hb0.2.2.1
     ·simpa [j0]using hb0.2.2.2
    ·rw[hl];exact a7W _
    ·rintro⟨i,q'⟩ ⟨⟨hi1,hi2⟩,hs,B,hB,ht⟩;replace hi1:1<=i:=hi1;replace hi2:i<=l.length:=hi2;have hnd':C5 q' nb l:=hnd.same (by rw[hs.1];exact hnd.D) (by rw[hs.2.1]) (λc=>hs.2.2 nb c (by unfold rW;omega));have hS':=hnd'.S;have hn:m8 (q'.F nb 0)=(l.length:Nat):=by rw[hnd'.n];rfl
     simp only[hn];refine⟨⟨hnd'.D,by omega,by rw[hnd'.n];rfl⟩,λhlt=>⟨⟨by omega,by omega⟩,λq2=>⟨⟨okR.mk' (by rw[hs.1];exact d) (by rw[hs.2.1];exact s) hB,?_, .inl (Ne.symm hne)⟩,λhe=>?_⟩⟩,λhge=>?_⟩
     ·have:=hnd'.okR (List.getElem?_eq_getElem (by omega:i<l.length));rw[Nat.mul_comm]at this;exact this
     ·have hj:i<l.length:=by omega
      have hB2:=hnd'.B i _ (List.getElem?_eq_getElem hj);rw[Nat.mul_comm]at hB2;obtain⟨hs2,hb2⟩:=he;refine⟨(i+1,q2),⟨⟨by show 1<=i+1;omega,by show i+1<=l.length;omega⟩,hs.trans hs2 (λ_ _ h=>h) (λ_ _ h=>h),z8 B l[i].B,?_,?_⟩,by show l.length-(i+1)<l.length-i;omega,(by and_intros <;> first|trivial|rfl|(rw[j5 (by omega) (by omega)];first|rfl|omega))⟩
      ·rw[a3Q]at hb2;have e1:bxOf (RM.mk q'.D q'.S q'.F).F rb rc=B:=hB.bxOf;have e2:bxOf (RM.mk q'.D q'.S q'.F).F nb (1+i*5)=l[i].B:=hB2.bxOf;rw[e1,e2]at hb2;exact hb2
      ·have ht2:((l.take (i+1)).map (·.B))=(l.take i).map (·.B)++[l[i].B]:=by
        simp only[List.take_add_one,List.getElem?_eq_getElem hj,Option.toList,List.map_append,List.map_cons,List.map_nil]
       show F3 (z8 B l[i].B) ((l.take (i+1)).map (·.B));rw[ht2];refine a7D (λe=>?_) ht
       have h3:((l.take i).map (·.B)).length=0:=by
        have e:(l.take i).map (·.B)=[]:=e;rw[e];rfl
       rw[List.length_map,List.length_take]at h3;omega
     ·replace hge:¬(i:Int)<(l.length:Nat):=hge;have e:i=l.length:=by omega
      subst e;exact⟨q',⟨hs,B,hB,ht⟩,rfl,trivial⟩
  ·trivial
 ·trivial
def fb(x k:Nat):Prop:=∃ n:Int,FI x n/\n.natAbs<=8388608 ^ k
theorem c4O:fb 4607182418800017408 0:=⟨1,a6w,by decide⟩
theorem a3U{v w:Value}{n m:Int}(h1:fz v n)(h2:fz w m):fok .sub .f64 (j1 v) (j1 w)/\fb (fop .sub .f64 (j1 v) (j1 w)) 1 :=
 ⟨(h1.sub h2).1,_,(h1.sub h2).2.1,by simpa using (h1.sub h2).2.2⟩
theorem a0o{x y k:Nat}(h1:fb x k)(h2:fb y 1)(hk:k<=1):fok .mul .f64 x y/\fb (fop .mul .f64 x y) (k+1):=by
 obtain⟨n,a1,a2⟩:=h1;obtain⟨m,b1,b2⟩:=h2;have h:=Q7 a2 b2;rw[<-Nat.pow_add]at h;have h3:8388608 ^ (k+1)<=8388608 ^ 2:=Nat.pow_le_pow_right (by decide) (by omega);obtain⟨c1,c2⟩:=a3H a1 b1 (by omega);exact⟨c1,_,c2,h⟩
theorem c1B{x y:Nat}(h1:fb x 2)(h2:fb y 2):fok .sub .f64 x y:=by
 obtain⟨n,a1,a2⟩:=h1;obtain⟨m,b1,b2⟩:=h2;exact(a4z a1 b1 (by omega)).1
noncomputable def d0p(ts:List Nat)(rb rc bb bc nb:Nat)(p:Nat×Int×Nat×Nat)(q:RM):St :=
 ⟨217,[(0, .pb 0 rb rc),(1, .pb 0 bb bc),(5, .int .i64 p.2.1),(6, .flt .f64 p.2.2.1),(7, .flt .f64 p.2.2.2),(8, .pb 0 nb 0),(9, .int .i64 p.1)],[(0,rwO ts q)],1⟩
noncomputable def c9M(ts:List Nat)(rb rc bb bc nb:Nat)(p:Nat×Int×Nat×Nat)(q:RM)(k:Nat×Nat×Nat):St :=
 ⟨217,[(0, .pb 0 rb rc),(1, .pb 0 bb bc),(5, .int .i64 p.2.1),(6, .flt .f64 p.2.2.1),(7, .flt .f64 p.2.2.2),(8, .pb 0 nb 0),(9, .int .i64 p.1),(10, .flt .f64 k.2.2),(13, .flt .f64 k.2.1),(14, .int .i64 k.1)],[(0,rwO ts q)],1⟩
noncomputable def chL(ts:List Nat)(q:RM)(rb rc bb bc:Nat):O9 :=
 ⟨⟨Nat×Int×Nat×Nat,λp=>d0p ts rb rc bb bc (kb (q.F rb rc)) p q,λp=>p.1<=(w7 q (kb (q.F rb rc))).length/\(p.1=0/\p.2.1 = -1∨0<=p.2.1/\p.2.1<p.1),λp=>(w7 q (kb (q.F rb rc))).length-p.1⟩,
  λp=>[(14,⟨Nat×Nat×Nat,λk=>c9M ts rb rc bb bc (kb (q.F rb rc)) p q k,λk=>k.1<=2/\fb k.2.1 k.1/\fb k.2.2 2,λk=>2-k.1⟩)]⟩
noncomputable def a6g:List SV->RRd (Nat)
 | [.pb n rb rc, .pb n1 bb bc]=>.read n λo0=>(match G2 o0 with
  | some (ts,q)=>.ret ⟨[.pb 0 rb rc, .pb 0 bb bc],[(0,rwO ts q)],some (n=n1/\(hangs q rb rc/\okR q bb bc/\1<=(w7 q (kb (q.F rb rc))).length)),λi=>i<(w7 q (kb (q.F rb rc))).length,λi=>⟨[],[], .int .i64 (i:Nat),[(0,rwO ts (q))],[],none⟩⟩
  | none=>.fail)
 | _=>.fail
theorem b2R(R:Option Ob->SV->Prop)(ts:List Nat)(q:RM)(rb rc bb bc:Nat){T1}(t1:T1=λ(i:Nat×Int×Nat×Nat) (i_1:Nat×Nat×Nat)=>(fGt .f64 (j1 (q.3 bb (bc+3+Int.toNat (↑(i_1.1):Int)*1))) (j1 (q.3 (kb (q.3 rb rc)) (1+Int.toNat (↑(i.1):Int)*5+3+Int.toNat (↑(i_1.1):Int)*1)))=false->(0<=
 (↑(i_1.1):Int)/\(↑(i_1.1):Int)<2)/\(q.1 bb/\bc+1+Int.toNat (↑(i_1.1):Int)*1<q.2 bb/\u5 .f64 (q.3 bb (bc+1+Int.toNat (↑(i_1.1):Int)*1)))/\(0<=(↑(i.1):Int)/\(↑(i.1):Int)<17)/\(0<=(↑(i_1.1):Int)/\(↑(i_1.1) :
 Int)<2)/\(q.1 (kb (q.3 rb rc))/\1+Int.toNat (↑(i.1):Int)*5+1+Int.toNat (↑(i_1.1):Int)*1<q.2 (kb (q.3 rb rc))/\u5 .f64 (q.3 (kb (q.3 rb rc)) (1+Int.toNat (↑(i.1):Int)*5+1+Int.toNat (↑(i_1.1):Int)*1)))/\true =
 true/\(fLt .f64 (j1 (q.3 bb (bc+1+Int.toNat (↑(i_1.1):Int)*1))) (j1 (q.3 (kb (q.3 rb rc)) (1+Int.toNat (↑(i.1):Int)*5+1+Int.toNat (↑(i_1.1):Int)*1)))=true->((0:Int)<=(↑(i.1):Int)/\(↑(i.1):Int)<17)/\(0<=
 (↑(i_1.1):Int)/\(↑(i_1.1):Int)<2)/\(q.1 (kb (q.3 rb rc))/\1+Int.toNat (↑(i.1):Int)*5+3+Int.toNat (↑(i_1.1):Int)*1<q.2 (kb (q.3 rb rc))/\u5 .f64 (q.3 (kb (q.3 rb rc)) (1+Int.toNat (↑(i.1):Int)*5+3+Int.toNat
 (↑(i_1.1):Int)*1)))/\(0<=(↑(i_1.1):Int)/\(↑(i_1.1):Int)<2)/\(q.1 bb/\bc+1+Int.toNat (↑(i_1.1):Int)*1<q.2 bb/\u5 .f64 (q.3 bb (bc+1+Int.toNat (↑(Prod.fst i_1):Int)*1)))/\fok BinOp.sub .f64 (j1 (q.3 (kb (q.3 rb
 rc)) (1+Int.toNat (↑(i.1):Int)*5+3+Int.toNat (↑(i_1.1):Int)*1))) (j1 (q.3 bb (bc+1+Int.toNat (↑(i_1.1):Int)*1)))/\fok BinOp.mul .f64 ((i_1.2).1) (fop BinOp.sub .f64 (j1 (q.3 (kb (q.3 rb rc)) (1+Int.toNat (↑(i.1):Int) *
 5+3+Int.toNat (↑(i_1.1):Int)*1))) (j1 (q.3 bb (bc+1+Int.toNat (↑(i_1.1):Int)*1))))/\true=true/\∃ (pq:Nat×Nat×Nat),(pq.1<=2/\fb (Prod.fst (pq.2)) (pq.1)/\fb ((pq.2).2) 2)/\2-pq.1<2-i_1.1/\((True/\rb=rb/\rc
 = rc)/\(True/\bb=bb/\bc=bc)/\(i.2).1=(i.2).1/\((i.2).2).1=((i.2).2).1/\((i.2).2).2=((i.2).2).2/\(True/\kb (q.3 rb rc)=kb (q.3 rb rc)/\0=0)/\(↑(i.1):Int)=(↑(i.1):Int)/\(i_1.2).2=(pq.2).2/\fop BinOp.mul .f64
 ((i_1.2).1) (fop BinOp.sub .f64 (j1 (q.3 (kb (q.3 rb rc)) (1+Int.toNat (↑(i.1):Int)*5+3+Int.toNat (↑(i_1.1):Int)*1))) (j1 (q.3 bb (bc+1+Int.toNat (↑(i_1.1):Int)*1))))=(pq.2).1/\IntKind.wrap .i64 ((↑(i_1.1):Int)+1) =
 (↑(pq.1):Int)/\True)/\True/\(0=0/\0=0/\ts=ts/\q.3=q.3/\q.2=q.2/\RM.D q=RM.D q)/\True)/\(fLt .f64 (j1 (q.3 bb (bc+1+Int.toNat (↑(i_1.1):Int)*1))) (j1 (q.3 (kb (q.3 rb rc)) (1+Int.toNat (↑(i.1):Int)*5+1 +
 Int.toNat (↑(i_1.1):Int)*1)))=false->(0<=(↑(i.1):Int)/\(↑(i.1):Int)<17)/\(0<=(↑(i_1.1):Int)/\(↑(i_1.1):Int)<2)/\(q.1 (kb (q.3 rb rc))/\1+Int.toNat (↑(i.1):Int)*5+3+Int.toNat (↑(i_1.1):Int)*1<q.2 (kb (q.3 rb
 rc))/\u5 .f64 (q.3 (kb (q.3 rb rc)) (1+Int.toNat (↑(i.1):Int)*5+3+Int.toNat (↑(i_1.1):Int)*1)))/\(0<=(↑(i.1):Int)/\(↑(i.1):Int)<17)/\(0<=(↑(i_1.1):Int)/\(↑(i_1.1):Int)<2)/\(q.1 (kb (q.3 rb rc))/\1+Int.toNat
 (↑(i.1):Int)*5+1+Int.toNat (↑(i_1.1):Int)*1<q.2 (kb (q.3 rb rc))/\u5 .f64 (q.3 (kb (q.3 rb rc)) (1+Int.toNat (↑(i.1):Int)*5+1+Int.toNat (↑(i_1.1):Int)*1)))/\fok BinOp.sub .f64 (j1 (q.3 (kb (q.3 rb rc)) (1 +
 Int.toNat (↑(i.1):Int)*5+3+Int.toNat (↑(i_1.1):Int)*1))) (j1 (q.3 (kb (q.3 rb rc)) (1+Int.toNat (↑(i.1):Int)*5+1+Int.toNat (↑(i_1.1):Int)*1)))/\fok BinOp.mul .f64 ((i_1.2).1) (fop BinOp.sub .f64 (j1 (q.3 (kb (q.3 rb
 rc)) (1+Int.toNat (↑(i.1):Int)*5+3+Int.toNat (↑(i_1.1):Int)*1))) (j1 (q.3 (kb (q.3 rb rc)) (1+Int.toNat (↑(i.1):Int)*5+1+Int.toNat (↑(i_1.1):Int)*1))))/\true=true/\∃ (pq:Nat×Nat×Nat),(pq.1<=2/\fb ((pq.2).1)
 (pq.1)/\fb (Prod.snd (pq.2)) 2)/\2-pq.1<2-i_1.1/\((True/\rb=rb/\rc=rc)/\(True/\bb=bb/\bc=bc)/\(i.2).1=(i.2).1/\((i.2).2).1=(Prod.snd (i.2)).1/\((i.2).2).2=((i.2).2).2/\(True/\kb (q.3 rb rc)=kb (q.3 rb rc)/\0=0)
 /\(↑(i.1):Int)=(↑(i.1):Int)/\Prod.snd (i_1.2)=(pq.2).2/\fop BinOp.mul .f64 ((i_1.2).1) (fop BinOp.sub .f64 (j1 (q.3 (kb (q.3 rb rc)) (1+Int.toNat (↑(i.1):Int)*5+3+Int.toNat (↑(i_1.1):Int)*1))) (j1 (q.3 (kb (q.3 rb rc)) (1
 + Int.toNat (↑(i.1):Int)*5+1+Int.toNat (↑(i_1.1):Int)*1))))=(pq.2).1/\IntKind.wrap .i64 ((↑(i_1.1):Int)+1)=(↑(pq.1):Int)/\True)/\True/\(0=0/\0=0/\ts=ts/\q.3=q.3/\q.2=q.2/\RM.D q=RM.D q)/\
 True))){T2}(t2:T2=λ(i:Nat×Int×Nat×Nat) (i_1:Nat×Nat×Nat)=>(fGt .f64 (j1 (q.3 bb (bc+3+Int.toNat (↑(i_1.1):Int)*1))) (j1 (q.3 (kb (q.3 rb rc)) (1+Int.toNat (↑(i.1):Int)*5+3+Int.toNat (↑(i_1.1):Int)*1)))=true->
 (0<=(↑(i_1.1):Int)/\(↑(i_1.1):Int)<2)/\(q.1 bb/\bc+1+Int.toNat (↑(i_1.1):Int)*1<q.2 bb/\u5 .f64 (q.3 bb (bc+1+Int.toNat (↑(i_1.1):Int)*1)))/\(0<=(↑(i.1):Int)/\(↑(i.1):Int)<17)/\(0<=(↑(i_1.1):Int)/\
 (↑(i_1.1):Int)<2)/\(q.1 (kb (q.3 rb rc))/\1+Int.toNat (↑(i.1):Int)*5+1+Int.toNat (↑(i_1.1):Int)*1<q.2 (kb (q.3 rb rc))/\u5 .f64 (q.3 (kb (q.3 rb rc)) (1+Int.toNat (↑(i.1):Int)*5+1+Int.toNat (↑(i_1.1):Int)*1)))
 /\true=true/\(fLt .f64 (j1 (q.3 bb (bc+1+Int.toNat (↑(i_1.1):Int)*1))) (j1 (q.3 (kb (q.3 rb rc)) (1+Int.toNat (↑(i.1):Int)*5+1+Int.toNat (↑(i_1.1):Int)*1)))=true->(0<=(↑(i_1.1):Int)/\(↑(i_1.1):Int)<(2:Int))
 /\(q.1 bb/\bc+3+Int.toNat (↑(i_1.1):Int)*1<q.2 bb/\u5 .f64 (q.3 bb (bc+3+Int.toNat (↑(i_1.1):Int)*1)))/\(0<=(↑(i_1.1):Int)/\(↑(i_1.1):Int)<(2:Int))/\(q.1 bb/\bc+1+Int.toNat (↑(i_1.1):Int)*1<q.2 bb/\
 u5 .f64 (q.3 bb (bc+1+Int.toNat (↑(i_1.1):Int)*1)))/\fok BinOp.sub .f64 (j1 (q.3 bb (bc+3+Int.toNat (↑(i_1.1):Int)*1))) (j1 (q.3 bb (bc+1+Int.toNat (↑(i_1.1):Int)*1)))/\fok BinOp.mul .f64 ((i_1.2).1) (fop BinOp.sub
 .f64 (j1 (q.3 bb (bc+3+Int.toNat (↑(i_1.1):Int)*1))) (j1 (q.3 bb (bc+1+Int.toNat (↑(i_1.1):Int)*1))))/\true=true/\∃ (pq:Nat×Nat×Nat),(pq.1<=2/\fb (Prod.fst (pq.2)) (pq.1)/\fb ((pq.2).2) 2)/\2-pq.1<2-i_1.1/\
 ((True/\rb=rb/\rc=rc)/\(True/\bb=bb/\bc=bc)/\(i.2).1=(i.2).1/\((i.2).2).1=((i.2).2).1/\((i.2).2).2=((i.2).2).2/\(True/\kb (q.3 rb rc)=kb (q.3 rb rc)/\0=0)/\(↑(i.1):Int)=(↑(i.1):Int)/\(i_1.2).2=(pq.2).2/\fop
 BinOp.mul .f64 ((i_1.2).1) (fop BinOp.sub .f64 (j1 (q.3 bb (bc+3+Int.toNat (↑(i_1.1):Int)*1))) (j1 (q.3 bb (bc+1+Int.toNat (↑(i_1.1):Int)*1))))=(pq.2).1/\IntKind.wrap .i64 ((↑(i_1.1):Int)+1)=(↑(pq.1):Int)/\True)/\
 True/\(0=0/\0=0/\ts=ts/\q.3=q.3/\q.2=q.2/\RM.D q=RM.D q)/\True)/\(fLt .f64 (j1 (q.3 bb (bc+1+Int.toNat (↑(i_1.1):Int)*1))) (j1 (q.3 (kb (q.3 rb rc)) (1+Int.toNat (↑(i.1):Int)*5+1+Int.toNat (↑(i_1.1):Int) *
 1)))=false->(0<=(↑(i_1.1):Int)/\(↑(i_1.1):Int)<2)/\(q.1 bb/\bc+3+Int.toNat (↑(i_1.1):Int)*1<q.2 bb/\u5 .f64 (q.3 bb (bc+3+Int.toNat (↑(i_1.1):Int)*1)))/\(0<=(↑(i.1):Int)/\(↑(i.1):Int)<17)/\(0<=
 (↑(Prod.fst i_1):Int)/\(↑(i_1.1):Int)<2)/\(q.1 (kb (q.3 rb rc))/\1+Int.toNat (↑(i.1):Int)*5+1+Int.toNat (↑(i_1.1):Int)*1<q.2 (kb (q.3 rb rc))/\u5 .f64 (q.3 (kb (q.3 rb rc)) (1+Int.toNat (↑(i.1):Int)*5+1 +
 Int.toNat (↑(i_1.1):Int)*1)))/\fok BinOp.sub .f64 (j1 (q.3 bb (bc+3+Int.toNat (↑(i_1.1):Int)*1))) (j1 (q.3 (kb (q.3 rb rc)) (1+Int.toNat (↑(i.1):Int)*5+1+Int.toNat (↑(i_1.1):Int)*1)))/\fok BinOp.mul .f64 ((i_1.2).1)
 (fop BinOp.sub .f64 (j1 (q.3 bb (bc+3+Int.toNat (↑(i_1.1):Int)*1))) (j1 (q.3 (kb (q.3 rb rc)) (1+Int.toNat (↑(i.1):Int)*5+1+Int.toNat (↑(i_1.1):Int)*1))))/\true=true/\∃ (pq:Nat×Nat×Nat),(pq.1<=2/\fb ((pq.2).1)
 (pq.1)/\fb ((pq.2).2) 2)/\2-pq.1<2-i_1.1/\((True/\rb=rb/\rc=rc)/\(True/\bb=bb/\bc=bc)/\(i.2).1=(i.2).1/\((i.2).2).1=((i.2).2).1/\(Prod.snd (i.2)).2=((i.2).2).2/\(True/\kb (q.3 rb rc)=kb (q.3 rb rc)/\0=0)/\
 (↑(i.1):Int)=(↑(i.1):Int)/\(i_1.2).2=(pq.2).2/\fop BinOp.mul .f64 ((i_1.2).1) (fop BinOp.sub .f64 (j1 (q.3 bb (bc+3+Int.toNat (↑(i_1.1):Int)*1))) (j1 (q.3 (kb (q.3 rb rc)) (1+Int.toNat (↑(i.1):Int)*5+1+Int.toNat
 (↑(i_1.1):Int)*1))))=(pq.2).1/\IntKind.wrap .i64 ((↑(i_1.1):Int)+1)=(↑(pq.1):Int)/\True)/\True/\(0=0/\0=0/\ts=ts/\q.3=q.3/\q.2=q.2/\RM.D q=RM.D q)/\True))){T3}(t3:T3=λ(i:Nat×Int×Nat×Nat) (i_1:Nat×Nat×
 Nat)=>(decide ((↑(i_1.1):Int)<2)=false->fok BinOp.sub .f64 ((i_1.2).1) ((i_1.2).2)/\(((i.2).1==(-1:Int))=true->∃ (pq:Nat×Int×Nat×Nat),(pq.1<=List.length (w7 q (kb (q.3 rb rc)))/\(pq.1=0/\(pq.2).1=(-1:Int)∨(0 :
 Int)<=(pq.2).1/\(pq.2).1<(↑(pq.1):Int)))/\List.length (w7 q (kb (q.3 rb rc)))-pq.1<List.length (w7 q (kb (q.3 rb rc)))-i.1/\((True/\rb=rb/\rc=rc)/\(True/\bb=bb/\bc=bc)/\(↑(i.1):Int)=(pq.2).1/\fop BinOp.sub .f64
 ((i_1.2).1) ((i_1.2).2)=((pq.2).2).1/\(i_1.2).2=((pq.2).2).2/\(True/\kb (q.3 rb rc)=kb (q.3 rb rc)/\0=0)/\IntKind.wrap .i64 ((↑(i.1):Int)+1)=(↑(pq.1):Int)/\True)/\True/\(0=0/\0=0/\ts=ts/\q.3=q.3/\q.2=q.2/\RM.D
 q=RM.D q)/\True)/\(((i.2).1==(-1:Int))=false->(fLt .f64 (fop BinOp.sub .f64 ((i_1.2).1) ((i_1.2).2)) (((i.2).2).1)=true->∃ (pq:Nat×Int×Nat×Nat),(pq.1<=List.length (w7 q (kb (q.3 rb rc)))/\(pq.1=0/\(pq.2).1=(-1:Int)
 ∨(0:Int)<=(pq.2).1/\(pq.2).1<(↑(pq.1):Int)))/\List.length (w7 q (kb (q.3 rb rc)))-pq.1<List.length (w7 q (kb (q.3 rb rc)))-i.1/\((True/\rb=rb/\rc=rc)/\(True/\bb=bb/\bc=bc)/\(↑(i.1):Int)=(pq.2).1/\fop BinOp.sub
 .f64 ((i_1.2).1) ((i_1.2).2)=((pq.2).2).1/\(i_1.2).2=((pq.2).2).2/\(True/\kb (q.3 rb rc)=kb (q.3 rb rc)/\0=0)/\IntKind.wrap .i64 ((↑(i.1):Int)+1)=(↑(pq.1):Int)/\True)/\True/\(0=0/\0=0/\ts=ts/\q.3=q.3/\q.2=q.2/\
 RM.D q=RM.D q)/\True)/\(fLt .f64 (fop BinOp.sub .f64 ((i_1.2).1) ((i_1.2).2)) (((i.2).2).1)=false->(fEq .f64 (fop BinOp.sub .f64 ((i_1.2).1) ((i_1.2).2)) (((i.2).2).1)=true->(fLt .f64 ((i_1.2).2) (((i.2).2).2)=true->∃ (pq:Nat×Int×
 Nat×Nat),(pq.1<=List.length (w7 q (kb (q.3 rb rc)))/\(pq.1=0/\(pq.2).1=(-1:Int)∨(0:Int)<=(pq.2).1/\(pq.2).1<(↑(pq.1):Int)))/\List.length (w7 q (kb (q.3 rb rc)))-pq.1<List.length (w7 q (kb (q.3 rb rc)))-i.1/\((True
 /\rb=rb/\rc=rc)/\(True/\bb=bb/\bc=bc)/\(↑(i.1):Int)=(pq.2).1/\fop BinOp.sub .f64 ((i_1.2).1) ((i_1.2).2)=((pq.2).2).1/\(i_1.2).2=((pq.2).2).2/\(True/\kb (q.3 rb rc)=kb (q.3 rb rc)/\0=0)/\IntKind.wrap .i64 ((↑(i.1) :
 Int)+1)=(↑(pq.1):Int)/\True)/\True/\(0=0/\0=0/\ts=ts/\q.3=q.3/\q.2=q.2/\RM.D q=RM.D q)/\True)/\(fLt .f64 ((i_1.2).2) (((i.2).2).2)=false->∃ (pq:Nat×Int×Nat×Nat),(pq.1<=List.length (w7 q (kb (q.3 rb rc)))/\
 (pq.1=0/\Prod.fst (pq.2)=(-1:Int)∨(0:Int)<=(pq.2).1/\(pq.2).1<(↑(pq.1):Int)))/\List.length (w7 q (kb (q.3 rb rc)))-pq.1<List.length (w7 q (kb (q.3 rb rc)))-i.1/\((True/\rb=rb/\rc=rc)/\(True/\bb=bb/\bc=bc)/\
 (i.2).1=(pq.2).1/\((i.2).2).1=((pq.2).2).1/\(Prod.snd (i.2)).2=((pq.2).2).2/\(True/\kb (q.3 rb rc)=kb (q.3 rb rc)/\0=0)/\IntKind.wrap .i64 ((↑(i.1):Int)+1)=(↑(pq.1):Int)/\True)/\True/\(0=0/\0=0/\ts=ts/\q.3=q.3/\
 q.2=q.2/\RM.D q=RM.D q)/\True))/\(fEq .f64 (fop BinOp.sub .f64 ((i_1.2).1) ((i_1.2).2)) ((Prod.snd (i.2)).1)=false->∃ (pq:Nat×Int×Nat×Nat),(pq.1<=List.length (w7 q (kb (q.3 rb rc)))/\(pq.1=0/\(pq.2).1=(-1:Int)∨(0 :
 Int)<=(pq.2).1/\(pq.2).1<(↑(pq.1):Int)))/\List.length (w7 q (kb (q.3 rb rc)))-pq.1<List.length (w7 q (kb (q.3 rb rc)))-i.1/\((True/\rb=rb/\rc=rc)/\(True/\bb=bb/\bc=bc)/\(i.2).1=(pq.2).1/\((i.2).2).1=((pq.2).2).1
 /\((i.2).2).2=((pq.2).2).2/\(True/\kb (q.3 rb rc)=kb (q.3 rb rc)/\0=0)/\IntKind.wrap .i64 ((↑(i.1):Int)+1)=(↑(pq.1):Int)/\True)/\True/\(0=0/\0=0/\ts=ts/\q.3=q.3/\q.2=q.2/\RM.D q=RM.D q)/\True))))){T4}(t4:T4=(kb
 (q.3 rb rc))){T5}(t5:T5=λ(i:Nat×Int×Nat×Nat)=>(↑(i.1):Int)){T6}(t6:T6=(0=0/\0=0/\ts=ts/\q.3=q.3/\q.2=q.2/\RM.D q=RM.D q)){T7}(t7:T7=λ(i:Nat×Int×Nat×Nat)=>(fop BinOp.sub .f64 (j1 (q.3 T4 (1+Int.toNat (T5 i) *
 5+3+0))) (j1 (q.3 T4 (1+Int.toNat (T5 i)*5+1+0))))){T8}(t8:T8=(True/\kb (q.3 rb rc)=kb (q.3 rb rc)/\0=0)){T9}(t9:T9=λ(i_1:Nat×Nat×Nat)=>(↑(i_1.1):Int)){T10}(t10:T10=λ(pq:Nat×Nat×Nat)=>(pq.1<=2/\fb ((pq.2).1)
 (pq.1)/\fb ((pq.2).2) 2)){T11}(t11:T11=λ(i:Nat×Int×Nat×Nat)=>(q.3 T4 (1+Int.toNat (T5 i)*5+1+1))){T12}(t12:T12=(True/\rb=rb/\rc=rc)){T13}(t13:T13=(True/\bb=bb/\bc=bc)){T14}(t14:T14=λ(i:Nat×Int×Nat×Nat)=>(q.3 T4
 (1+Int.toNat (T5 i)*5+3+1))){T15}(t15:T15=λ(i_1:Nat×Nat×Nat)=>(q.1 bb/\bc+3+Int.toNat (T9 i_1)*1<q.2 bb/\u5 .f64 (q.3 bb (bc+3+Int.toNat (T9 i_1)*1)))):J7 X0 1 [(4,chL ts q rb rc bb bc),(8, .iter 2)] [] (j3 Tryz.f134) (q9 Tryz.f134.ntmps [.pb 0 rb rc, .pb 0 bb bc] [(0,rwO ts q)] 1) (r6 X0.G.E.T Tryz.f134.results.toList λS v=>R (Go.Sx.look S.H 0) v)=(
 (q.1 rb/\rc+0<q.2 rb)/\(a1X 207 (q.3 rb (rc+0))/\a0J (I0 (q.3 rb (rc+0))))/\(∃(pq:Nat×Int×Nat×Nat),(pq.1<=List.length (w7 q T4)/\(pq.1=0/\(pq.2).1=(-1:Int)∨(0:Int)<=(pq.2).1/\(pq.2).1<(↑(pq.1):Int)))/\
 (T12/\T13/\(-1:Int)=Prod.fst (pq.2)/\0=((pq.2).2).1/\0=((pq.2).2).2/\(True/\ptB (I0 (q.3 rb (rc+0)))=kb (q.3 rb rc)/\ptC (I0 (q.3 rb (rc+0)))=0)/\0=(↑(pq.1):Int)/\True)/\True/\T6/\True)/\∀(i:Nat×Int×Nat×
 Nat),i.1<=List.length (w7 q T4)/\(i.1=0/\(i.2).1=(-1:Int)∨(0:Int)<=(i.2).1/\(i.2).1<(T5 i))->(q.1 T4/\0<q.2 T4/\A1 .i64 (q.3 T4 0))/\(decide ((T5 i)<m8 (q.3 T4 0))=true->((0:Int)<=(T5 i)/\(T5 i)<17)/\((0 :
 Int)<=0/\(0:Int)<2)/\(q.1 T4/\1+Int.toNat (T5 i)*5+3+0<q.2 T4/\u5 .f64 (q.3 T4 (1+Int.toNat (T5 i)*5+3+0)))/\(0<=(T5 i)/\(T5 i)<(17:Int))/\((0:Int)<=0/\(0:Int)<2)/\(q.1 T4/\1+Int.toNat (T5 i)*5+1
 + 0<q.2 T4/\u5 .f64 (q.3 T4 (1+Int.toNat (T5 i)*5+1+0)))/\fok BinOp.sub .f64 (j1 (q.3 T4 (1+Int.toNat (T5 i)*5+3+0))) (j1 (q.3 T4 (1+Int.toNat (T5 i)*5+1+0)))/\true=true/\(true=true->(0<=(T5 i)/\(T5 i) <
 17)/\((0:Int)<=1/\(1:Int)<2)/\(q.1 T4/\1+Int.toNat (T5 i)*5+3+1<q.2 T4/\u5 .f64 (T14 i))/\(0<=(T5 i)/\(T5 i)<17)/\((0:Int)<=1/\(1:Int)<(2:Int))/\(q.1 T4/\1+Int.toNat (T5 i)*5+1+1<q.2 T4/\u5
 .f64 (T11 i))/\fok BinOp.sub .f64 (j1 (T14 i)) (j1 (T11 i))/\fok BinOp.mul .f64 (T7 i) (fop BinOp.sub .f64 (j1 (T14 i)) (j1 (T11 i)))/\true=true/\(false=true->(0<=(T5 i)/\(T5 i)<17)/\((0:Int)<=2/\(2:Int)<2)/\(q.1 T4/\1
 + Int.toNat (T5 i)*5+3+2<q.2 T4/\u5 .f64 (q.3 T4 (1+Int.toNat (T5 i)*5+3+2)))/\((0:Int)<=(T5 i)/\(T5 i)<17)/\((0:Int)<=2/\(2:Int)<2)/\(q.1 T4/\1+Int.toNat (T5 i)*5+1+2<q.2 T4/\u5 .f64 (q.3 T4 (1 +
 Int.toNat (T5 i)*5+1+2)))/\fok BinOp.sub .f64 (j1 (q.3 T4 (1+Int.toNat (T5 i)*5+3+2))) (j1 (q.3 T4 (1+Int.toNat (T5 i)*5+1+2)))/\fok BinOp.mul .f64 (fop BinOp.mul .f64 (T7 i) (fop BinOp.sub .f64 (j1 (T14 i)) (j1 (T11
 i)))) (fop BinOp.sub .f64 (j1 (q.3 T4 (1+Int.toNat (↑(Prod.fst i):Int)*5+3+2))) (j1 (q.3 T4 (1+Int.toNat (T5 i)*5+1+2))))/\true=true/\False)/\(false=false->(∃(pq:Nat×Nat×Nat),(T10 pq)/\(T12/\T13/\(i.2).1 =
 Prod.fst (i.2)/\((i.2).2).1=((i.2).2).1/\((i.2).2).2=((i.2).2).2/\T8/\(T5 i)=(T5 i)/\fop BinOp.mul .f64 (T7 i) (fop BinOp.sub .f64 (j1 (q.3 T4 (1+Int.toNat (↑(Prod.fst i):Int)*5+3+1))) (j1 (T11 i)))=(pq.2).2/\
 4607182418800017408=(pq.2).1/\0=(↑(pq.1):Int)/\True)/\True/\T6/\True)/\∀(j:Nat×Nat×Nat),j.1<=2/\fb ((j.2).1) (j.1)/\fb ((j.2).2) 2->(∃(pq:Nat×Nat×Nat),(T10 pq)/\(T12/\T13/\(i.2).1=(i.2).1/\((i.2).2).1 =
 ((i.2).2).1/\Prod.snd ((i.2).2)=((i.2).2).2/\T8/\(T5 i)=(T5 i)/\(j.2).2=Prod.snd (pq.2)/\(j.2).1=(pq.2).1/\(↑(j.1):Int)=(↑(pq.1):Int)/\True)/\True/\T6/\True)/\∀(i_1:Nat×Nat×Nat),i_1.1<=2/\fb ((i_1.2).1) (i_1.1)/\fb
 ((i_1.2).2) 2->(decide ((T9 i_1)<2)=true->((0:Int)<=(T9 i_1)/\(T9 i_1)<2)/\(T15 i_1)/\((0:Int)<=(T5 i)/\(T5 i)<17)/\(0<=(T9 i_1)/\(T9 i_1)<2)/\(q.1 T4/\1+Int.toNat (T5 i)*5+3+Int.toNat (T9 i_1)*1<q.2 T4/\u5
 .f64 (q.3 T4 (1+Int.toNat (T5 i)*5+3+Int.toNat (↑(Prod.fst i_1):Int)*1)))/\true=true/\(T2 i i_1)/\(T1 i i_1))/\(T3 i i_1)))/\(true=false->(∃(pq:Nat×Nat×Nat),(T10 pq)/\(T12/\T13/\(i.2).1=(i.2).1/\((i.2).2).1 =
 ((i.2).2).1/\((i.2).2).2=((Prod.snd i).2).2/\T8/\(T5 i)=(T5 i)/\fop BinOp.sub .f64 (j1 (q.3 T4 (1+Int.toNat (T5 i)*5+3+0))) (j1 (q.3 T4 (1+Int.toNat (T5 i)*5+1+0)))=(pq.2).2/\4607182418800017408=(pq.2).1/\0 =
 (↑(pq.1):Int)/\True)/\True/\T6/\True)/\∀(j:Nat×Nat×Nat),j.1<=2/\fb ((j.2).1) (j.1)/\fb ((j.2).2) 2->(∃(pq:Nat×Nat×Nat),(T10 pq)/\(T12/\T13/\(i.2).1=(i.2).1/\((i.2).2).1=((i.2).2).1/\((i.2).2).2=((i.2).2).2/\T8/\
 (T5 i)=(T5 i)/\(j.2).2=(pq.2).2/\(j.2).1=(pq.2).1/\(↑(j.1):Int)=(↑(pq.1):Int)/\True)/\True/\T6/\True)/\∀(i_1:Nat×Nat×Nat),i_1.1<=2/\fb ((i_1.2).1) (i_1.1)/\fb ((i_1.2).2) 2->(decide ((T9 i_1)<2)=true->((0:Int)<=
 (T9 i_1)/\(T9 i_1)<2)/\(T15 i_1)/\(0<=(T5 i)/\(T5 i)<17)/\(0<=(T9 i_1)/\(T9 i_1)<2)/\(q.1 T4/\1+Int.toNat (T5 i)*5+3+Int.toNat (T9 i_1)*1<q.2 T4/\u5 .f64 (q.3 T4 (1+Int.toNat (T5 i)*5+3+Int.toNat (T9 i_1) *
 1)))/\true=true/\(T2 i i_1)/\(T1 i i_1))/\(T3 i i_1)))/\(decide ((T5 i)<m8 (q.3 T4 0))=false->R (Option.some (Ob.mk true 0 (a9.raw ts (RM.D q) q.2 q.3) 0)) (SV.int .i64 ((i.2).1)))):=by subst t1 t2 t3 t4 t5 t6 t7 t8 t9 t10 t11 t12 t13 t14 t15;kernel_rfl
theorem c1j:u6 Tryz.prog 134 (l9 (Nat) ⟨default⟩ a6g):=by
 refine A7 x0 Tryz.func134 rfl (by kernel_rfl) λargs=>?_
 unfold a6g;split
 ·rename_i n rb rc n1 bb bc;intro o0;try dsimp only
  split
  ·rename_i ts q hm0;intro ho;replace ho:n=n1/\(hangs q rb rc/\okR q bb bc/\1<=(w7 q (kb (q.F rb rc))).length):=ho;obtain⟨heq0,ho⟩:=ho;subst heq0;refine⟨?_,Nat.succ_pos _,ts,λ(i:Nat)=>q,λ(i:Nat)=>.int .i64 (i:Nat),λ_=>rfl,?_,_,_,(b2R (G6 1 ts (λ(i:Nat)=>i<(w7 q (kb (q.F rb rc))).length) (λ(i:Nat)=>q) (λ(i:Nat)=>.int .i64 (i:Nat))) ts q rb rc bb bc rfl rfl rfl rfl rfl rfl rfl rfl rfl rfl rfl rfl rfl rfl rfl).mpr ?_⟩
   ·refine g9 rfl ⟨λ_=>rfl,?_,⟨trivial,z9 hm0,trivial⟩⟩;simp[j9,o8,o9,p7,nth,a8]
   ·intro i _;rfl
   ·obtain⟨⟨d,s,hr,hne,hnd⟩,⟨d2,s2,b2⟩,hl1⟩:=ho;obtain⟨f1,f2,f3,f4⟩:=hr.facts;simp only[true_and,and_true,eq_self,Int.toNat_natCast,Nat.mul_one,decide_eq_true_eq,decide_eq_false_iff_not,true_implies,false_implies,Bool.false_eq_true,reduceCtorEq,Int.reduceLE,Int.reduceLT,Int.le_refl];simp only[Nat.add_zero,f3,f4];generalize kb (q.F rb rc)=nb at *;generalize w7 q nb=l at *;have hle:=hnd.le;have hS:=hnd.S;have hn:m8 (q.F nb 0)=(l.length:Nat):=by rw[hnd.n];rfl
    refine⟨⟨d,by omega⟩,⟨f1,f2⟩,⟨(0,-1,0,0),⟨Nat.zero_le _, .inl ⟨rfl,rfl⟩⟩,(by and_intros <;> first|trivial|rfl|(rw[j5 (by omega) (by omega)];first|rfl|omega))⟩,?_⟩;rintro⟨i,j,x6,x7⟩ ⟨hi,hj⟩;dsimp only at hi hj ⊢;simp only[hn,hnd.D,d2,true_and];refine⟨⟨by omega,by rw[hnd.n];rfl⟩,λhlt=>?_,λhge=>?_⟩
    ·have hi2:i<l.length:=by omega
     have hb:=hnd.B i _ (List.getElem?_eq_getElem hi2);rw[Nat.mul_comm]at hb;have a0:=hb.lo (k:=0) (by omega);have a1:=hb.lo (k:=1) (by omega);have a2:=hb.hi (k:=0) (by omega);have a3:=hb.hi (k:=1) (by omega);simp only[Nat.add_zero]at a0 a2;obtain⟨m1,m2⟩:=a3U a2 a0;obtain⟨m3,m4⟩:=a3U a3 a1;obtain⟨m5,m6⟩:=a0o m2 m4 (by omega);have hr17:(0:Int)<=i/\(i:Int)<17:=by omega
     simp only[a0.flt,a1.flt,a2.flt,a3.flt,m1,m3,m5,and_true,true_and];refine⟨hr17,by omega,hr17,by omega,hr17,by omega,hr17,by omega,⟨(0,_,_),⟨Nat.zero_le _,c4O,m6⟩,(by and_intros <;> first|trivial|rfl|(rw[j5 (by omega) (by omega)];first|rfl|omega))⟩,?_⟩;rintro⟨k0,x0,y0⟩ ⟨hk0,hx0,hy0⟩;dsimp only at hk0 hx0 hy0 ⊢;refine⟨⟨(k0,x0,y0),⟨hk0,hx0,hy0⟩,(by and_intros <;> first|trivial|rfl|(rw[j5 (by omega) (by omega)];first|rfl|omega))⟩,?_⟩;rintro⟨k,x,y⟩ ⟨hk,hx,hy⟩;dsimp only at hk hx hy ⊢;refine⟨λhk1=>?_,λhk1=>?_⟩
     ·have hk2:k<2:=by omega
      have b0:=b2.lo hk2;have b1:=b2.hi hk2;have c0:=hb.lo hk2;have c1:=hb.hi hk2;have n1:=a3U b1 b0;have n2:=a3U b1 c0;have n3:=a3U c1 b0;have n4:=a3U c1 c0;have hk3:(0:Int)<=k/\(k:Int)<2:=by omega
      simp only[b0.flt,b1.flt,c0.flt,c1.flt,n1.1,n2.1,n3.1,n4.1,(a0o hx n1.2 (by omega)).1,(a0o hx n2.2 (by omega)).1,(a0o hx n3.2 (by omega)).1,(a0o hx n4.2 (by omega)).1,hk3.1,hk3.2,hr17.1,hr17.2,and_true,true_and]
      refine⟨by omega,by omega,λ_=>⟨by omega,by omega,λ_=>⟨by omega,by omega,(k+1,_,_),⟨by omega,(a0o hx n1.2 (by omega)).2,hy⟩,by show 2-(k+1)<2-k;omega,(by and_intros <;> first|trivial|rfl|(rw[j5 (by omega) (by omega)];first|rfl|omega))⟩,λ_=>⟨by omega,by omega,(k+1,_,_),⟨by omega,(a0o hx n2.2 (by omega)).2,hy⟩,by show 2-(k+1)<2-k;omega,(by and_intros <;> first|trivial|rfl|(rw[j5 (by omega) (by omega)];first|rfl|omega))⟩⟩,
       λ_=>⟨by omega,by omega,λ_=>⟨by omega,by omega,(k+1,_,_),⟨by omega,(a0o hx n3.2 (by omega)).2,hy⟩,by show 2-(k+1)<2-k;omega,(by and_intros <;> first|trivial|rfl|(rw[j5 (by omega) (by omega)];first|rfl|omega))⟩,λ_=>⟨by omega,by omega,(k+1,_,_),⟨by omega,(a0o hx n4.2 (by omega)).2,hy⟩,by show 2-(k+1)<2-k;omega,(by and_intros <;> first|trivial|rfl|(rw[j5 (by omega) (by omega)];first|rfl|omega))⟩⟩⟩
     ·have hk2:k=2:=by omega
      subst hk2;refine⟨c1B hx hy,λ_=>⟨(i+1,(i:Int),_,_),⟨by show i+1<=l.length;omega, .inr ⟨by show (0:Int)<=i;omega,by show (i:Int)<((i+1:Nat):Int);omega⟩⟩,by show l.length-(i+1)<l.length-i;omega,(by and_intros <;> first|trivial|rfl|(rw[j5 (by omega) (by omega)];first|rfl|omega))⟩,λhj1=>?_⟩;have hj2:j≠-1:=λe=>by rw[e]at hj1;exact absurd hj1 (by decide)
      exact⟨λ_=>⟨(i+1,(i:Int),_,_),⟨by show i+1<=l.length;omega, .inr ⟨by show (0:Int)<=i;omega,by show (i:Int)<((i+1:Nat):Int);omega⟩⟩,by show l.length-(i+1)<l.length-i;omega,(by and_intros <;> first|trivial|rfl|(rw[j5 (by omega) (by omega)];first|rfl|omega))⟩,λ_=>⟨λ_=>⟨λ_=>⟨(i+1,(i:Int),_,_),⟨by show i+1<=l.length;omega, .inr ⟨by show (0:Int)<=i;omega,by show (i:Int)<((i+1:Nat):Int);omega⟩⟩,by show l.length-(i+1)<l.length-i;omega,(by and_intros <;> first|trivial|rfl|(rw[j5 (by omega) (by omega)];first|rfl|omega))⟩,λ_=>⟨(i+1,j,_,_),⟨by show i+1<=l.length;omega, .inr ⟨by show (0:Int)<=j;omega,by show j<((i+1:Nat):Int);omega⟩⟩,by show l.length-(i+1)<l.length-i;omega,(by and_intros <;> first|trivial|rfl|(rw[j5 (by omega) (by omega)];first|rfl|omega))⟩⟩,λ_=>⟨(i+1,j,_,_),⟨by show i+1<=l.length;omega, .inr ⟨by show (0:Int)<=j;omega,by show j<((i+1:Nat):Int);omega⟩⟩,by show l.length-(i+1)<l.length-i;omega,(by and_intros <;> first|trivial|rfl|(rw[j5 (by omega) (by omega)];first|rfl|omega))⟩⟩⟩
    ·have e:i=l.length:=by omega
     subst e;refine⟨j.toNat,?_,rfl,?_⟩
     ·show j.toNat<l.length;omega
     ·show j=((j.toNat:Nat):Int);omega
  ·trivial
 ·trivial
def a2F(q:RM)(b c:Nat):Prop:=q.D b/\c+2<=q.S b/\fz (q.F b c) (zI (q.F b c))/\fz (q.F b (c+1)) (zI (q.F b (c+1)))
theorem a2F.mk'{q:RM}{b c:Nat}{x y:Int}(hD:q.D b)(hS:c+2<=q.S b)(h1:fz (q.F b c) x)(h2:fz (q.F b (c+1)) y):a2F q b c:=⟨hD,hS,by rw[h1.zI];exact h1,by rw[h2.zI];exact h2⟩
def fW(rb rc:Nat):Nat->Nat->Prop:=λb c=>b=rb/\rc<=c/\c<rc+5
def Y4(q:RM)(mb mc xb xc rb rc:Nat)(v:Value):RM:=⟨q.D,q.S,j0 (j0 (j0 (j0 (j0 q.F rb (rc+1) (q.F mb mc)) rb (rc+3) (q.F xb xc)) rb (rc+1+1) (q.F mb (mc+1))) rb (rc+3+1) (q.F xb (xc+1))) rb rc v⟩
def d1d(q:RM)(mb mc xb xc rb rc:Nat)(v:Value)(q':RM):Prop :=
 J3 q q' (fW rb rc)/\isBox q'.F rb rc ⟨zI (q.F mb mc),zI (q.F mb (mc+1)),zI (q.F xb xc),zI (q.F xb (xc+1))⟩/\q'.F rb rc=v
def a6U(q:RM)(mb mc l xb xc l1 rb rc:Nat):Prop:=(l=2/\l1=2)/\a2F q mb mc/\a2F q xb xc/\(mb≠rb/\xb≠rb)/\q.D rb/\rc+5<=q.S rb
theorem a9Z{q:RM}{mb mc l xb xc l1 rb rc:Nat}{v:Value}(ho:a6U q mb mc l xb xc l1 rb rc) :
  d1d q mb mc xb xc rb rc v (Y4 q mb mc xb xc rb rc v):=by
 obtain⟨_,⟨d1,s1,a0,a1⟩,⟨d2,s2,b0,b1⟩,⟨n1,n2⟩,d,s⟩:=ho;refine⟨⟨rfl,rfl,λb c hw=>?_⟩,⟨?_,?_,?_,?_⟩,v9⟩
 ·unfold fW at hw;show j0 _ _ _ _ _ _=_;rw[b8 (by omega),b8 (by omega),b8 (by omega),b8 (by omega),b8 (by omega)]
 ·simpa [Y4,j0]using a0
 ·simpa [Y4,j0]using a1
 ·simpa [Y4,j0]using b0
 ·simpa [Y4,j0]using b1
noncomputable def a9D:List SV->RRd (Unit)
 | [.slb n mb mc l k, .slb n1 xb xc l1 k1, .ifc t (.int .i64 v), .pb n2 rb rc]=>.read n λo0=>(match G2 o0 with
  | some (ts,q)=>.ret ⟨[.slb 0 mb mc l k, .slb 0 xb xc l1 k1, .ifc t (.int .i64 v), .pb 0 rb rc],[(0,rwO ts q)],some (n=n1/\n=n2/\(a6U q mb mc l xb xc l1 rb rc)),λ_i=>True,λ_i=>⟨[],[], .tup [],[(0,rwO ts (Y4 q mb mc xb xc rb rc (.iface t (.int .i64 v))))],[],none⟩⟩
  | none=>.fail)
 | _=>.fail
theorem b6p(R:Option Ob->SV->Prop)(ts:List Nat)(q:RM)(mb mc l k xb xc l1 k1 t:Nat)(v:Int)(rb rc:Nat){T1}(t1:T1=(Value.float .f64 (j1 (j0 q.3 rb (rc+1+0) (Value.float .f64 (j1 (q.3 mb (mc+0)))) xb (xc+0))))){T2}(t2:T2=(j0 q.3 rb (rc+1+0) (Value.float .f64 (j1 (q.3 mb (mc+0)))))){T3}(t3:T3=(Value.float .f64 (j1 (j0 T2 rb
 (rc+3+0) T1 mb (mc+1))))){T4}(t4:T4=(Value.float .f64 (j1 (j0 (j0 T2 rb (rc+3+0) T1) rb (rc+1+1) T3 xb (xc+1))))){T5}(t5:T5=(j0 (j0 T2 rb (rc+3+0) T1) rb (rc+1+1) T3)){T6}(t6:T6=(q.1 rb/\rc+0+1<=q.2
 rb)){T7}(t7:T7=(Value.iface t (Value.int .i64 v))){T8}(t8:T8=(↑l:Int)){T9}(t9:T9=(↑l1:Int)):J7 X0 1 [(7, .iter 3)] [] (j3 Tryz.f119) (q9 Tryz.f119.ntmps [.slb 0 mb mc l k, .slb 0 xb xc l1 k1, .ifc t (.int .i64 v), .pb 0 rb rc] [(0,rwO ts q)] 1) (r6 X0.G.E.T Tryz.f119.results.toList λS v=>R (Go.Sx.look S.H 0) v)=(
 ((T8 != T9)=true->False)/\((T8 != T9)=false->((T8 != (2:Int))=true->False)/\((T8 != (2:Int))=false->(true=true->((0:Int)<=0/\0<T8)/\(q.1 mb/\mc+0<q.2 mb/\u5 .f64 (q.3 mb (mc+0)))/\((0:Int)<=0/\(0:Int) <
 2)/\(q.1 rb/\rc+1+0+1<=q.2 rb)/\true=true/\((0:Int)<=0/\0<T9)/\(q.1 xb/\xc+0<q.2 xb/\u5 .f64 (j0 q.3 rb (rc+1+0) (Value.float .f64 (j1 (q.3 mb (mc+0)))) xb (xc+0)))/\((0:Int)<=0/\(0:Int)<2)/\(q.1 rb
 /\rc+3+0+1<=q.2 rb)/\true=true/\(true=true->((0:Int)<=1/\1<T8)/\(q.1 mb/\mc+1<q.2 mb/\u5 .f64 (j0 T2 rb (rc+3+0) T1 mb (mc+1)))/\((0:Int)<=1/\(1:Int)<2)/\(q.1 rb/\rc+1+1+1<=q.2 rb)/\true=true
 /\((0:Int)<=1/\1<T9)/\(q.1 xb/\xc+1<q.2 xb/\u5 .f64 (j0 (j0 T2 rb (rc+3+0) T1) rb (rc+1+1) T3 xb (xc+1)))/\((0:Int)<=1/\(1:Int)<2)/\(q.1 rb/\rc+3+1+1<=q.2 rb)/\true=true/\(false=true->((0:Int)
 <=2/\2<T8)/\(q.1 mb/\mc+2<q.2 mb/\u5 .f64 (j0 T5 rb (rc+3+1) T4 mb (mc+2)))/\((0:Int)<=2/\(2:Int)<2)/\(q.1 rb/\rc+1+2+1<=q.2 rb)/\true=true/\((0:Int)<=2/\2<T9)/\(q.1 xb/\xc+2<q.2 xb/\u5 .f64
 (j0 (j0 T5 rb (rc+3+1) T4) rb (rc+1+2) (Value.float .f64 (j1 (j0 T5 rb (rc+3+1) T4 mb (mc+2)))) xb (xc+2)))/\((0:Int)<=2/\(2:Int)<2)/\(q.1 rb/\rc+3+2+1<=q.2 rb)/\true=true/\False)/\(false=false->T6/\
 R (Option.some (Ob.mk true 0 (a9.raw ts (RM.D q) q.2 (j0 (j0 T5 rb (rc+3+1) T4) rb (rc+0) T7)) 0)) (SV.tup [])))/\(true=false->T6/\R (Option.some (Ob.mk true 0 (a9.raw ts (RM.D q) q.2 (j0 (j0 T2 rb (rc+3+0) T1) rb (rc+0)
 T7)) 0)) (SV.tup [])))/\(true=false->T6/\R (Option.some (Ob.mk true 0 (a9.raw ts (RM.D q) q.2 (j0 q.3 rb (rc+0) T7)) 0)) (SV.tup []))))):=by subst t1 t2 t3 t4 t5 t6 t7 t8 t9;kernel_rfl
theorem c8G:u6 Tryz.prog 119 (l9 (Unit) ⟨()⟩ a9D):=by
 refine A7 x0 Tryz.func119 rfl (by kernel_rfl) λargs=>?_
 unfold a9D;split
 ·rename_i n mb mc l k n1 xb xc l1 k1 t v n2 rb rc;intro o0;try dsimp only
  split
  ·rename_i ts q hm0;intro ho;replace ho:n=n1/\n=n2/\(a6U q mb mc l xb xc l1 rb rc):=ho;obtain⟨heq0,heq1,ho⟩:=ho;subst heq0;subst heq1;refine⟨?_,Nat.succ_pos _,ts,λ(_i:Unit)=>Y4 q mb mc xb xc rb rc (.iface t (.int .i64 v)),λ(_i:Unit)=>.tup [],λ_=>rfl,?_,_,_,(b6p (G6 1 ts (λ(_i:Unit)=>True) (λ(_i:Unit)=>Y4 q mb mc xb xc rb rc (.iface t (.int .i64 v))) (λ(_i:Unit)=>.tup [])) ts q mb mc l k xb xc l1 k1 t v rb rc rfl rfl rfl rfl rfl rfl rfl rfl rfl).mpr ?_⟩
   ·refine g9 rfl ⟨λ_=>rfl,?_,⟨trivial,z9 hm0,trivial⟩⟩;simp[j9,o8,p8,o9,p7,nth,a8]
   ·intro _i _;rfl
   ·have hm:Y4 q mb mc xb xc rb rc (.iface t (.int .i64 v))=Y4 q mb mc xb xc rb rc (.iface t (.int .i64 v)):=rfl;obtain⟨⟨rfl,rfl⟩,⟨d1,s1,a0,a1⟩,⟨d2,s2,b0,b1⟩,⟨n1',n2'⟩,d,s⟩:=ho;have hoff1:∀(F:Nat->Nat->Value)(c:Nat)(v:Value)(c':Nat),j0 F rb c v mb c'=F mb c':=λ_ _ _ _=>b8 (.inl n1')
    have hoff2:∀(F:Nat->Nat->Value)(c:Nat)(v:Value)(c':Nat),j0 F rb c v xb c'=F xb c':=λ_ _ _ _=>b8 (.inl n2')
    have e0:Value.float .f64 (j1 (q.F mb mc))=q.F mb mc:=a0.1.symm;have e1:Value.float .f64 (j1 (q.F mb (mc+1)))=q.F mb (mc+1):=a1.1.symm;have e2:Value.float .f64 (j1 (q.F xb xc))=q.F xb xc:=b0.1.symm;have e3:Value.float .f64 (j1 (q.F xb (xc+1)))=q.F xb (xc+1):=b1.1.symm;have h2:(((2:Nat):Int) != (2:Int))=false:=rfl;have h3:(((2:Nat):Int) != ((2:Nat):Int))=false:=rfl;simp only[true_and,and_true,eq_self,true_implies,false_implies,Bool.false_eq_true,reduceCtorEq,Int.reduceLE,Int.reduceLT,Int.le_refl]
    simp only[Nat.add_zero,hoff1,hoff2,a0.flt,a1.flt,b0.flt,b1.flt,e0,e1,e2,e3,d,d1,d2,h2,h3,true_and,and_true,true_implies,false_implies,Bool.false_eq_true]
    and_intros
    all_goals first|omega|exact⟨(),trivial,rfl,trivial⟩
  ·trivial
 ·trivial
noncomputable def a9l:List SV->RRd (Unit)
 | [.slb n mb mc l k, .slb n1 xb xc l1 k1, .ifc t (.pb n3 pb pc), .pb n2 rb rc]=>.read n λo0=>(match G2 o0 with
  | some (ts,q)=>.ret ⟨[.slb 0 mb mc l k, .slb 0 xb xc l1 k1, .ifc t (.pb 0 pb pc), .pb 0 rb rc],[(0,rwO ts q)],some (n=n1/\n=n2/\n=n3/\(a6U q mb mc l xb xc l1 rb rc)),λ_i=>True,λ_i=>⟨[],[], .tup [],[(0,rwO ts (Y4 q mb mc xb xc rb rc (.iface t (.pointer (some ⟨pb,pc,none⟩)))))],[],none⟩⟩
  | none=>.fail)
 | _=>.fail
theorem b7F(R:Option Ob->SV->Prop)(ts:List Nat)(q:RM)(mb mc l k xb xc l1 k1 t pb pc rb rc:Nat){T1}(t1:T1=(Value.float .f64 (j1 (j0 q.3 rb (rc+1+0) (Value.float .f64 (j1 (q.3 mb (mc+0)))) xb (xc+0))))){T2}(t2:T2=(j0 q.3 rb (rc+1+0) (Value.float .f64 (j1 (q.3 mb (mc+0)))))){T3}(t3:T3=(Value.float .f64 (j1 (j0 T2 rb
 (rc+3+0) T1 mb (mc+1))))){T4}(t4:T4=(Value.float .f64 (j1 (j0 (j0 T2 rb (rc+3+0) T1) rb (rc+1+1) T3 xb (xc+1))))){T5}(t5:T5=(j0 (j0 T2 rb (rc+3+0) T1) rb (rc+1+1) T3)){T6}(t6:T6=(Value.iface t (Value.pointer
 (Option.some (Addr.mk pb pc Option.none))))){T7}(t7:T7=(q.1 rb/\rc+0+1<=q.2 rb)){T8}(t8:T8=(↑l:Int)){T9}(t9:T9=(↑l1:Int)):J7 X0 1 [(7, .iter 3)] [] (j3 Tryz.f119) (q9 Tryz.f119.ntmps [.slb 0 mb mc l k, .slb 0 xb xc l1 k1, .ifc t (.pb 0 pb pc), .pb 0 rb rc] [(0,rwO ts q)] 1) (r6 X0.G.E.T Tryz.f119.results.toList λS v=>R (Go.Sx.look S.H 0) v)=(
 ((T8 != T9)=true->False)/\((T8 != T9)=false->((T8 != (2:Int))=true->False)/\((T8 != (2:Int))=false->(true=true->((0:Int)<=0/\0<T8)/\(q.1 mb/\mc+0<q.2 mb/\u5 .f64 (q.3 mb (mc+0)))/\((0:Int)<=0/\(0:Int) <
 2)/\(q.1 rb/\rc+1+0+1<=q.2 rb)/\true=true/\((0:Int)<=0/\0<T9)/\(q.1 xb/\xc+0<q.2 xb/\u5 .f64 (j0 q.3 rb (rc+1+0) (Value.float .f64 (j1 (q.3 mb (mc+0)))) xb (xc+0)))/\((0:Int)<=0/\(0:Int)<2)/\(q.1 rb
 /\rc+3+0+1<=q.2 rb)/\true=true/\(true=true->((0:Int)<=1/\1<T8)/\(q.1 mb/\mc+1<q.2 mb/\u5 .f64 (j0 T2 rb (rc+3+0) T1 mb (mc+1)))/\((0:Int)<=1/\(1:Int)<2)/\(q.1 rb/\rc+1+1+1<=q.2 rb)/\true=true
 /\((0:Int)<=1/\1<T9)/\(q.1 xb/\xc+1<q.2 xb/\u5 .f64 (j0 (j0 T2 rb (rc+3+0) T1) rb (rc+1+1) T3 xb (xc+1)))/\((0:Int)<=1/\(1:Int)<2)/\(q.1 rb/\rc+3+1+1<=q.2 rb)/\true=true/\(false=true->((0:Int)
 <=2/\2<T8)/\(q.1 mb/\mc+2<q.2 mb/\u5 .f64 (j0 T5 rb (rc+3+1) T4 mb (mc+2)))/\((0:Int)<=2/\(2:Int)<2)/\(q.1 rb/\rc+1+2+1<=q.2 rb)/\true=true/\((0:Int)<=2/\2<T9)/\(q.1 xb/\xc+2<q.2 xb/\u5 .f64
 (j0 (j0 T5 rb (rc+3+1) T4) rb (rc+1+2) (Value.float .f64 (j1 (j0 T5 rb (rc+3+1) T4 mb (mc+2)))) xb (xc+2)))/\((0:Int)<=2/\(2:Int)<2)/\(q.1 rb/\rc+3+2+1<=q.2 rb)/\true=true/\False)/\(false=false->T7/\
 R (Option.some (Ob.mk true 0 (a9.raw ts (RM.D q) q.2 (j0 (j0 T5 rb (rc+3+1) T4) rb (rc+0) T6)) 0)) (SV.tup [])))/\(true=false->T7/\R (Option.some (Ob.mk true 0 (a9.raw ts (RM.D q) q.2 (j0 (j0 T2 rb (rc+3+0) T1) rb (rc+0)
 T6)) 0)) (SV.tup [])))/\(true=false->T7/\R (Option.some (Ob.mk true 0 (a9.raw ts (RM.D q) q.2 (j0 q.3 rb (rc+0) T6)) 0)) (SV.tup []))))):=by subst t1 t2 t3 t4 t5 t6 t7 t8 t9;kernel_rfl
theorem c9g:u6 Tryz.prog 119 (l9 (Unit) ⟨()⟩ a9l):=by
 refine A7 x0 Tryz.func119 rfl (by kernel_rfl) λargs=>?_
 unfold a9l;split
 ·rename_i n mb mc l k n1 xb xc l1 k1 t n3 pb pc n2 rb rc;intro o0;try dsimp only
  split
  ·rename_i ts q hm0;intro ho;replace ho:n=n1/\n=n2/\n=n3/\(a6U q mb mc l xb xc l1 rb rc):=ho;obtain⟨heq0,heq1,heq2,ho⟩:=ho;subst heq0;subst heq1;subst heq2;refine⟨?_,Nat.succ_pos _,ts,λ(_i:Unit)=>Y4 q mb mc xb xc rb rc (.iface t (.pointer (some ⟨pb,pc,none⟩))),λ(_i:Unit)=>.tup [],λ_=>rfl,?_,_,_,(b7F (G6 1 ts (λ(_i:Unit)=>True) (λ(_i:Unit)=>Y4 q mb mc xb xc rb rc (.iface t (.pointer (some ⟨pb,pc,none⟩)))) (λ(_i:Unit)=>.tup [])) ts q mb mc l k xb xc l1 k1 t pb pc rb rc rfl rfl rfl rfl rfl rfl rfl rfl rfl).mpr ?_⟩
   ·refine g9 rfl ⟨λ_=>rfl,?_,⟨trivial,z9 hm0,trivial⟩⟩;simp[j9,o8,o9,p7,nth,a8]
   ·intro _i _;rfl
   ·have hm:Y4 q mb mc xb xc rb rc (.iface t (.pointer (some ⟨pb,pc,none⟩)))=Y4 q mb mc xb xc rb rc (.iface t (.pointer (some ⟨pb,pc,none⟩))):=rfl;obtain⟨⟨rfl,rfl⟩,⟨d1,s1,a0,a1⟩,⟨d2,s2,b0,b1⟩,⟨n1',n2'⟩,d,s⟩:=ho;have hoff1:∀(F:Nat->Nat->Value)(c:Nat)(v:Value)(c':Nat),j0 F rb c v mb c'=F mb c':=λ_ _ _ _=>b8 (.inl n1')
    have hoff2:∀(F:Nat->Nat->Value)(c:Nat)(v:Value)(c':Nat),j0 F rb c v xb c'=F xb c':=λ_ _ _ _=>b8 (.inl n2')
    have e0:Value.float .f64 (j1 (q.F mb mc))=q.F mb mc:=a0.1.symm;have e1:Value.float .f64 (j1 (q.F mb (mc+1)))=q.F mb (mc+1):=a1.1.symm;have e2:Value.float .f64 (j1 (q.F xb xc))=q.F xb xc:=b0.1.symm;have e3:Value.float .f64 (j1 (q.F xb (xc+1)))=q.F xb (xc+1):=b1.1.symm;have h2:(((2:Nat):Int) != (2:Int))=false:=rfl;have h3:(((2:Nat):Int) != ((2:Nat):Int))=false:=rfl;simp only[true_and,and_true,eq_self,true_implies,false_implies,Bool.false_eq_true,reduceCtorEq,Int.reduceLE,Int.reduceLT,Int.le_refl]
    simp only[Nat.add_zero,hoff1,hoff2,a0.flt,a1.flt,b0.flt,b1.flt,e0,e1,e2,e3,d,d1,d2,h2,h3,true_and,and_true,true_implies,false_implies,Bool.false_eq_true]
    and_intros
    all_goals first|omega|exact⟨(),trivial,rfl,trivial⟩
  ·trivial
 ·trivial
theorem c4f:q7 Tryz.prog 119 (a1f (l9 Unit ⟨()⟩ a9D) ()):=a9L c8G () λ_=>rfl
theorem c3Y:q7 Tryz.prog 119 (a1f (l9 Unit ⟨()⟩ a9l) ()):=a9L c9g () λ_=>rfl
structure SpI where
 a:Nat
 x:Nat
 b:Nat
 i:Nat
 v:Value
 q:RM
structure a7c (q0:RM) (b:Nat) (q:RM) (v:Value) (E:List En):Prop where
 sl:isSlN v
 n:slL v=E.length
 le:slL v<=slK v
 D:0<slK v->q.D (slB v)/\slC v+slK v*5<=q.S (slB v)/\¬q0.D (slB v)/\slB v≠b
 c:∀(j:Nat)(e:En),E[j]? = some e->q.F (slB v) (slC v+5*j)=e.v
 o:∀(j:Nat)(e:En),E[j]? = some e->e.v.oneCell'=true
 B:∀ j e,E[j]? = some e->isBox q.F (slB v) (slC v+5*j) e.B
def c7S(W:Nat->Nat->Prop)(q q':RM)(nb:Nat):Prop:=(∀ c,q.D c->q'.D c/\q'.S c=q.S c)/\∀ c k,q.D c->c≠nb->¬W c k->q'.F c k=q.F c k
structure spA (q:RM) (rb rc qb qc:Nat) (p:SpI) (L R E:List En):Prop where
 a:p.a<2
 fr:c7S (λc k=>c=qb/\k=qc) q p.q (kb (q.F rb rc))
 nw:¬q.D p.b
 l:C5 p.q (kb (q.F rb rc)) L
 r:C5 p.q p.b R
 e:a7c q p.b p.q p.v E
 dat:p.q.F qb qc=.iface 207 (.pointer (some ⟨p.b,0,none⟩))
def a0D(a:Nat)(B:Bx)(e:En):Prop:=e.B.lo a-B.lo a<B.hi a-e.B.hi a
def goP(a:Nat)(B:Bx)(e:En):Prop:=B.hi a-e.B.hi a<e.B.lo a-B.lo a
def b0L(q:RM)(rb rc qb qc:Nat)(p:SpI):Prop:=∃ L R E,spA q rb rc qb qc p L R E/\(L++R++E).Perm (w7 q (kb (q.F rb rc)))/\p.i<=L.length/\
 (∀ j e,j<p.i->L[j]? = some e->a0D p.a (bxOf q.F rb rc) e)/\∀ e∈R,goP p.a (bxOf q.F rb rc) e
def spM(q:RM)(rb rc qb qc:Nat)(p:SpI):Prop:=∃ L R E,spA q rb rc qb qc p L R E/\(a1A L p.i++R++E).Perm (w7 q (kb (q.F rb rc)))/\p.i<L.length/\
 (∀ j e,j<p.i->L[j]? = some e->a0D p.a (bxOf q.F rb rc) e)/\∀ e∈R,goP p.a (bxOf q.F rb rc) e
def sp2(q:RM)(rb rc qb qc:Nat)(p:SpI):Prop:=∃ L R E,spA q rb rc qb qc p L R E/\(L++R++E.drop p.i).Perm (w7 q (kb (q.F rb rc)))/\(p.i<=E.length/\E.length<=17)/\
 (L=[]->E.drop p.i≠[])/\(R=[]->E.drop p.i≠[])
noncomputable def c6g(ts:List Nat)(rb rc qb qc nb:Nat)(p:SpI):St :=
 ⟨194,[(0, .pb 0 rb rc),(1, .pb 0 qb qc),(4, .int .i64 p.a),(6, .pb 0 rb rc),(7, .pb 0 nb 0),(8, .pb 0 p.b 0),(9, .dv 0 p.v),(10, .int .i64 p.i)],[(0,rwO ts p.q)],1⟩
noncomputable def c8u(ts:List Nat)(rb rc qb qc nb:Nat)(p:SpI):St :=
 ⟨194,[(0, .pb 0 rb rc),(1, .pb 0 qb qc),(6, .pb 0 rb rc),(7, .pb 0 nb 0),(8, .pb 0 p.b 0),(142, .dv 0 p.v),(143, .int .i64 (slL p.v:Nat)),(144, .int .i64 p.i)],[(0,rwO ts p.q)],1⟩
noncomputable def d1e(ts:List Nat)(q:RM)(rb rc qb qc:Nat):O9 :=
 ⟨⟨SpI,c6g ts rb rc qb qc (kb (q.F rb rc)),b0L q rb rc qb qc,λp=>(m8 (p.q.F (kb (q.F rb rc)) 0)).toNat-p.i⟩,
  λp=>[(16,⟨SpI,c6g ts rb rc qb qc (kb (q.F rb rc)),λp'=>spM q rb rc qb qc p'/\p'.i=p.i/\p'.q.F (kb (q.F rb rc)) 0=p.q.F (kb (q.F rb rc)) 0,λ_=>0⟩)]⟩
noncomputable def c9K(ts:List Nat)(q:RM)(rb rc qb qc:Nat):O9 :=
 ⟨⟨SpI,c8u ts rb rc qb qc (kb (q.F rb rc)),sp2 q rb rc qb qc,λp=>slL p.v-p.i⟩,λ_=>[]⟩
def spP(q:RM)(rb rc qb qc:Nat)(q':RM):Prop:=∃ b2 L R B1 B2,¬q.D b2/\(L++R).Perm (w7 q (kb (q.F rb rc)))/\L≠[]/\R≠[]/\C5 q' (kb (q.F rb rc)) L/\C5 q' b2 R/\
 q'.F qb qc=.iface 207 (.pointer (some ⟨b2,0,none⟩))/\isBox q'.F rb rc B1/\F3 B1 (L.map (·.B))/\isBox q'.F qb qc B2/\F3 B2 (R.map (·.B))/\
 c7S (λc k=>(c=qb/\qc<=k/\k<qc+5)∨rW rb rc c k) q q' (kb (q.F rb rc))
def spO(q:RM)(rb rc qb qc:Nat):Prop:=hangs q rb rc/\okR q rb rc/\F3 (bxOf q.F rb rc) ((w7 q (kb (q.F rb rc))).map (·.B))/\(w7 q (kb (q.F rb rc))).length=17/\
 (q.D qb/\qc+5<=q.S qb)/\qb≠kb (q.F rb rc)/\apart rb rc qb qc
def cp5(F:Nat->Nat->Value)(b c:Nat)(G:Nat->Nat->Value)(b0 c0:Nat):Nat->Nat->Value :=
 j0 (j0 (j0 (j0 (j0 F b c (G b0 c0)) b (c+1) (G b0 (c0+1))) b (c+1+1) (G b0 (c0+1+1))) b (c+1+1+1) (G b0 (c0+1+1+1))) b (c+1+1+1+1) (G b0 (c0+1+1+1+1))
theorem M7{F:Nat->Nat->Value}{b c:Nat}{G:Nat->Nat->Value}{b0 c0 b' c':Nat}(h:b'≠b∨c'<c∨c+5<=c'):cp5 F b c G b0 c0 b' c'=F b' c':=by
 unfold cp5;rw[b8 (by omega),b8 (by omega),b8 (by omega),b8 (by omega),b8 (by omega)]
theorem b2T{F:Nat->Nat->Value}{b c:Nat}{G:Nat->Nat->Value}{b0 c0 k:Nat}(h:k<5):cp5 F b c G b0 c0 b (c+k)=G b0 (c0+k):=by
 unfold cp5
 match k,h with
 | 0,_=>rw[b8 (by omega),b8 (by omega),b8 (by omega),b8 (by omega)];exact v9
 | 1,_=>rw[b8 (by omega),b8 (by omega),b8 (by omega)];exact v9
 | 2,_=>rw[b8 (by omega),b8 (by omega)];exact v9
 | 3,_=>rw[b8 (by omega)];exact v9
 | 4,_=>exact v9
theorem A4{F G:Nat->Nat->Value}{b c b0 c0:Nat}{B:Bx}(h:∀ k,k<5->F b (c+k)=G b0 (c0+k))(hB:isBox G b0 c0 B):isBox F b c B:=by
 obtain⟨h1,h2,h3,h4⟩:=hB;exact⟨by rw[h 1 (by omega)];exact h1,by rw[h 2 (by omega)];exact h2,by rw[h 3 (by omega)];exact h3,by rw[h 4 (by omega)];exact h4⟩
theorem C5.cpush{q q':RM}{b:Nat}{l:List En}(h:C5 q b l)(hl:l.length<17){G:Nat->Nat->Value}{b0 c0:Nat}{e:En}(he:G b0 c0=e.v)(ho:e.v.oneCell'=true)(hB:isBox G b0 c0 e.B)
  (hD:q'.D b) (hS:q'.S b=q.S b) (hF:∀ c,q'.F b c=j0 (cp5 q.F b (1+l.length*5) G b0 c0) b 0 (.int .i64 (l.length+1:Nat)) b c):C5 q' b (l++[e]):=by
 have e0:∀ k,k<5->q'.F b (1+5*l.length+k)=G b0 (c0+k):=λk hk=>by
  rw[hF,b8 (by omega),Nat.mul_comm 5];exact b2T hk
 refine h.push hl hD hS ho ?_ ?_ ?_ λc c1 c2=>?_
 ·rw[hF];exact v9
 ·have:=e0 0 (by omega);rw[Nat.add_zero,Nat.add_zero]at this;rw[this];exact he
 ·exact A4 e0 hB
 ·rw[hF,b8 (by omega),M7 (by omega)]
theorem C5.swap{q q':RM}{b:Nat}{l:List En}(h:C5 q b l){i:Nat}(hi:i<l.length)(v:Value)
  (hD:q'.D b) (hS:q'.S b=q.S b) (hF:∀ c,q'.F b c=j0 (j0 (cp5 q.F b (1+i*5) q.F b (1+(l.length-1)*5)) b (1+(l.length-1)*5) v) b 0 (.int .i64 (l.length-1:Nat)) b c):C5 q' b (a1A l i):=by
 have hlen:=a3l hi
 have old:∀ j,j<l.length-1->j≠i->∀ k,k<5->q'.F b (1+5*j+k)=q.F b (1+5*j+k):=λj h1 h2 k hk=>by
  rw[hF,b8 (by omega),b8 (by omega),M7 (by omega)]
 have new:i<l.length-1->∀ k,k<5->q'.F b (1+5*i+k)=q.F b (1+5*(l.length-1)+k):=λh1 k hk=>by
  rw[hF,b8 (by omega),b8 (by omega),Nat.mul_comm 5,Nat.mul_comm 5];exact b2T hk
 have get:∀ j e,(a1A l i)[j]? = some e->j<l.length-1/\((j=i/\l[l.length-1]? = some e)∨(j≠i/\l[j]? = some e)):=λj e hj=>by
  have hj1:=(List.getElem?_eq_some_iff.1 hj).1;rw[hlen]at hj1;rw[a8l hi hj1]at hj;refine⟨hj1,?_⟩;by_cases c:j=i
  ·rw[if_pos c]at hj;exact .inl ⟨c,hj⟩
  ·rw[if_neg c]at hj;exact .inr ⟨c,hj⟩
 refine⟨hD,hS.trans h.S,?_,?_,λj e hj=>?_,λj e hj=>?_,λj e hj=>?_⟩
 ·rw[hF,hlen];exact v9
 ·rw[hlen];have:=h.le;omega
 ·obtain⟨h1,h2|h2⟩:=get j e hj
  ·obtain⟨rfl,h3⟩:=h2;have:=new h1 0 (by omega);simp only[Nat.add_zero]at this;rw[this];exact h.v _ _ h3
  ·have:=old j h1 h2.1 0 (by omega);simp only[Nat.add_zero]at this;rw[this];exact h.v _ _ h2.2
 ·obtain⟨h1,h2|h2⟩:=get j e hj
  ·exact h.o _ _ h2.2
  ·exact h.o _ _ h2.2
 ·obtain⟨h1,h2|h2⟩:=get j e hj
  ·obtain⟨rfl,h3⟩:=h2;exact A4 (new h1) (h.B _ _ h3)
  ·exact A4 (old j h1 h2.1) (h.B _ _ h2.2)
theorem a7c.pos{q0 q:RM}{b:Nat}{v:Value}{E:List En}(h:a7c q0 b q v E)(hE:E≠[]):0<slK v:=by
 have h1:=h.n;have h2:=h.le;have:E.length≠0:=λe=>hE (List.length_eq_zero_iff.1 e)
 omega
theorem a7c.same{q0 q q':RM}{b:Nat}{v:Value}{E:List En}(h:a7c q0 b q v E)(hs:0<slK v->q'.D (slB v)/\q'.S (slB v)=q.S (slB v)/\∀ c,q'.F (slB v) c=q.F (slB v) c):a7c q0 b q' v E where
 sl:=h.sl
 n:=h.n
 le:=h.le
 D:=λh0=>by
  obtain⟨h1,h2,h3⟩:=hs h0;obtain⟨h4,h5,h6,h7⟩:=h.D h0;exact⟨h1,by rw[h2];exact h5,h6,h7⟩
 c:=λj e hj=>by
  have:=h.pos (E:=E) (λe=>by rw[e]at hj;simp at hj);rw[(hs this).2.2];exact h.c j e hj
 o:=h.o
 B:=λj e hj=>by
  have:=h.pos (E:=E) (λe=>by rw[e]at hj;simp at hj);exact A4 (λk _=>(hs this).2.2 _) (h.B j e hj)
theorem a7c.app{q0 q:RM}{b:Nat}{v:Value}{E:List En}(h:a7c q0 b q v E)(hle:∀ c,q0.D c->q.D c)(hb:q.D b){G:Nat->Nat->Value}{b0 c0:Nat}{e:En}(he:G b0 c0=e.v)(ho:e.v.oneCell'=true)(hB:isBox G b0 c0 e.B)
  {i:ApI} (hp:L9 q.D q.S q.F 5 (slB v) (slC v) (slL v) (slK v) 1 [G b0 c0,G b0 (c0+1),G b0 (c0+1+1),G b0 (c0+1+1+1),G b0 (c0+1+1+1+1)] i) :
  a7c q0 b ⟨i.D,i.S,i.F⟩ (.slice (some ⟨i.b,i.c,none⟩) (slL v+1) i.k) (E++[e]):=by
 have hn:=h.n
 have us:∀ k,k<5->[G b0 c0,G b0 (c0+1),G b0 (c0+1+1),G b0 (c0+1+1+1),G b0 (c0+1+1+1+1)].getD k (.bool false)=G b0 (c0+k):=λk hk=>by
  match k,hk with
  | 0,_=>rfl
  | 1,_=>rfl
  | 2,_=>rfl
  | 3,_=>rfl
  | 4,_=>rfl
 have main:(∀ j k,j<E.length->k<5->i.F i.b (i.c+5*j+k)=q.F (slB v) (slC v+5*j+k))->(∀ k,k<5->i.F i.b (i.c+5*E.length+k)=G b0 (c0+k))->slL v+1<=i.k->
   (0<i.k->i.D i.b/\i.c+i.k*5<=i.S i.b/\¬q0.D i.b/\i.b≠b)->a7c q0 b ⟨i.D,i.S,i.F⟩ (.slice (some ⟨i.b,i.c,none⟩) (slL v+1) i.k) (E++[e]):=by
  intro m1 m2 m3 m4
  have get:∀ j x,(E++[e])[j]? = some x->(j<E.length/\E[j]? = some x)∨(j=E.length/\x=e):=λj x hj=>by
   by_cases hc:j<E.length
   ·rw[List.getElem?_append_left hc]at hj;exact .inl ⟨hc,hj⟩
   ·have hjl:j=E.length:=by
     have:=(List.getElem?_eq_some_iff.1 hj).1;simp at this;omega
    subst hjl;simp at hj;exact .inr ⟨rfl,hj.symm⟩
  refine⟨.inr rfl,by simp[slL];exact hn,m3,m4,λj x hj=>?_,λj x hj=>?_,λj x hj=>?_⟩
  ·rcases get j x hj with⟨h1,h2⟩|⟨rfl,rfl⟩
   ·have:=m1 j 0 h1 (by omega);simp only[Nat.add_zero]at this;exact this.trans (h.c j x h2)
   ·have:=m2 0 (by omega);simp only[Nat.add_zero]at this;exact this.trans he
  ·rcases get j x hj with⟨h1,h2⟩|⟨rfl,rfl⟩
   ·exact h.o j x h2
   ·exact ho
  ·rcases get j x hj with⟨h1,h2⟩|⟨rfl,rfl⟩
   ·exact A4 (λk hk=>m1 j k h1 hk) (h.B j x h2)
   ·exact A4 (λk hk=>m2 k hk) hB
 rcases hp with⟨h1,h2,h3,h4,h5,h6,h7⟩|⟨h1,h2,h3,h4,h5,h6,h7,z,h8⟩
 ·rw[h2,h3,h4,h5,h6,h7]at main;rw[h2,h3,h4,h5,h6,h7];have hk:0<slK v:=by omega
  refine main (λj k hj hk=>?_) (λk hk=>?_) (by omega) h.D
  ·rw[a0c (by omega)]
  ·rw[a2L,if_pos ⟨rfl,by omega,by simp only[List.length_cons,List.length_nil];omega⟩];rw[show slC v+5*E.length+k-(slC v+slL v*5)=k by omega];exact us k hk
 ·rw[h3,h6,h7,h8]at main;rw[h3,h6,h7,h8];refine main (λj k hj hk=>?_) (λk hk=>?_) h4 λ_=>⟨.inl rfl,?_,λhd=>h2 (hle _ hd),λe=>h2 (e▸hb)⟩
  ·simp only[A3,if_true,a4I];rw[if_pos (by omega)];congr 1;omega
  ·simp only[A3,if_true,a4I];rw[if_neg (by omega),if_pos (by simp only[List.length_cons,List.length_nil];omega),show 0+5*E.length+k-slL v*5=k by omega];exact us k hk
  ·simp only[A8,if_true];omega
theorem a7n{D:Nat->Prop}{S:Nat->Nat}{F:Nat->Nat->Value}{z b c l k m:Nat}{us:List Value}{i:ApI}(hp:L9 D S F z b c l k m us i){x:Nat}(hx:D x)(hb:l+m<=k->x≠b):i.D x/\i.S x=S x/\∀ y,i.F x y=F x y:=by
 rcases hp with⟨h1,h2,h3,h4,h5,h6,h7⟩|⟨h1,h2,h3,h4,h5,h6,h7,zz,h8⟩
 ·rw[h5,h6,h7];exact⟨hx,rfl,λy=>a0c (.inl (hb h1))⟩
 ·rw[h6,h7,h8];have hne:x≠i.b:=λe=>h2 (e▸hx)
  exact⟨.inr hx,by simp only[A8];rw[if_neg hne],λy=>by simp only[A3];rw[if_neg hne]⟩
instance (a:Nat) (B:Bx) (e:En):Decidable (a0D a B e):=by unfold a0D;infer_instance
instance (a:Nat) (B:Bx) (e:En):Decidable (goP a B e):=by unfold goP;infer_instance
theorem a8z{F:Nat->Nat->Value}{b c:Nat}{v:Value}(h:c≠0):j0 F b c v b 0=F b 0:=b8 (.inr (Ne.symm h))
section
variable {q:RM} {rb rc qb qc:Nat}
theorem spO.nd(ho:spO q rb rc qb qc):C5 q (kb (q.F rb rc)) (w7 q (kb (q.F rb rc))):=ho.1.2.2.2.2
theorem spO.ne(ho:spO q rb rc qb qc):kb (q.F rb rc)≠rb:=ho.1.2.2.2.1
theorem spO.qD(ho:spO q rb rc qb qc):q.D qb:=ho.2.2.2.2.1.1
theorem spO.qn(ho:spO q rb rc qb qc):qb≠kb (q.F rb rc):=ho.2.2.2.2.2.1
variable {p p':SpI} {L L' R R' E:List En}
theorem spA.bn(ho:spO q rb rc qb qc)(h:spA q rb rc qb qc p L R E):kb (q.F rb rc)≠p.b:=λe=>h.nw (e▸ho.nd.D)
theorem spA.bq(ho:spO q rb rc qb qc)(h:spA q rb rc qb qc p L R E):qb≠p.b:=λe=>h.nw (e▸ho.qD)
theorem spA.br(ho:spO q rb rc qb qc)(h:spA q rb rc qb qc p L R E):rb≠p.b:=λe=>h.nw (e▸ho.1.1)
theorem spA.vn(ho:spO q rb rc qb qc)(h:spA q rb rc qb qc p L R E)(hv:0<slK p.v):slB p.v≠kb (q.F rb rc)/\slB p.v≠p.b :=
 ⟨λe=>(h.e.D hv).2.2.1 (e▸ho.nd.D),(h.e.D hv).2.2.2⟩
theorem spA.box(ho:spO q rb rc qb qc)(h:spA q rb rc qb qc p L R E):p.q.D rb/\rc+5<=p.q.S rb/\isBox p.q.F rb rc (bxOf q.F rb rc)/\(rb≠qb∨rc≠qc):=by
 obtain⟨h1,h2⟩:=h.fr;have hap:=ho.2.2.2.2.2.2;have ho2:=ho.2.1;refine⟨(h1 rb ho2.1).1,by rw[(h1 rb ho2.1).2];exact ho2.2.1,?_,by unfold apart at hap;omega⟩;have hk:∀ k,1<=k->k<5->p.q.F rb (rc+k)=q.F rb (rc+k):=λk k1 k2=>h2 rb (rc+k) ho2.1 (Ne.symm ho.ne) (by unfold apart at hap;omega)
 obtain⟨b1,b2,b3,b4⟩:=ho2.2.2;exact⟨by rw[hk 1 (by omega) (by omega)];exact b1,by rw[hk 2 (by omega) (by omega)];exact b2,by rw[hk 3 (by omega) (by omega)];exact b3,by rw[hk 4 (by omega) (by omega)];exact b4⟩
theorem spA.wb(ho:spO q rb rc qb qc)(h:spA q rb rc qb qc p L R E)(e1:p'.a=p.a)(e2:p'.b=p.b)(e3:p'.v=p.v)(hD:p'.q.D=p.q.D)(hS:p'.q.S=p.q.S)
  (hF:∀ c k,c≠p.b->p'.q.F c k=p.q.F c k) (hR:C5 p'.q p.b R'):spA q rb rc qb qc p' L R' E where
 a:=by rw[e1];exact h.a
 fr:=⟨λc hc=>by rw[hD,hS];exact h.fr.1 c hc,λc k hc h1 h2=>by rw[hF c k (λe=>h.nw (e▸hc))];exact h.fr.2 c k hc h1 h2⟩
 nw:=by rw[e2];exact h.nw
 l:=h.l.same (by rw[hD];exact h.l.D) (by rw[hS]) (λc=>hF _ _ (h.bn ho))
 r:=by rw[e2];exact hR
 e:=by
  rw[e2,e3];exact h.e.same λh0=>⟨by rw[hD];exact(h.e.D h0).1,by rw[hS],λc=>hF _ _ (h.vn ho h0).2⟩
 dat:=by rw[e2,hF _ _ (h.bq ho)];exact h.dat
theorem spA.wn(ho:spO q rb rc qb qc)(h:spA q rb rc qb qc p L R E)(e1:p'.a=p.a)(e2:p'.b=p.b)(e3:p'.v=p.v)(hD:p'.q.D=p.q.D)(hS:p'.q.S=p.q.S)
  (hF:∀ c k,c≠kb (q.F rb rc)->p'.q.F c k=p.q.F c k) (hL:C5 p'.q (kb (q.F rb rc)) L'):spA q rb rc qb qc p' L' R E where
 a:=by rw[e1];exact h.a
 fr:=⟨λc hc=>by rw[hD,hS];exact h.fr.1 c hc,λc k hc h1 h2=>by rw[hF c k h1];exact h.fr.2 c k hc h1 h2⟩
 nw:=by rw[e2];exact h.nw
 l:=hL
 r:=by rw[e2];exact h.r.same (by rw[hD];exact h.r.D) (by rw[hS]) (λc=>hF _ _ (Ne.symm (h.bn ho)))
 e:=by
  rw[e2,e3];exact h.e.same λh0=>⟨by rw[hD];exact(h.e.D h0).1,by rw[hS],λc=>hF _ _ (h.vn ho h0).1⟩
 dat:=by rw[e2,hF _ _ ho.qn];exact h.dat
theorem spA.at(h:spA q rb rc qb qc p L R E)(e1:p'.a=p.a)(e2:p'.b=p.b)(e3:p'.v=p.v)(e4:p'.q=p.q):spA q rb rc qb qc p' L R E where
 a:=by rw[e1];exact h.a
 fr:=by rw[e4];exact h.fr
 nw:=by rw[e2];exact h.nw
 l:=by rw[e4];exact h.l
 r:=by rw[e2,e4];exact h.r
 e:=by rw[e2,e3,e4];exact h.e
 dat:=by rw[e2,e4];exact h.dat
theorem c3k:rz tys 210 0=.int .i64 0:=by rfl
theorem a5S(ho:spO q rb rc qb qc){l:List En}(h:l.Perm (w7 q (kb (q.F rb rc)))):l.length=17:=h.length_eq.trans ho.2.2.2.1
theorem b7h(ho:spO q rb rc qb qc){b a x:Nat}(ha:a<2)(hb:¬q.D b) :
  b0L q rb rc qb qc ⟨a,x,b,0, .slice none 0 0,⟨I2 q.D b,A8 q.S b 86,j0 (A3 q.F b (rz tys 210)) qb qc (.iface 207 (.pointer (some ⟨b,0,none⟩)))⟩⟩:=by
 have hnb:kb (q.F rb rc)≠b:=λe=>hb (e▸ho.nd.D)
 have hqb:qb≠b:=λe=>hb (e▸ho.qD)
 have hold:∀ c k,q.D c->¬(c=qb/\k=qc)->j0 (A3 q.F b (rz tys 210)) qb qc (.iface 207 (.pointer (some ⟨b,0,none⟩))) c k=q.F c k:=λc k hc h2=>by
  have hne:c≠b:=λe=>hb (e▸hc)
  rw[b8 (by omega)];simp only[A3];rw[if_neg hne]
 have hS:∀ c,q.D c->A8 q.S b 86 c=q.S c:=λc hc=>by
  have hne:c≠b:=λe=>hb (e▸hc)
  simp only[A8];rw[if_neg hne]
 refine⟨w7 q (kb (q.F rb rc)),[],[],⟨ha,⟨λc hc=>⟨.inr hc,hS c hc⟩,λc k hc _ h2=>hold c k hc h2⟩,hb,?_,?_,?_,v9⟩,by simp,Nat.zero_le _,λj e hj=>absurd hj (Nat.not_lt_zero j),by simp⟩
 ·exact ho.nd.same (.inr ho.nd.D) (hS _ ho.nd.D) λc=>hold _ _ ho.nd.D λe=>ho.qn e.1.symm
 ·refine⟨.inl rfl,by simp[A8],?_,by simp,by simp,by simp,by simp⟩;show j0 (A3 q.F b (rz tys 210)) qb qc _ b 0=_;rw[b8 (.inl (Ne.symm hqb))];simp only[A3,if_true];exact c3k
 ·exact⟨.inl rfl,rfl,Nat.le_refl _,λh=>absurd h (Nat.lt_irrefl 0),by simp,by simp,by simp⟩
theorem b8U{i:Nat}(h:spA q rb rc qb qc p L R E)(hp:(L++R++E).Perm (w7 q (kb (q.F rb rc))))(hs:∀ j e,j<p.i->L[j]? = some e->a0D p.a (bxOf q.F rb rc) e)(hg:∀ e∈R,goP p.a (bxOf q.F rb rc) e)
  {e:En} (he:L[p.i]? = some e) (hst:a0D p.a (bxOf q.F rb rc) e) (hi:i=p.i+1):b0L q rb rc qb qc ⟨p.a,p.x,p.b,i,p.v,p.q⟩:=by
 subst hi;refine⟨L,R,E,h.at rfl rfl rfl rfl,hp,(List.getElem?_eq_some_iff.1 he).1,λj x hj hx=>?_,hg⟩;rcases Nat.lt_or_ge j p.i with c|c
 ·exact hs j x c hx
 ·have:j=p.i:=by show j=p.i;have hj:j<p.i+1:=hj;omega
  subst this;rw[he]at hx;cases hx;exact hst
theorem b2b{A B C D:List En}{e:En}(h:(A++B++C).Perm D)(hA:A.Perm (e :: L)):(L++(B++[e])++C).Perm D:=by
 refine List.Perm.trans ?_ h;refine List.Perm.append_right C ?_;refine List.Perm.trans ?_ (List.Perm.append_right B hA).symm;rw[<-List.append_assoc];exact List.perm_append_singleton e (L++B)
theorem b3h{A B C D:List En}{e:En}(h:(A++B++C).Perm D)(hA:A.Perm (e :: L)):(L++B++(C++[e])).Perm D:=by
 refine List.Perm.trans ?_ h;rw[<-List.append_assoc];refine(List.perm_append_singleton e _).trans ?_;rw[List.append_assoc,List.append_assoc];exact(List.Perm.append_right (B++C) hA).symm
theorem b4z(ho:spO q rb rc qb qc){A B C:List En}(hp:(A++B++C).Perm (w7 q (kb (q.F rb rc)))){j:Nat}{e:En}(he:A[j]? = some e):B.length<17/\C.length<17:=by
 have h1:=a5S ho hp;have h2:=(List.getElem?_eq_some_iff.1 he).1;simp only[List.length_append]at h1;omega
theorem b5I(ho:spO q rb rc qb qc)(h:spA q rb rc qb qc p L R E)(hp:(L++R++E).Perm (w7 q (kb (q.F rb rc))))(hs:∀ j e,j<p.i->L[j]? = some e->a0D p.a (bxOf q.F rb rc) e)(hg:∀ e∈R,goP p.a (bxOf q.F rb rc) e)
  {e:En} (he:L[p.i]? = some e) (hst:goP p.a (bxOf q.F rb rc) e) :
  spM q rb rc qb qc ⟨p.a,p.x,p.b,p.i,p.v,⟨p.q.D,p.q.S,j0 (cp5 p.q.F p.b (1+R.length*5) p.q.F (kb (q.F rb rc)) (1+p.i*5)) p.b 0 (.int .i64 (R.length+1:Nat))⟩⟩:=by
 have hb:=h.l.B _ _ he;have hv:=h.l.v _ _ he;rw[Nat.mul_comm]at hb hv;refine⟨L,R++[e],E,h.wb ho rfl rfl rfl rfl rfl (λc k hc=>?_) ?_,b2b hp (a5D he),(List.getElem?_eq_some_iff.1 he).1,hs,λx hx=>?_⟩
 ·show j0 _ _ _ _ _ _=_;rw[b8 (.inl hc),M7 (.inl hc)]
 ·exact h.r.cpush (b4z ho hp he).1 hv (h.l.o _ _ he) hb h.r.D rfl (λ_=>rfl)
 ·rcases List.mem_append.1 hx with hx|hx
  ·exact hg x hx
  ·simp at hx;subst hx;exact hst
theorem b4F(ho:spO q rb rc qb qc)(h:spA q rb rc qb qc p L R E)(hp:(L++R++E).Perm (w7 q (kb (q.F rb rc))))(hs:∀ j e,j<p.i->L[j]? = some e->a0D p.a (bxOf q.F rb rc) e)(hg:∀ e∈R,goP p.a (bxOf q.F rb rc) e)
  {e:En} (he:L[p.i]? = some e) {i:ApI} (hap:L9 p.q.D p.q.S p.q.F 5 (slB p.v) (slC p.v) (slL p.v) (slK p.v) 1 [p.q.F (kb (q.F rb rc)) (1+p.i*5),p.q.F (kb (q.F rb rc)) (1+p.i*5+1),p.q.F (kb (q.F rb rc)) (1+p.i*5+1+1),p.q.F (kb (q.F rb rc)) (1+p.i*5+1+1+1),p.q.F (kb (q.F rb rc)) (1+p.i*5+1+1+1+1)] i) :
  spM q rb rc qb qc ⟨p.a,p.x,p.b,p.i, .slice (some ⟨i.b,i.c,none⟩) (slL p.v+1) i.k,⟨i.D,i.S,i.F⟩⟩:=by
 have hb:=h.l.B _ _ he;have hv:=h.l.v _ _ he;rw[Nat.mul_comm]at hb hv;have keep:∀ c,p.q.D c->(0<slK p.v->c≠slB p.v)->i.D c/\i.S c=p.q.S c/\∀ y,i.F c y=p.q.F c y:=λc hc hne=>a7n hap hc λhr=>hne (by omega)
 have hq:∀ c,q.D c->i.D c/\i.S c=p.q.S c/\∀ y,i.F c y=p.q.F c y:=λc hc=>keep c (h.fr.1 c hc).1 λh0 e=>(h.e.D h0).2.2.1 (e▸hc)
 refine⟨L,R,E++[e],⟨h.a,⟨λc hc=>⟨(hq c hc).1,(hq c hc).2.1.trans (h.fr.1 c hc).2⟩,λc k hc h1 h2=>((hq c hc).2.2 k).trans (h.fr.2 c k hc h1 h2)⟩,h.nw,?_,?_,?_,?_⟩,b3h hp (a5D he),(List.getElem?_eq_some_iff.1 he).1,hs,hg⟩
 ·have:=hq _ ho.nd.D;exact h.l.same this.1 this.2.1 this.2.2
 ·have:=keep p.b h.r.D λh0 e=>(h.vn ho h0).2 e.symm
  exact h.r.same this.1 this.2.1 this.2.2
 ·exact h.e.app (λc hc=>(h.fr.1 c hc).1) h.r.D hv (h.l.o _ _ he) hb hap
 ·exact((hq _ ho.qD).2.2 _).trans h.dat
theorem b8F(ho:spO q rb rc qb qc)(h:spA q rb rc qb qc p L R E)(hp:(a1A L p.i++R++E).Perm (w7 q (kb (q.F rb rc))))(hi:p.i<L.length)(hs:∀ j e,j<p.i->L[j]? = some e->a0D p.a (bxOf q.F rb rc) e)(hg:∀ e∈R,goP p.a (bxOf q.F rb rc) e)(v:Value) :
  b0L q rb rc qb qc ⟨p.a,p.x,p.b,p.i,p.v,⟨p.q.D,p.q.S,j0 (j0 (cp5 p.q.F (kb (q.F rb rc)) (1+p.i*5) p.q.F (kb (q.F rb rc)) (1+(L.length-1)*5)) (kb (q.F rb rc)) (1+(L.length-1)*5) v) (kb (q.F rb rc)) 0 (.int .i64 (L.length-1:Nat))⟩⟩:=by
 refine⟨a1A L p.i,R,E,h.wn ho rfl rfl rfl rfl rfl (λc k hc=>?_) (h.l.swap hi v h.l.D rfl λ_=>rfl),hp,?_,λj e hj he=>?_,hg⟩
 ·show j0 _ _ _ _ _ _=_;rw[b8 (.inl hc),b8 (.inl hc),M7 (.inl hc)]
 ·show p.i<=_;rw[a3l hi];omega
 ·have hj:j<p.i:=hj;rw[a8l hi (by omega),if_neg (by omega)]at he;exact hs j e hj he
theorem b4H(ho:spO q rb rc qb qc)(h:spA q rb rc qb qc p L R E)(hp:(L++R++E).Perm (w7 q (kb (q.F rb rc))))(hi:p.i=L.length)(hs:∀ j e,j<p.i->L[j]? = some e->a0D p.a (bxOf q.F rb rc) e)(hg:∀ e∈R,goP p.a (bxOf q.F rb rc) e) :
  sp2 q rb rc qb qc ⟨p.a,p.x,p.b,0,p.v,p.q⟩:=by
 have hne:w7 q (kb (q.F rb rc))≠[]:=λe=>by have:=ho.2.2.2.1;rw[e]at this;simp at this
 obtain⟨t1,t2⟩:=ho.2.2.1;obtain⟨⟨a1,m1,e1⟩,⟨a2,m2,e2⟩,⟨a3,m3,e3⟩,⟨a4,m4,e4⟩⟩:=t2 (by simpa using hne)
 have hloE:∃ e∈w7 q (kb (q.F rb rc)),e.B.lo p.a=(bxOf q.F rb rc).lo p.a:=by
  have:=h.a;rcases (by omega:p.a=0∨p.a=1)with c|c <;> rw[c]
  ·obtain⟨e,he,rfl⟩:=List.mem_map.1 m1;exact⟨e,he,e1⟩
  ·obtain⟨e,he,rfl⟩:=List.mem_map.1 m2;exact⟨e,he,e2⟩
 have hhiE:∃ e∈w7 q (kb (q.F rb rc)),e.B.hi p.a=(bxOf q.F rb rc).hi p.a:=by
  have:=h.a;rcases (by omega:p.a=0∨p.a=1)with c|c <;> rw[c]
  ·obtain⟨e,he,rfl⟩:=List.mem_map.1 m3;exact⟨e,he,e3⟩
  ·obtain⟨e,he,rfl⟩:=List.mem_map.1 m4;exact⟨e,he,e4⟩
 have hin:∀ e∈w7 q (kb (q.F rb rc)),(bxOf q.F rb rc).lo p.a<=e.B.lo p.a/\e.B.hi p.a<=(bxOf q.F rb rc).hi p.a:=λe he=>by
  have h1:=t1 e.B (List.mem_map.2 ⟨e,he,rfl⟩);obtain⟨k1,k2,k3,k4⟩:=h1;have:=h.a;rcases (by omega:p.a=0∨p.a=1)with c|c <;> rw[c]
  ·exact⟨k1,k3⟩
  ·exact⟨k2,k4⟩
 have hlen:=a5S ho hp;simp only[List.length_append]at hlen;refine⟨L,R,E,h.at rfl rfl rfl rfl,by simpa using hp,⟨Nat.zero_le _,by omega⟩,λhL=>?_,λhR=>?_⟩
 ·obtain⟨e,he,h1⟩:=hloE;intro hE;have hm:=hp.mem_iff.2 he;have hE:E=[]:=by simpa using hE
  rw[hL,hE]at hm;have hm:e∈R:=by simpa using hm
  have h2:=hg e hm;have h3:=(hin e he).2;unfold goP at h2;omega
 ·obtain⟨e,he,h1⟩:=hhiE;intro hE;have hm:=hp.mem_iff.2 he;have hE:E=[]:=by simpa using hE
  rw[hR,hE]at hm;have hm:e∈L:=by simpa using hm
  obtain⟨j,hj,h4⟩:=List.getElem_of_mem hm;have h2:=hs j e (by omega) (by rw[List.getElem?_eq_getElem hj,h4]);have h3:=(hin e he).1;unfold a0D at h2;omega
theorem a3T{i:Nat}{e:En}(he:E[i]? = some e):E.drop i=e :: E.drop (i+1):=by
 obtain⟨h1,rfl⟩:=List.getElem?_eq_some_iff.1 he;exact List.drop_eq_getElem_cons h1
theorem b9c(ho:spO q rb rc qb qc)(h:spA q rb rc qb qc p L R E)(hp:(L++R++E.drop p.i).Perm (w7 q (kb (q.F rb rc)))){e:En}(he:E[p.i]? = some e)(hE:E.length<=17)(hlt:L.length<R.length){i:Nat}(hi:i=p.i+1) :
  sp2 q rb rc qb qc ⟨p.a,p.x,p.b,i,p.v,⟨p.q.D,p.q.S,j0 (cp5 p.q.F (kb (q.F rb rc)) (1+L.length*5) p.q.F (slB p.v) (slC p.v+p.i*5)) (kb (q.F rb rc)) 0 (.int .i64 (L.length+1:Nat))⟩⟩:=by
 subst hi;have hb:=h.e.B _ _ he;have hv:=h.e.c _ _ he;rw[Nat.mul_comm]at hb hv;have hl:=a5S ho hp;rw[a3T he]at hp hl;simp only[List.length_append,List.length_cons]at hl;refine⟨L++[e],R,E,h.wn ho rfl rfl rfl rfl rfl (λc k hc=>?_) (h.l.cpush (by omega) hv (h.e.o _ _ he) hb h.l.D rfl λ_=>rfl),?_,⟨(List.getElem?_eq_some_iff.1 he).1,hE⟩,λhn=>by simp at hn,λhn=>?_⟩
 ·show j0 _ _ _ _ _ _=_;rw[b8 (.inl hc),M7 (.inl hc)]
 ·refine List.Perm.trans ?_ hp;show (L++[e]++R++E.drop (p.i+1)).Perm _;refine List.Perm.trans ?_ List.perm_middle.symm;rw[List.append_assoc,List.append_assoc];refine List.perm_middle.trans ?_;rw[List.append_assoc];exact List.Perm.refl _
 ·rw[hn]at hlt;simp at hlt
theorem b5O(ho:spO q rb rc qb qc)(h:spA q rb rc qb qc p L R E)(hp:(L++R++E.drop p.i).Perm (w7 q (kb (q.F rb rc)))){e:En}(he:E[p.i]? = some e)(hE:E.length<=17)(hlt:¬L.length<R.length){i:Nat}(hi:i=p.i+1) :
  sp2 q rb rc qb qc ⟨p.a,p.x,p.b,i,p.v,⟨p.q.D,p.q.S,j0 (cp5 p.q.F p.b (1+R.length*5) p.q.F (slB p.v) (slC p.v+p.i*5)) p.b 0 (.int .i64 (R.length+1:Nat))⟩⟩:=by
 subst hi;have hb:=h.e.B _ _ he;have hv:=h.e.c _ _ he;rw[Nat.mul_comm]at hb hv;have hl:=a5S ho hp;rw[a3T he]at hp hl;simp only[List.length_append,List.length_cons]at hl;refine⟨L,R++[e],E,h.wb ho rfl rfl rfl rfl rfl (λc k hc=>?_) (h.r.cpush (by omega) hv (h.e.o _ _ he) hb h.r.D rfl λ_=>rfl),?_,⟨(List.getElem?_eq_some_iff.1 he).1,hE⟩,λhn hd=>?_,λhn=>by simp at hn⟩
 ·show j0 _ _ _ _ _ _=_;rw[b8 (.inl hc),M7 (.inl hc)]
 ·refine List.Perm.trans ?_ hp;show (L++(R++[e])++E.drop (p.i+1)).Perm _;rw[<-List.append_assoc,List.append_assoc];exact List.Perm.refl _
 ·have hd:E.drop (p.i+1)=[]:=hd;rw[hd]at hl;rw[hn]at hl hlt;simp at hl hlt;rw[hlt]at hl;simp at hl
theorem c5F(ho:spO q rb rc qb qc)(h:spA q rb rc qb qc p L R E)(hp:(L++R++E.drop p.i).Perm (w7 q (kb (q.F rb rc))))(hi:p.i=E.length)(hL:L=[]->E.drop p.i≠[])(hR:R=[]->E.drop p.i≠[]) :
  hangs p.q rb rc/\w7 p.q (kb (p.q.F rb rc))≠[]/\∀ q1,rcP p.q rb rc (kb (p.q.F rb rc)) (w7 p.q (kb (p.q.F rb rc))).length q1->hangs q1 qb qc/\w7 q1 (kb (q1.F qb qc))≠[]/\
   ∀ q2,rcP q1 qb qc (kb (q1.F qb qc)) (w7 q1 (kb (q1.F qb qc))).length q2->spP q rb rc qb qc q2:=by
 have hd:E.drop p.i=[]:=by rw[hi];exact List.drop_length
 rw[hd]at hp hL hR;have hL:L≠[]:=λe=>hL e rfl
 have hR:R≠[]:=λe=>hR e rfl
 obtain⟨x1,x2,x3,x4⟩:=h.box ho;have hap:=ho.2.2.2.2.2.2;have hne:=ho.ne;have hbn:=h.bn ho;have hbq:=h.bq ho;have hbr:=h.br ho;have hrr:p.q.F rb rc=q.F rb rc:=h.fr.2 rb rc ho.2.1.1 (Ne.symm hne) (λe=>by unfold apart at hap;omega);rw[hrr,h.l.of];refine⟨⟨x1,x2,by rw[hrr];exact ho.1.2.2.1,by rw[hrr];exact hne,by rw[hrr,h.l.of];exact h.l⟩,hL,?_⟩;rintro q1 ⟨hs1,B1,hB1,ht1⟩;rw[h.l.of,List.take_length]at ht1;have hqq:q1.F qb qc=.iface 207 (.pointer (some ⟨p.b,0,none⟩)):=(hs1.2.2 qb qc (by unfold rW;unfold apart at hap;omega)).trans h.dat;have hk:kb (q1.F qb qc)=p.b:=by rw[hqq];rfl
 have hr1:C5 q1 p.b R:=h.r.same (by rw[hs1.1];exact h.r.D) (by rw[hs1.2.1]) λc=>hs1.2.2 _ _ (by unfold rW;omega)
 rw[hk,hr1.of];have hfq:=h.fr.1 qb ho.qD;refine⟨⟨by rw[hs1.1];exact hfq.1,by rw[hs1.2.1,hfq.2];exact ho.2.2.2.2.1.2,by rw[hqq];rfl,by rw[hk];omega,by rw[hk,hr1.of];exact hr1⟩,hR,?_⟩;rintro q2 ⟨hs2,B2,hB2,ht2⟩;rw[hr1.of,List.take_length]at ht2;have hl1:C5 q1 (kb (q.F rb rc)) L:=h.l.same (by rw[hs1.1];exact h.l.D) (by rw[hs1.2.1]) λc=>hs1.2.2 _ _ (by unfold rW;omega)
 refine⟨p.b,L,R,B1,B2,h.nw,by simpa using hp,hL,hR,hl1.same (by rw[hs2.1];exact hl1.D) (by rw[hs2.2.1]) λc=>hs2.2.2 _ _ (by have:=ho.qn;unfold rW;omega),
  hr1.same (by rw[hs2.1];exact hr1.D) (by rw[hs2.2.1]) λc=>hs2.2.2 _ _ (by unfold rW;omega),?_,?_,ht1,hB2,ht2,λc hc=>?_,λc k hc h1 h2=>?_⟩
 ·rw[hs2.2.2 qb qc (by unfold rW;omega)];exact hqq
 ·have hk:∀ k,1<=k->k<5->q2.F rb (rc+k)=q1.F rb (rc+k):=λk k1 k2=>hs2.2.2 _ _ (by unfold rW;unfold apart at hap;omega)
  obtain⟨b1,b2,b3,b4⟩:=hB1;exact⟨by rw[hk 1 (by omega) (by omega)];exact b1,by rw[hk 2 (by omega) (by omega)];exact b2,by rw[hk 3 (by omega) (by omega)];exact b3,by rw[hk 4 (by omega) (by omega)];exact b4⟩
 ·rw[hs2.1,hs1.1,hs2.2.1,hs1.2.1];exact h.fr.1 c hc
 ·unfold rW at h2;rw[hs2.2.2 c k (by unfold rW;omega),hs1.2.2 c k (by unfold rW;omega)];exact h.fr.2 c k hc h1 (by omega)
end
end Go.Proofs.Tryz.Sx
