/- Parts of a proof, in order: what each says stands at its head. No conditions. -/
import Derived.Test.YtfhkmkhcofodmaaGreatProg
import Derived.KernelRfl
import Derived.Laws.FloatArith
import Derived.Test.YtfhkmkhcofodmaaGreatM2
import Derived.Test.YtfhkmkhcofodmaaGreatM1
namespace Go.Sx
open Go.RowKit
def Wp(P:Program)(N0:Nat)(c:Code)(S:St)(K:Xt->St->Prop):Prop :=
 ∀(W0:World)(Fr:Nat->Prop)(ρ0 ρ:Rho)(a:Act)(w:World)(Q:Exit->Act->World->Prop),Sat W0 Fr S ρ a w->N0<=S.N->(∀ n,n<N0->ρ n=ρ0 n)->b5C W0 Fr N0 ρ0 K Q->c.wp P Q a w
section
variable {P:Program} {G:Ctx} {N0:Nat} {S:St} {K:Xt->St->Prop}
theorem Wp.run(hG:B7 P G){c:Code}(h:a0G G N0 c S K):Wp P N0 c S K :=
 λ_ _ _ _ _ _ _ hS hN hρ hK=>a6k hG c h hS hN hρ hK
theorem Wp.mono{c:Code}{K':Xt->St->Prop}(h:Wp P N0 c S K)(hk:∀ e S',K e S'->K' e S'):Wp P N0 c S K' :=
 λW0 Fr ρ0 ρ a w Q hS hN hρ hK=>h W0 Fr ρ0 ρ a w Q hS hN hρ λe S' ρ' a' w' h'=>hK e S' ρ' a' w' (hk e S' h')
theorem Wp.seq{x y:Code}{K1:Xt->St->Prop}(h:Wp P N0 x S K1)(hn:∀ S',K1 .normal S'->Wp P N0 y S' K)(hx:∀ id S',K1 (.exit id) S'->K (.exit id) S')(hr:∀ S',K1 .ret S'->K .ret S'):Wp P N0 (.seq x y) S K:=by
 intro W0 Fr ρ0 ρ a w Q hS hN hρ hK;refine wp_seq (h W0 Fr ρ0 ρ a w _ hS hN hρ λe S' ρ' a' w' h' hS' hN' hρ'=>?_)
 cases e with
 | normal=>exact hn S' h' W0 Fr ρ0 ρ' a' w' Q hS' hN' hρ' hK
 | exit id=>exact hK (.exit id) S' ρ' a' w' (hx id S' h') hS' hN' hρ'
 | ret=>exact hK .ret S' ρ' a' w' (hr S' h') hS' hN' hρ'
theorem Wp.block{id:Nat}{x:Code}(h:Wp P N0 x S (λe S'=>match e with
  | .exit j=>match Nat.beq j id with
   | true=>K .normal S'
   | false=>K (.exit j) S'
  | e=>K e S')):Wp P N0 (.block id x) S K:=by
 intro W0 Fr ρ0 ρ a w Q hS hN hρ hK;refine wp_block (h W0 Fr ρ0 ρ a w _ hS hN hρ λe S' ρ' a' w' h' hS' hN' hρ'=>?_)
 cases e with
 | normal=>exact hK .normal S' ρ' a' w' h' hS' hN' hρ'
 | ret=>exact hK .ret S' ρ' a' w' h' hS' hN' hρ'
 | exit j =>
  simp only at h';simp only[Exit.inBlock];split at h'
  ·rename_i hj;rw[if_pos (eB9 hj)];exact hK .normal S' ρ' a' w' h' hS' hN' hρ'
  ·rename_i hj;rw[if_neg (λe=>by subst e;simp at hj)];exact hK (.exit j) S' ρ' a' w' h' hS' hN' hρ'
theorem Wp.loop{x:Code}{ι:Type}(I:ι->St)(μ:ι->Nat)(i0:ι)(h0:B4 N0 S (I i0))
  (hr:∀ i,Wp P N0 x (I i) (λe S'=>match e with
   | .normal=>∃ i',μ i'<μ i/\B4 N0 S' (I i')
   | e=>K e S')):Wp P N0 (.loop x) S K:=by
 intro W0 Fr ρ0 ρ a w Q hS hN hρ hK
 have a6I:∀ {S1:St} {i:ι},B4 N0 S1 (I i)->∀ {ρ1 a1 w1},Sat W0 Fr S1 ρ1 a1 w1->(∀ n,n<N0->ρ1 n=ρ0 n)->
   ∃ ρ',Sat W0 Fr (I i) ρ' a1 w1/\N0<=(I i).N/\∀ n,n<N0->ρ' n=ρ0 n:=by
  intro S1 i hR ρ1 a1 w1 hS1 hρ1;obtain⟨ρ',h1,h2⟩:=hR.2 W0 Fr ρ1 a1 w1 hS1;exact⟨ρ',h1,hR.1,λn hn=>(h2 n hn).trans (hρ1 n hn)⟩
 refine Z7 (λi a w=>∃ ρ',Sat W0 Fr (I i) ρ' a w/\N0<=(I i).N/\∀ n,n<N0->ρ' n=ρ0 n) μ ?_ (a6I h0 hS hρ);rintro i a1 w1 ⟨ρ1,hS1,hN1,hρ1⟩;refine hr i W0 Fr ρ0 ρ1 a1 w1 _ hS1 hN1 hρ1 λe S' ρ' a' w' h' hS' hN' hρ'=>?_
 cases e with
 | normal =>
  obtain⟨i',hlt,hR⟩:=h';exact⟨i',a6I hR hS' hρ',hlt⟩
 | exit id=>exact hK (.exit id) S' ρ' a' w' h' hS' hN' hρ'
 | ret=>exact hK .ret S' ρ' a' w' h' hS' hN' hρ'
def b2Y(t:Nat):Slots->Bool
 | []=>false
 | (m,_) :: r=>Nat.beq m t||b2Y t r
def a2l:Slots->Slots->Bool
 | [],_=>true
 | (t,_) :: r,s => !b2Y t s&&a2l r s
def b9k(t:Nat):A1->Bool
 | []=>false
 | (m,_) :: r=>Nat.beq m t||b9k t r
def a3L:A1->A1->Bool
 | [],_=>true
 | (t,_) :: r,s => !b9k t s&&a3L r s
structure b7L (S S':St):Prop where
 nt:S'.nt=S.nt
 sl:S'.sl.drop (S'.sl.length-S.sl.length)=S.sl
 ks:a2l (S'.sl.take (S'.sl.length-S.sl.length)) S.sl=true
 hp:S'.H.drop (S'.H.length-S.H.length)=S.H
 kh:a3L (S'.H.take (S'.H.length-S.H.length)) S.H=true
theorem a8o{t:Nat}:∀ {s:Slots},b2Y t s=false->slot s t=none
 | [],_=>rfl
 | (m,v) :: r,h=>by
  simp only[b2Y,Bool.or_eq_false_iff]at h;rw[F7,if_neg (λe=>by subst e;simp at h),a8o h.2]
theorem a8z{s:Slots}:∀ {p:Slots},a2l p s=true->∀ t v,slot s t=some v->slot (p++s) t=some v
 | [],_,_,_,h=>h
 | (m,u) :: r,h,t,v,hv=>by
  simp only[a2l,bA9,Bool.not_eq_true']at h;have hm:m≠t:=λe=>by subst e;rw[a8o h.1]at hv;cases hv
  rw[List.cons_append,F7,if_neg hm];exact a8z h.2 t v hv
theorem a7G{t:Nat}:∀ {s:A1},b9k t s=false->look s t=none
 | [],_=>rfl
 | (m,v) :: r,h=>by
  simp only[b9k,Bool.or_eq_false_iff]at h;rw[g8,if_neg (λe=>by subst e;simp at h),a7G h.2]
theorem b0T{s:A1}:∀ {p:A1},a3L p s=true->∀ t v,look s t=some v->look (p++s) t=some v
 | [],_,_,_,h=>h
 | (m,u) :: r,h,t,v,hv=>by
  simp only[a3L,bA9,Bool.not_eq_true']at h;have hm:m≠t:=λe=>by subst e;rw[a7G h.1]at hv;cases hv
  rw[List.cons_append,g8,if_neg hm];exact b0T h.2 t v hv
theorem b7L.slot{S':St}(h:b7L S S'){t:Nat}{v:SV}(hv:slot S.sl t=some v):Sx.slot S'.sl t=some v:=by
 have:=a8z h.ks t v hv;rw[<-List.take_append_drop (S'.sl.length-S.sl.length) S'.sl,h.sl];exact this
theorem b7L.look{S':St}(h:b7L S S'){n:Nm}{o:Ob}(hv:Sx.look S.H n=some o):Sx.look S'.H n=some o:=by
 have:=b0T h.kh n o hv;rw[<-List.take_append_drop (S'.H.length-S.H.length) S'.H,h.hp];exact this
theorem Wp.keep{x y:Code}(Φ:Prop)(h:Wp P S.N x S (λe S'=>match e with
   | .normal=>Φ/\b7L S S'
   | e=>K e S'))
  (hy:Φ->Wp P N0 y S K):Wp P N0 (.seq x y) S K:=by
 intro W0 Fr ρ0 ρ a w Q hS hN hρ hK;refine wp_seq (h W0 Fr ρ ρ a w _ hS (Nat.le_refl _) (λ_ _=>rfl) λe S' ρ' a' w' h' hS' hN' hρ'=>?_);have hρ0:∀ n,n<N0->ρ' n=ρ0 n:=λn hn=>(hρ' n (Nat.lt_of_lt_of_le hn hN)).trans (hρ n hn)
 cases e with
 | normal =>
  obtain⟨hΦ,hk⟩:=h';refine hy hΦ W0 Fr ρ0 ρ' a' w' Q ⟨?_,?_⟩ hN hρ0 hK
  ·exact {
    os:=hS'.h.os,tape:=hS'.h.tape,output:=hS'.h.output,size:=hS'.h.size,frlt:=hS'.h.frlt,frame:=hS'.h.frame
    used:=hS.h.used
    bd:=hS.h.bd
    obj:=λn o hn=>hS'.h.obj n o (hk.look hn)
    inj:=λn m o o' p q hn hm=>hS'.h.inj n m o o' p q (hk.look hn) (hk.look hm)
    free:=λn o p hn=>hS'.h.free n o p (hk.look hn)
    rawd:=λn o ts D sz F hn hr hc =>
     have k:=hS'.h.rawd n o ts D sz F (hk.look hn) hr hc
     ⟨k.sat,k.free,λm o' q hm=>k.sep m o' q (hk.look hm),λm o' ts' D' sz' F' hm=>k.sepr m o' ts' D' sz' F' (hk.look hm)⟩}
  ·exact {
    nd:=hS'.s.nd
    size:=by rw[hS'.s.size,hk.nt]
    bd:=hS.s.bd
    val:=λt v hv=>hS'.s.val t v (hk.slot hv)}
 | exit id=>exact hK (.exit id) S' ρ' a' w' h' hS' (Nat.le_trans hN hN') hρ0
 | ret=>exact hK .ret S' ρ' a' w' h' hS' (Nat.le_trans hN hN') hρ0
end
theorem a5B {P:Program} {G:Ctx} (hG:B7 P G) {f:Nat} {fn:Func} {c:Code} (hf:P.funcs[f]? = some fn) (hb:fn.body=some c) (hnm:(fn.name == "runtime.NumGoroutine")=false) {F:PF}
  (h:∀ args v p,F args=some (v,p)->okP p->v.closed=true/\F0 args=true/\Nat.ble args.length fn.ntmps=true/\
   Wp P 0 c (A6 fn.ntmps args [] 0) (A8 G.E.T fn.results.toList λ_ v'=>eqv v' v)):E8 P f F:=by
 intro args v p hF hp;obtain⟨h1,h2,h3,h4⟩:=h args v p hF hp;refine⟨h1,λρ w=>.inl ⟨⟨fn,hf,hnm,by rw[hb];rfl⟩,?_⟩⟩;refine calls_of_wp hf hb ?_
 have hH:HSat w (·< w.heap.size) (·< 0) [] ρ w :=
  {os:=rfl,tape:=rfl,output:=rfl,size:=Nat.le_refl _,frlt:=λ_ h=>h,frame:=λ_ _=>rfl
   used:=λn o hn=>by simp[look]at hn
   bd:=λn o hn=>by simp[look]at hn
   obj:=λn o hn=>by simp[look]at hn
   inj:=λn m o o' p q hn=>by simp[look]at hn
   free:=λn o p hn=>by simp[look]at hn
   rawd:=λn o ts D sz F hn=>by simp[look]at hn}
 refine h4 w (·< w.heap.size) ρ ρ _ w _ (a6P hH (I1 _ _ h2) (Nat.le_of_ble_eq_true h3)) (Nat.zero_le _) (λ_ _=>rfl) ?_;intro e S' ρ' a' w' hK hS hN hρ
 have fin:a7m G.E.T fn.results.toList (λ_ v'=>eqv v' v) S'->a'.defers=[]/\∃ u,(results fn a'.tmps).run P w'=.ok u w'/\(Ending.returned u=.returned (v.den ρ)/\Below w.heap.size w w'):=by
  intro hr;unfold a7m at hr;split at hr
  ·rename_i vs q hvs;obtain⟨hq,he⟩:=U7 hr;obtain⟨h5,h6⟩:=a2N hG.E.T hS hvs hq;refine⟨hS.s.nd,_,h5,?_,⟨hS.h.os,hS.h.tape,hS.h.output,hS.h.size,λk hk=>hS.h.frame k hk⟩⟩;rw[a5h ρ' _ _ he,SV.den_closed ρ ρ' h1]
  ·exact hr.elim
 cases e with
 | normal=>exact fin hK
 | ret=>exact fin hK
 | exit id=>exact hK.elim
theorem a2d {P:Program} {f:Nat} {fn:Func} {e:Array Value->Sem Value} (hf:P.funcs[f]? = some fn) (hb:fn.body.isNone=true) (hnm:(fn.name == "runtime.NumGoroutine")=false) (h1:Extern.findNext fn=none) (h2:Extern.find fn=some e) {F:PF}
  (h:∀ args v p,F args=some (v,p)->okP p->v.closed=true/\∀ (ρ:Rho) (w:World),(e (p8 ρ args).toArray).run P w=.ok (v.den ρ) w):E8 P f F:=by
 intro args v p hF hp;obtain⟨h3,h4⟩:=h args v p hF hp;refine⟨h3,λρ w=>.inr ⟨v.den ρ,w,?_,rfl,Below.refl _ _⟩⟩;simp only[callFunc,Sem.run_bind,run_program,Result.andThen_ok,hf,hnm,hb,Bool.false_eq_true,if_false,if_true,run_mark,h1,h2,h4,Sem.run_pure]
def a2O(X:F3)(o:Oper)(S:St)(K:St->Prop):Prop :=
 match a2w S o.dst with
 | true=>match b0k X o.op with
  | some R=>∀ i,match R.ev i (opr S.sl) (look S.H) S.N with
   | some (e,p)=>okK e.obl (p->K (S.app o.dst e))
   | none=>False
  | none=>match c2X S o.op with
   | some (k,a,b)=>∀ r,D4 k a b r->K (S.app o.dst (Eff.pure (.flt k r)))
   | none=>match evX X (opr S.sl) (look S.H) S.N o.op with
    | some e=>okK e.obl (K (S.app o.dst e))
    | none=>False
 | false=>False
def b2C(X:F3)(ops:List Oper)(o:Oper)(S:St)(K:St->Prop):Prop :=
 match o.guard with
 | none=>a2O X o S K
 | some (j,want)=>match a4Z ops j with
  | none=>False
  | some d=>match slot S.sl d with
   | some .tt=>match want with
    | true=>a2O X o S K
    | false=>a1a o S K
   | some .ff=>match want with
    | true=>a1a o S K
    | false=>a2O X o S K
   | some (.tup [])=>a1a o S K
   | some (.bool b) =>
    (b=true->match want with
     | true=>a2O X o (S9 S d .tt) K
     | false=>a1a o (S9 S d .tt) K)/\
    (b=false->match want with
     | true=>a1a o (S9 S d .ff) K
     | false=>a2O X o (S9 S d .ff) K)
   | _=>False
def a9f(X:F3)(ops:List Oper):List Oper->St->(St->Prop)->Prop
 | [],S,K=>K S
 | o :: r,S,K=>b2C X ops o S (λS'=>a9f X ops r S' K)
section
variable {P:Program} {W0:World} {Fr:Nat->Prop} {X:F3} {S:St} {ρ:Rho} {a:Act} {w:World}
theorem a7v{N0:Nat}{ρ0:Rho}{o:Oper}{K:St->Prop}{e:Eff}(hd:a2w S o.dst=true)(hS:Sat W0 Fr S ρ a w)(hN:N0<=S.N)(hρ:∀ n,n<N0->ρ n=ρ0 n){next:Act->World->Prop}(hK:a1v W0 Fr N0 ρ0 K next)
  (h2:K (S.app o.dst e)) {ρ':Rho} {w':World} (hr:∀ n,n<S.N->ρ' n=ρ n) (hH:HSat W0 Fr (UU (·< S.N) S.N) (e.wr++(e.news++S.H)) ρ' w') :
  match e.val with
  | some v=>v.bd (UU (·< S.N) S.N)->next (a.put o.dst (v.den ρ')) w'
  | none=>next (a.put o.dst undef) w':=by
 have hU:∀ n,UU (·< S.N) S.N n->n<S.N+24:=by
  intro n hn;rcases hn with hn|hn
  ·exact Nat.lt_of_lt_of_le hn (Nat.le_add_right _ _)
  ·exact hn.2
 have hH':=hH.mono (U':=(·< S.N+24)) hU;have hs':=hS.s.mono (U':=(·< S.N+24)) (λn hn=>Nat.lt_of_lt_of_le hn (Nat.le_add_right _ _)) hr;have hρ':∀ n,n<N0->ρ' n=ρ0 n:=λn hn=>(hr n (Nat.lt_of_lt_of_le hn hN)).trans (hρ n hn)
 have hN':N0<=S.N+24:=Nat.le_trans hN (Nat.le_add_right _ _);split
 ·rename_i v hv;intro hb;refine hK (S.app o.dst e) ρ' _ _ h2 ⟨hH',?_⟩ hN' hρ'
  cases hdst:o.dst with
  | none=>simpa [St.app,Act.put]using hs'
  | some d =>
   have hd':d<S.nt:=by rw[hdst]at hd;simpa [a2w]using hd
   simp only[St.app,hv];exact hs'.put hd' (SV.bd_mono hU v hb)
 ·rename_i hv;refine hK (S.app o.dst e) ρ' _ _ h2 ⟨hH',?_⟩ hN' hρ'
  cases hdst:o.dst with
  | none=>simpa [St.app,Act.put]using hs'
  | some d =>
   have hd':d<S.nt:=by rw[hdst]at hd;simpa [a2w]using hd
   simp only[St.app,hv];exact hs'.put (v:=.tup []) hd' (by simp[SV.bd,bdL])
theorem Q3(hX:A7 P X){N0:Nat}{ρ0:Rho}{o:Oper}{K:St->Prop}(h:a2O X o S K)(hS:Sat W0 Fr S ρ a w)(hN:N0<=S.N)(hρ:∀ n,n<N0->ρ n=ρ0 n)
  {next:Act->World->Prop} {Q:Exit->Act->World->Prop} (hK:a1v W0 Fr N0 ρ0 K next):o.wp P a w next Q:=by
 unfold a2O at h;split at h
 ·rename_i hd;split at h
  ·rename_i R hR
   have each:∀ i,∃ e p,R.ev i (opr S.sl) (look S.H) S.N=some (e,p)/\okP e.obl/\(p->K (S.app o.dst e)):=by
    intro i;have:=h i;split at this
    ·rename_i e p he;obtain⟨h1,h2⟩:=U7 this;exact⟨e,p,he,h1,h2⟩
    ·exact this.elim
   refine(b0w hX hR).sound (nm:=S.N) rfl hS.h (λj _=>by simp) (λx v hx=>H6 hS.s hx) (λi=>?_) λi e p ρ' w' h1 h2 hr hH=>?_
   ·obtain⟨e,p,h1,h2,_⟩:=each i;exact⟨e,p,h1,h2⟩
   ·obtain⟨e',p',h3,_,h4⟩:=each i;rw[h1]at h3;simp only[oI9,pI9]at h3;obtain⟨rfl,rfl⟩:=h3;exact a7v hd hS hN hρ hK (h4 h2) hr hH
  ·split at h
   ·rename_i k x y hq;exact O0 hX.G (o:=o) (K:=K) (by unfold a4D;rw[hd,hq];exact h) hS hN hρ hK
   ·split at h
    ·rename_i e he;obtain⟨h1,h2⟩:=U7 h;exact a8u hX hS.h (λj _=>by simp) (λx v hx=>H6 hS.s hx) (λc v hc=>a2q hc ρ) he h1 (λρ' w' hr hH=>a7v hd hS hN hρ hK h2 hr hH)
    ·exact h.elim
 ·exact h.elim
theorem a8F(hX:A7 P X){N0:Nat}{ρ0:Rho}{ops:List Oper}{o:Oper}{K:St->Prop}(h:b2C X ops o S K)(hS:Sat W0 Fr S ρ a w)(hN:N0<=S.N)(hρ:∀ n,n<N0->ρ n=ρ0 n)
  {next:Act->World->Prop} {Q:Exit->Act->World->Prop} (hK:a1v W0 Fr N0 ρ0 K next):a7r P ops.toArray o a w next Q:=by
 unfold b2C at h;unfold a7r;split at h
 ·rename_i hg;rw[if_pos (by simp[Region.wanted,hg])];exact .inl (Q3 hX h hS hN hρ hK)
 ·rename_i j want hg;split at h
  ·exact h.elim
  ·rename_i d hd
   have hdst:(ops.toArray[j]?).bind (·.dst)=some d:=by
    unfold a4Z at hd;rw[U3]at hd;split at hd
    ·rename_i o' ho';simp[ho',hd]
    ·cases hd
   have wantedIs:∀(v:Value),a.tmps[d]? = some v->Region.wanted o (yielded ops.toArray a.tmps)=((match v with | .bool b=>some b|_=>none)==some want):=by
    intro v hv;simp only[Region.wanted,hg,yielded,hdst,Option.bind_some,hv];cases v <;> rfl
   split at h
   ·rename_i hv;have hw:=wantedIs _ (hS.s.val _ _ hv);simp only[SV.den]at hw;split at h
    ·rw[hw];exact .inl (Q3 hX h hS hN hρ hK)
    ·rw[hw];exact G4 h hS hN hρ hK
   ·rename_i hv;have hw:=wantedIs _ (hS.s.val _ _ hv);simp only[SV.den]at hw;split at h
    ·rw[hw];exact G4 h hS hN hρ hK
    ·rw[hw];exact .inl (Q3 hX h hS hN hρ hK)
   ·rename_i hv;have hw:=wantedIs _ (hS.s.val _ _ hv);simp only[SV.den]at hw;rw[hw];exact G4 h hS hN hρ hK
   ·rename_i b hv;have hw:=wantedIs _ (hS.s.val _ _ hv);simp only[SV.den]at hw;rw[hw];cases b
    ·have h2:=h.2 rfl;have hS':Sat W0 Fr (S9 S d .ff) ρ a w:=hS.set hv rfl trivial;split at h2
     ·exact G4 h2 hS' hN hρ hK
     ·exact .inl (Q3 hX h2 hS' hN hρ hK)
    ·have h1:=h.1 rfl;have hS':Sat W0 Fr (S9 S d .tt) ρ a w:=hS.set hv rfl trivial;split at h1
     ·exact .inl (Q3 hX h1 hS' hN hρ hK)
     ·exact G4 h1 hS' hN hρ hK
   ·exact h.elim
theorem a2A(hX:A7 P X){N0:Nat}{ρ0:Rho}{ops:List Oper}{Q:Exit->Act->World->Prop}:∀(l:List Oper)(k:Nat) {S:St} {ρ:Rho} {a:Act} {w:World} {K:St->Prop},(∀ j,l[j]? = ops[k+j]?)->
  a9f X ops l S K->Sat W0 Fr S ρ a w->N0<=S.N->(∀ n,n<N0->ρ n=ρ0 n)->a1v W0 Fr N0 ρ0 K (Q .normal)->wpOps P ops.toArray Q (List.range' k l.length) a w
 | [],k,S,ρ,a,w,K,_,h,hS,hN,hρ,hK=>hK S ρ a w h hS hN hρ
 | o :: r,k,S,ρ,a,w,K,hl,h,hS,hN,hρ,hK=>by
  have ho:ops[k]? = some o:=by simpa using (hl 0).symm
  simp only[List.length_cons,List.range'_succ];unfold wpOps;simp only[List.getElem?_toArray,ho];refine a8F hX h hS hN hρ λS' ρ' a' w' h' hS' hN' hρ'=>?_
  refine a2A hX r (k+1) (λj=>?_) h' hS' hN' hρ' hK;have:=hl (j+1);simp only[List.getElem?_cons_succ]at this;rw[this];congr 1;omega
end
inductive DRX where
 | done (s:AS) (log:List Ent) (p:Option Prop)
 | need (j:Nat) (b:Bool)
 | fail
def b4e(ops:List Oper)(o:Oper)(s:AS):DRX :=
 match o.guard with
 | some (j,_)=>match a4Z ops j with
  | some d=>match slot s.1 d with
   | some (.bool b)=>.need j b
   | _=>.fail
  | none=>.fail
 | none=>.fail
def b3B{α:Type}:Option α->Bool
 | none=>true
 | some _=>false
def c0K(nt:Nat):Option Nat->Bool
 | none=>true
 | some d=>Nat.blt d nt
def U5(X:F3)(nt N:Nat)(ops:List Oper)(dec:List (Nat×Bool))(r:Nat)(g:ChF):List Oper->Nat->AS->DRX
 | [],_,s=>.done s [] none
 | o :: l,i,s=>match Nat.beq i r with
  | true=>match c0K nt o.dst&&b3B o.guard with
   | true=>match g (opr s.1) (look s.2) (N+24*i)with
    | some (e,p)=>match U5 X nt N ops dec r g l (i+1) (E4 o e s)with
     | .done s' log _=>.done s' ((i,o,e) :: log) (some p)
     | x=>x
    | none=>.fail
   | false=>.fail
  | false=>match a2h X nt N ops dec i o s with
   | some e=>match U5 X nt N ops dec r g l (i+1) (E4 o e s)with
    | .done s' log p=>.done s' ((i,o,e) :: log) p
    | x=>x
   | none=>b4e ops o s
def a4d(p:Option Prop)(q:Prop):Prop:=match p with
 | none=>q
 | some p=>p->q
def a8q(X:F3)(ops:List Oper)(S:St)(K:St->Prop):Nat->List (Nat×Bool)->Prop
 | fuel,dec=>match U5 X S.nt S.N ops dec ops.length (λ_ _ _=>none) ops 0 (S.sl,S.H)with
  | .done s log _=>b1f log (chk ops log=true/\K {nt:=S.nt,sl:=s.1,H:=s.2,N:=S.N+24*ops.length})
  | .need j b=>match fuel with
   | 0=>False
   | f+1=>(b=true->a8q X ops S K f ((j,true) :: dec))/\(b=false->a8q X ops S K f ((j,false) :: dec))
  | .fail=>False
def c6k(X:F3)(ops:List Oper)(S:St)(K:St->Prop)(r:Nat)(R:ROp):Prop :=
 ∀ i,match U5 X S.nt S.N ops [] r (R.ev i) ops 0 (S.sl,S.H)with
  | .done s log p=>b1f log (chk ops log=true/\a4d p (K {nt:=S.nt,sl:=s.1,H:=s.2,N:=S.N+24*ops.length}))
  | _=>False
def b7M(ops:List Oper)(r i:Nat):Bool:=((nth (I8 ops []) i).getD 0).testBit r
def a4f(late:Nat->Bool)(p:Option Prop):List Ent->Prop->Prop
 | [],q=>q
 | (i,_,e) :: l,q=>match e.obl with
  | none=>a4f late p l q
  | some o=>(match late i with
   | true=>a4d p o
   | false=>o)/\a4f late p l q
theorem a2R{ops:List Oper}{r:Nat}{p:Option Prop}:∀ {l:List Ent} {q:Prop},a4f (b7M ops r) p l q->(∀ x∈l,okP x.2.2.obl∨((((I8 ops [])[x.1]?).getD 0).testBit r=true/\a4d p (okP x.2.2.obl)))/\q
 | [],_,h=>⟨λx hx=>absurd hx List.not_mem_nil,h⟩
 | (i,o,e) :: l,q,h=>by
  cases ho:e.obl with
  | none =>
   simp only[a4f,ho]at h;obtain⟨h1,h2⟩:=a2R h;refine⟨λx hx=>?_,h2⟩;rcases List.mem_cons.1 hx with rfl|hx
   ·left
    show okP e.obl;rw[ho];trivial
   ·exact h1 x hx
  | some ob =>
   simp only[a4f,ho]at h;obtain⟨h0,h⟩:=h;obtain⟨h1,h2⟩:=a2R h;refine⟨λx hx=>?_,h2⟩;rcases List.mem_cons.1 hx with rfl|hx
   ·show okP e.obl∨(_/\a4d p (okP e.obl));rw[ho];split at h0
    ·rename_i hl
     right
     refine⟨?_,h0⟩;unfold b7M at hl;rw[U3]at hl;exact hl
    ·exact .inl h0
   ·exact h1 x hx
def c4j(X:F3):Bool:=match b7p X.al 1000000 with
 | some _=>true
 | none=>false
def c3Q(X:F3)(ops:List Oper)(S:St)(K:St->Prop)(r:Nat)(R:ROp):Prop :=
 ∀ i,match U5 X S.nt S.N ops [] r (R.ev i) ops 0 (S.sl,S.H)with
  | .done s log p=>a4f (b7M ops r) p log (chk ops log=true/\a4d p (K {nt:=S.nt,sl:=s.1,H:=s.2,N:=S.N+24*ops.length}))
  | _=>False
noncomputable def b0o(X:F3):List Oper->Nat->Option (Nat×ROp)
 | [],_=>none
 | o :: l,i=>match b0k X o.op with
  | some R=>some (i,R)
  | none=>b0o X l (i+1)
def b7U(X:F3)(ops:List Oper)(S:St)(K:St->Prop):Prop :=
 match b0o X ops 0 with
 | none=>a8q X ops S K 20 []
 | some (r,R)=>match c4j X with
  | false=>c6k X ops S K r R
  | true=>c3Q X ops S K r R
section
variable {P:Program} {W0:World} {Fr:Nat->Prop} {X:F3}
theorem a6e{r:Nat}{R:ROp}:∀ {l:List Oper} {i:Nat},b0o X l i=some (r,R)->i<=r/\∃ o,l[r-i]? = some o/\b0k X o.op=some R
 | [],i,h=>by simp[b0o]at h
 | o :: l,i,h=>by
  unfold b0o at h;split at h
  ·rename_i R' hR;simp only[oI9,pI9]at h;obtain⟨rfl,rfl⟩:=h;exact⟨Nat.le_refl _,o,by simp,hR⟩
  ·obtain⟨h1,o',h2,h3⟩:=a6e h;refine⟨by omega,o',?_,h3⟩;rw[show r-i=(r-(i+1))+1 by omega];simpa using h2
theorem a2Q{nt N:Nat}{ops:List Oper}{dec:List (Nat×Bool)}{r:Nat}{g:ChF}:∀(l:List Oper)(k:Nat)(s s':AS)(log:List Ent)(p:Option Prop),(∀ j,l[j]? = ops[k+j]?)->U5 X nt N ops dec r g l k s=.done s' log p->
  (∀ asm,(∀ q,p=some q->q=asm)->a0u X nt N ops dec r g asm log s)/\fin log s=s'/\(∀ x∈log,ops[x.1]? = some x.2.1)/\log.map (·.1)=List.range' k l.length/\(k<=r->r<k+l.length->∃ q,p=some q)
 | [],k,s,s',log,p,_,h=>by
  simp only[U5,DRX.done.injEq]at h;obtain⟨rfl,rfl,rfl⟩:=h;exact⟨λ_ _=>trivial,rfl,by simp,rfl,λh1 h2=>by simp at h2;omega⟩
 | o :: l,k,s,s',log,p,hl,h=>by
  have ho:ops[k]? = some o:=by simpa using (hl 0).symm
  have hl':∀ j,l[j]? = ops[k+1+j]? := λj=>by
   have:=hl (j+1);simp only[List.getElem?_cons_succ]at this;rw[this];congr 1;omega
  simp only[U5]at h;split at h
  ·rename_i hk;have hk:=eB9 hk;split at h
   ·rename_i hok;simp only[bA9]at hok;split at h
    ·rename_i e q hq;split at h
     ·rename_i s1 log1 p1 h1;simp only[DRX.done.injEq]at h;obtain⟨rfl,rfl,rfl⟩:=h;obtain⟨h2,h3,h4,h5,h6⟩:=a2Q l (k+1) _ _ _ _ hl' h1
      have hp1:∀(l:List Oper)(k':Nat)(s:AS)(s1:AS)(log1:List Ent)(p1:Option Prop),r<k'->U5 X nt N ops dec r g l k' s=.done s1 log1 p1->p1=none:=by
       intro l
       induction l with
       | nil=>intro k' s s1 log1 p1 _ h;simp only[U5,DRX.done.injEq]at h;exact h.2.2.symm
       | cons o l ih =>
        intro k' s s1 log1 p1 hlt h;simp only[U5]at h;split at h
        ·rename_i hb;have:=eB9 hb;omega
        ·split at h
         ·split at h
          ·rename_i h9;simp only[DRX.done.injEq]at h;obtain⟨_,_,rfl⟩:=h;exact ih (k'+1) _ _ _ _ (by omega) h9
          ·rename_i hno;exact absurd h (hno _ _ _)
         ·unfold b4e at h;split at h
          ·split at h
           ·split at h <;> cases h
           ·cases h
          ·cases h
      have hpn:=hp1 l (k+1) _ _ _ _ (by omega) h1;subst hpn;refine⟨λasm ha=>⟨.inl ⟨hk,λd hd=>?_,?_,?_⟩,h2 asm (λq hq=>by cases hq)⟩,h3,λx hx=>?_,by simp[h5,List.range'_succ],λ_ _=>⟨q,rfl⟩⟩
      ·have:=hok.1;rw[hd]at this;simpa [c0K]using this
      ·have:=hok.2
       cases hgd:o.guard with
       | none=>rfl
       | some x=>rw[hgd]at this;simp[b3B]at this
      ·rw[<-ha q rfl];exact hq
      ·rcases List.mem_cons.1 hx with rfl|hx
       ·exact ho
       ·exact h4 x hx
     ·rename_i hno;exact absurd h (hno _ _ _)
    ·cases h
   ·cases h
  ·rename_i hk;have hk:k≠r:=λe=>by subst e;simp at hk
   split at h
   ·rename_i e he;split at h
    ·rename_i s1 log1 p1 h1;simp only[DRX.done.injEq]at h;obtain⟨rfl,rfl,rfl⟩:=h;obtain⟨h2,h3,h4,h5,h6⟩:=a2Q l (k+1) _ _ _ _ hl' h1;refine⟨λasm ha=>⟨.inr ⟨hk,he⟩,h2 asm ha⟩,h3,λx hx=>?_,by simp[h5,List.range'_succ],λh7 h8=>h6 (by omega) (by simp at h8;omega)⟩;rcases List.mem_cons.1 hx with rfl|hx
     ·exact ho
     ·exact h4 x hx
    ·rename_i hno;exact absurd h (hno _ _ _)
   ·unfold b4e at h;split at h
    ·split at h
     ·split at h <;> cases h
     ·cases h
    ·cases h
theorem a1m(hX:A7 P X)(hm:P.follows .mixedOrders=true){N0:Nat}{ρ0:Rho}{id:Nat}{ops:Array Oper}{S:St}{K:St->Prop}{Q:Exit->Act->World->Prop}{R:ROp}{r:Nat}{dec:List (Nat×Bool)}(hR:∀ o,ops.toList[r]? = some o->b3O P R o.op)
  (h:∀ i,∃ s log p,U5 X S.nt S.N ops.toList dec r (R.ev i) ops.toList 0 (S.sl,S.H)=.done s log p/\(∀ x∈log,okP x.2.2.obl∨((((I8 ops.toList [])[x.1]?).getD 0).testBit r=true/\a4d p (okP x.2.2.obl)))/\(chk ops.toList log=true/\a4d p (K {nt:=S.nt,sl:=s.1,H:=s.2,N:=S.N+24*ops.toList.length})))
  {ρ:Rho} {a:Act} {w:World} (hS:Sat W0 Fr S ρ a w) (hN:N0<=S.N) (hρ:∀ n,n<N0->ρ n=ρ0 n) (hK:a1v W0 Fr N0 ρ0 K (Q .normal)):(Code.region id ops true).wp P Q a w:=by
 obtain⟨i0⟩:=R.ne
 let F:R.ι->AS:=λi=>Classical.choose (h i)
 let L:R.ι->List Ent:=λi=>Classical.choose (Classical.choose_spec (h i))
 let p:R.ι->Option Prop:=λi=>Classical.choose (Classical.choose_spec (Classical.choose_spec (h i)))
 have hc:∀ i,U5 X S.nt S.N ops.toList dec r (R.ev i) ops.toList 0 (S.sl,S.H)=.done (F i) (L i) (p i)/\(∀ x∈L i,okP x.2.2.obl∨((((I8 ops.toList [])[x.1]?).getD 0).testBit r=true/\a4d (p i) (okP x.2.2.obl)))/\(chk ops.toList (L i)=true/\a4d (p i) (K {nt:=S.nt,sl:=(F i).1,H:=(F i).2,N:=S.N+24*ops.toList.length})) :=
  λi=>Classical.choose_spec (Classical.choose_spec (Classical.choose_spec (h i)))
 let asm:R.ι->Prop:=λi=>match p i with
  | some q=>q
  | none=>True
 have hasm:∀ i q,p i=some q->q=asm i:=λi q hq=>by simp only[asm,hq]
 have sp:=λi=>a2Q ops.toList 0 _ _ _ _ (λj=>by simp) (hc i).1
 have ob:=λi=>(hc i).2
 have ck:∀ i,a2n ops.toList=true/\a1s ops.toList (I8 ops.toList []) (L i)=true:=λi=>by
  have:=(ob i).2.1;simpa only[chk,bA9]using this
 refine wp_region_any hm ?_
 have:=b2d (nt:=S.nt) (N:=S.N) (dec:=dec) (W0:=W0) (Fr:=Fr) (ρ0:=ρ0) (Q:=Q) hX (ck i0).1 (R:=R) (r:=r) hR (asm:=asm) (F:=F) hN (λi hi ρ' a' w' hS' hρ'=>?_) ops.toList.length (List.range' 0 ops.toList.length) (λ_=>True) L (Array.replicate ops.size false) (S.sl,S.H) ρ a {w with drawn:=w.drawn+1}
  (by simp) (by simp) (λj hj=>?_) ⟨i0,trivial⟩ (λi _=>(sp i).2.2.2.1) (λi _=>(sp i).2.2.1) ?_ (λi _=>S2 (ck i).2) (λi _ x hx=>((ob i).1 x hx).imp (λh9=>h9) λh9=>⟨h9.1,λha=>by
   have h8:=h9.2;unfold a4d at h8;split at h8
   ·exact h8
   ·rename_i q hq
    exact h8 (by rw[hasm i q hq];exact ha)⟩) ?_ ?_ (λi _=>(sp i).1 (asm i) (hasm i)) (λi _=>by rw[(sp i).2.1];exact R7.refl _) ?_ hρ
 ·simpa using this
 ·refine hK _ ρ' a' w' (show K {nt:=S.nt,sl:=(F i).1,H:=(F i).2,N:=S.N+24*ops.toList.length} from ?_) ⟨?_,?_⟩ ?_ hρ'
  ·have h1:=(ob i).2.2;unfold a4d at h1;split at h1
   ·exact h1
   ·rename_i q hq;exact h1 (by rw[hasm i q hq];exact hi)
  ·exact hS'.h.mono λn hn=>hn.1
  ·exact hS'.s.mono (λn hn=>hn.1) (λ_ _=>rfl)
  ·exact Nat.le_trans hN (Nat.le_add_right _ _)
 ·have hj':j<ops.size:=by simpa using hj
  simp[hj']
 ·exact List.pairwise_lt_range'
 ·intro i o _ hl;rw[Array.getD_eq_getD_getElem?,Array.getElem?_replicate]at hl;split at hl <;> simp at hl
 ·by_cases hr:r<ops.toList.length
  ·exact .inl ⟨by simpa using hr,λ_=>trivial⟩
  ·refine .inr ⟨by simpa using hr,λi _=>?_⟩
   have hnone:∀(l:List Oper)(k:Nat)(s s1:AS)(log:List Ent)(q:Option Prop),k+l.length<=r->U5 X S.nt S.N ops.toList dec r (R.ev i) l k s=.done s1 log q->q=none:=by
    intro l
    induction l with
    | nil=>intro k s s1 log q _ h;simp only[U5,DRX.done.injEq]at h;exact h.2.2.symm
    | cons o l ih =>
     intro k s s1 log q hlt h;simp only[List.length_cons]at hlt;simp only[U5]at h;split at h
     ·rename_i hb;have:=eB9 hb;omega
     ·split at h
      ·split at h
       ·rename_i h9;simp only[DRX.done.injEq]at h;obtain⟨_,_,rfl⟩:=h;exact ih (k+1) _ _ _ _ (by omega) h9
       ·rename_i hno;exact absurd h (hno _ _ _)
      ·unfold b4e at h;split at h
       ·split at h
        ·split at h <;> cases h
        ·cases h
       ·cases h
   have:=hnone ops.toList 0 _ _ _ _ (by omega) (hc i).1;simp only[asm,this]
 ·have hU:∀ n,n<S.N->UI S.N ops.toList.length (List.range' 0 ops.toList.length) n:=λn hn=>⟨Nat.lt_of_lt_of_le hn (Nat.le_add_right _ _),λx _ hx=>absurd (Nat.lt_of_lt_of_le hn (Nat.le_trans (Nat.le_add_right _ _) hx.1)) (Nat.lt_irrefl _)⟩
  exact⟨(hS.h.mono hU).drew,hS.s.mono hU (λ_ _=>rfl)⟩
theorem b0e(hX:A7 P X){N0:Nat}{ρ0:Rho}{id:Nat}{ops:Array Oper}{S:St}{K:St->Prop}{Q:Exit->Act->World->Prop}(h:b7U X ops.toList S K)
  {ρ:Rho} {a:Act} {w:World} (hS:Sat W0 Fr S ρ a w) (hN:N0<=S.N) (hρ:∀ n,n<N0->ρ n=ρ0 n) (hK:a1v W0 Fr N0 ρ0 K (Q .normal)):(Code.region id ops true).wp P Q a w:=by
 unfold b7U at h;split at h
 ·have key:∀(fuel:Nat)(dec:List (Nat×Bool)),a8q X ops.toList S K fuel dec->(Code.region id ops true).wp P Q a w:=by
   intro fuel
   induction fuel with
   | zero =>
    intro dec h;unfold a8q at h;split at h
    ·rename_i s log p hrun
     exact a1m hX hX.G.mix (R:=⟨Unit,⟨()⟩,λ_ _ _ _=>none⟩) (r:=ops.toList.length) (dec:=dec) (λo ho=>by simp at ho) (λi=>⟨s,log,p,hrun,λx hx=>.inl (R3 (F4 h).1 x hx),(F4 h).2.1,by
      unfold a4d;split
      ·exact(F4 h).2.2
      ·exact λ_=>(F4 h).2.2⟩) hS hN hρ hK
    ·exact h.elim
    ·exact h.elim
   | succ fuel ih =>
    intro dec h;unfold a8q at h;split at h
    ·rename_i s log p hrun
     exact a1m hX hX.G.mix (R:=⟨Unit,⟨()⟩,λ_ _ _ _=>none⟩) (r:=ops.toList.length) (dec:=dec) (λo ho=>by simp at ho) (λi=>⟨s,log,p,hrun,λx hx=>.inl (R3 (F4 h).1 x hx),(F4 h).2.1,by
      unfold a4d;split
      ·exact(F4 h).2.2
      ·exact λ_=>(F4 h).2.2⟩) hS hN hρ hK
    ·rename_i j b hrun
     cases b with
     | true=>exact ih _ (h.1 rfl)
     | false=>exact ih _ (h.2 rfl)
    ·exact h.elim
  exact key 20 [] h
 ·rename_i r R hR;obtain⟨_,o,ho,hro⟩:=a6e hR;simp only[Nat.sub_zero]at ho;refine a1m hX hX.G.mix (R:=R) (r:=r) (dec:=[]) (λo' ho'=>?_) (λi=>?_) hS hN hρ hK
  ·rw[ho]at ho';injection ho' with ho'
   subst ho';exact b0w hX hro
  ·split at h
   ·have:=h i;split at this
    ·rename_i s log p hrun;exact⟨s,log,p,hrun,λx hx=>.inl (R3 (F4 this).1 x hx),(F4 this).2⟩
    ·exact this.elim
   ·have:=h i;split at this
    ·rename_i s log p hrun;exact⟨s,log,p,hrun,a2R this⟩
    ·exact this.elim
end
abbrev Sig:=Nm->Option Nm
def Rho.under(ρ:Rho)(σ:Sig):Rho:=λn=>match σ n with
 | some m=>ρ m
 | none=>none
def L1:Option Nm->Nm->Prop
 | some m,n=>match Nat.beq m n with
  | true=>True
  | false=>False
 | none,_=>False
theorem a6f{o:Option Nm}{n:Nm}(h:L1 o n):o=some n:=by
 cases o with
 | none=>exact h.elim
 | some m =>
  simp only[L1]at h;split at h
  ·rename_i hb;rw[eB9 hb]
  ·exact h.elim
mutual
def z5(σ:Sig):SV->SV->Prop
 | .tt, .tt=>True
 | .ff, .ff=>True
 | .tt, .bool b=>b=true
 | .ff, .bool b=>b=false
 | .bool b, .tt=>b=true
 | .bool b, .ff=>b=false
 | .bool a, .bool b=>a=b
 | .int k a, .int k' b=>match kEq k k' with
  | true=>a=b
  | false=>False
 | .flt k a, .flt k' b=>match a4c k k' with
  | true=>a=b
  | false=>False
 | .str a, .str b=>a=b
 | .ptr n o, .ptr n' o'=>L1 (σ n') n/\o=o'
 | .nilp, .nilp=>True
 | .slc n o l c, .slc n' o' l' c'=>L1 (σ n') n/\o=o'/\l=l'/\c=c'
 | .nils, .nils=>True
 | .slcc n l, .slcc n' l'=>L1 (σ n') n/\l=l'
 | .nils, .slcc n' l'=>match σ n' with
  | none=>l'=0
  | some _=>False
 | .agg a, .agg b=>q9 σ a b
 | .tup a, .tup b=>q9 σ a b
 | .ifc t v, .ifc t' v'=>match Nat.beq t t' with
  | true=>z5 σ v v'
  | false=>False
 | .nili, .nili=>True
 | .fn f a c, .fn f' a' c'=>f=f'/\q9 σ a a'/\q9 σ c c'
 | .nilf, .nilf=>True
 | .sla a l c, .sla a' l' c'=>a=a'/\l=l'/\c=c'
 | .pb n b c, .pb n' b' c'=>L1 (σ n') n/\b=b'/\c=c'
 | .dv n v, .dv n' v'=>L1 (σ n') n/\v=v'
 | .slb n b c l k, .slb n' b' c' l' k'=>L1 (σ n') n/\b=b'/\c=c'/\l=l'/\k=k'
 | .nils, .dv _ v=>v=.slice none 0 0
 | .nilp, .dv _ v=>v=.pointer none
 | .nili, .dv _ v=>v=.nilIface
 | .nili, .opt b _ _=>b=false
 | .opt b _ _, .nili=>b=false
 | .ifc t v, .opt b t' v'=>match Nat.beq t t' with
  | true=>b=true/\z5 σ v v'
  | false=>False
 | .opt b t v, .ifc t' v'=>match Nat.beq t t' with
  | true=>b=true/\z5 σ v v'
  | false=>False
 | .opt b t v, .opt b' t' v'=>match Nat.beq t t' with
  | true=>b=b'/\z5 σ v v'
  | false=>False
 | .pb n b c, .dv n' v=>L1 (σ n') n/\v=.pointer (some ⟨b,c,none⟩)
 | .slb n b c l k, .dv n' v=>L1 (σ n') n/\v=.slice (some ⟨b,c,none⟩) l k
 | .dv n v, .pb n' b c=>L1 (σ n') n/\v=.pointer (some ⟨b,c,none⟩)
 | .dv n v, .slb n' b c l k=>L1 (σ n') n/\v=.slice (some ⟨b,c,none⟩) l k
 | _,_=>False
def q9(σ:Sig):List SV->List SV->Prop
 | [],[]=>True
 | x :: xs,y :: ys=>z5 σ x y/\q9 σ xs ys
 | _,_=>False
end
theorem a6j{ρ:Rho}{σ:Sig}{n n':Nm}(h:L1 (σ n') n)(o:Nat):ρ.addr n o=(ρ.under σ).addr n' o:=by
 simp[Rho.addr,Rho.under,a6f h]
theorem b1q{ρ:Rho}{σ:Sig}{n n':Nm}(h:L1 (σ n') n):ρ.addrC n=(ρ.under σ).addrC n':=by
 simp[Rho.addrC,Rho.under,a6f h]
theorem b4E{ρ:Rho}{σ:Sig}{n n':Nm}(h:L1 (σ n') n):ρ.cap n=(ρ.under σ).cap n':=by
 simp[Rho.cap,Rho.under,a6f h]
mutual
theorem J2(ρ:Rho)(σ:Sig):∀(x y:SV),z5 σ x y->x.den ρ=y.den (ρ.under σ)
 | .agg a,y,h=>by cases y <;> simp only[z5]at h;simp[SV.den,V2 ρ σ a _ h]
 | .tup a,y,h=>by cases y <;> simp only[z5]at h;simp[SV.den,V2 ρ σ a _ h]
 | .ifc t v,y,h=>by
  cases y <;> simp only[z5]at h
  ·split at h
   ·rename_i ht;have:=eB9 ht;subst this;simp[SV.den,J2 ρ σ v _ h]
   ·exact h.elim
  ·split at h
   ·rename_i ht;have:=eB9 ht;subst this;obtain⟨rfl,h⟩:=h;simp[SV.den,J2 ρ σ v _ h]
   ·exact h.elim
 | .opt b t v,y,h=>by
  cases y <;> simp only[z5]at h
  ·split at h
   ·rename_i ht;have:=eB9 ht;subst this;obtain⟨rfl,h⟩:=h;simp[SV.den,J2 ρ σ v _ h]
   ·exact h.elim
  ·subst h;rfl
  ·split at h
   ·rename_i ht;have:=eB9 ht;subst this;obtain⟨rfl,h⟩:=h;cases b <;> simp[SV.den,J2 ρ σ v _ h]
   ·exact h.elim
 | .fn f a c,y,h=>by
  cases y <;> simp only[z5]at h
  obtain⟨rfl,h1,h2⟩:=h;simp[SV.den,V2 ρ σ a _ h1,V2 ρ σ c _ h2]
 | .int k a,y,h=>by
  cases y <;> simp only[z5]at h
  split at h
  ·rename_i ht;have:=a0a ht;subst this;simp[SV.den,h]
  ·exact h.elim
 | .flt k a,y,h=>by
  cases y <;> simp only[z5]at h
  split at h
  ·rename_i ht;have:=P3 ht;subst this;simp[SV.den,h]
  ·exact h.elim
 | .ptr n o,y,h=>by
  cases y <;> simp only[z5]at h
  obtain⟨h1,rfl⟩:=h;simp[SV.den,a6j h1]
 | .slc n o l c,y,h=>by
  cases y <;> simp only[z5]at h
  obtain⟨h1,rfl,rfl,rfl⟩:=h;simp[SV.den,a6j h1]
 | .slcc n l,y,h=>by
  cases y <;> simp only[z5]at h
  obtain⟨h1,rfl⟩:=h;simp[SV.den,b1q h1,b4E h1]
 | .nils,y,h=>by
  cases y <;> simp only[z5]at h
  ·rfl
  ·split at h
   ·rename_i hs;subst h;simp[SV.den,Rho.addrC,Rho.cap,Rho.under,hs]
   ·exact h.elim
  ·subst h;simp[SV.den,Value.oneCell']
 | .sla a l c,y,h=>by
  cases y <;> simp only[z5]at h
  obtain⟨rfl,rfl,rfl⟩:=h;rfl
 | .pb n b c,y,h=>by
  cases y <;> simp only[z5]at h
  ·obtain⟨_,rfl,rfl⟩:=h;rfl
  ·obtain⟨_,rfl⟩:=h;simp[SV.den,Value.oneCell']
 | .dv n v,y,h=>by
  cases y <;> simp only[z5]at h
  ·obtain⟨_,rfl⟩:=h;simp[SV.den,Value.oneCell']
  ·obtain⟨_,rfl⟩:=h;rfl
  ·obtain⟨_,rfl⟩:=h;simp[SV.den,Value.oneCell']
 | .slb n b c l k,y,h=>by
  cases y <;> simp only[z5]at h
  ·obtain⟨_,rfl⟩:=h;simp[SV.den,Value.oneCell']
  ·obtain⟨_,rfl,rfl,rfl,rfl⟩:=h;rfl
 | .tt,y,h | .ff,y,h | .bool _,y,h | .str _,y,h | .nilp,y,h | .nili,y,h | .nilf,y,h=>by
  cases y <;> simp_all[z5,SV.den,Value.oneCell']
theorem V2(ρ:Rho)(σ:Sig):∀(x y:List SV),q9 σ x y->p8 ρ x=p8 (ρ.under σ) y
 | [],y,h=>by cases y <;> simp_all[q9,p8]
 | x :: r,y,h=>by
  cases y with
  | nil=>simp[q9]at h
  | cons u s=>simp only[q9]at h;simp[p8,J2 ρ σ x u h.1,V2 ρ σ r s h.2]
end
mutual
def SV.und(N:Nat):SV->Bool
 | .ptr n _=>Nat.blt n N
 | .slc n _ _ _=>Nat.blt n N
 | .slcc n _=>Nat.blt n N
 | .pb n _ _=>Nat.blt n N
 | .dv n _=>Nat.blt n N
 | .slb n _ _ _ _=>Nat.blt n N
 | .agg cs=>a0t N cs
 | .tup vs=>a0t N vs
 | .ifc _ v=>v.und N
 | .opt _ _ v=>v.und N
 | .fn _ a c=>a0t N a&&a0t N c
 | _=>true
def a0t(N:Nat):List SV->Bool
 | []=>true
 | v :: r=>v.und N&&a0t N r
end
theorem a2I{n m:Nat}(h:Nat.blt n m=true):n<m:=by
 have:=Nat.le_of_ble_eq_true h;omega
mutual
theorem SV.und_bd{N:Nat}:∀ v:SV,v.und N=true->v.bd (·< N)
 | .ptr n _=>by intro h;exact a2I h
 | .slc n _ _ _=>by intro h;exact a2I h
 | .slcc n _=>by intro h;exact a2I h
 | .pb n _ _ | .dv n _ | .slb n _ _ _ _=>by intro h;exact a2I h
 | .agg cs=>by simpa [SV.bd,SV.und]using Z0 cs
 | .tup cs=>by simpa [SV.bd,SV.und]using Z0 cs
 | .ifc _ v=>by simpa [SV.bd,SV.und]using SV.und_bd v
 | .opt _ _ v=>by simpa [SV.bd,SV.und]using SV.und_bd v
 | .fn _ a c=>by simpa [SV.bd,SV.und]using λh1 h2=>⟨Z0 a h1,Z0 c h2⟩
 | .tt | .ff | .bool _ | .int _ _ | .flt _ _ | .str _ | .nilp | .nils | .nili | .nilf | .sla _ _ _=>by simp[SV.bd]
theorem Z0{N:Nat}:∀ l:List SV,a0t N l=true->bdL (·< N) l
 | []=>by simp[bdL]
 | v :: r=>by simpa [bdL,a0t]using λh1 h2=>⟨SV.und_bd v h1,Z0 r h2⟩
end
def b3J(σ:Sig)(i n:Nat):List SV->List SV->Prop
 | [],_=>n=i
 | x :: xs,y :: ys=>z5 σ x y/\b3J σ (i+1) n xs ys
 | _ :: _,[]=>False
theorem a5F{σ:Sig}{n:Nat}:∀ {l l':List SV} {i:Nat},b3J σ i n l l'->n=i+l.length/\∀ j,j<l.length->z5 σ ((I3 l j).getD .nilp) ((I3 l' j).getD .nilp)
 | [],_,i,h=>⟨h,λj hj=>by simp at hj⟩
 | x :: xs,y :: ys,i,h=>by
  obtain⟨h1,h2⟩:=h;obtain⟨h3,h4⟩:=a5F h2;refine⟨by simp;omega,λj hj=>?_⟩
  cases j with
  | zero=>simpa [I3]using h1
  | succ j=>simpa [I3]using h4 j (by simpa using hj)
 | _ :: _,[],_,h=>by simp[b3J]at h
def b1V(σ:Sig)(i n:Nat):List SV->List SV->Prop
 | [],[]=>True
 | x :: xs,y :: ys=>(i<n->z5 σ x y)/\b1V σ (i+1) n xs ys
 | [],_ :: _=>n<=i
 | _ :: _,[]=>n<=i
def c2n(σ:Sig)(f:Nat->SV)(i n:Nat):List SV->Prop
 | []=>n<=i
 | y :: ys=>(i<n->z5 σ (f i) y)/\c2n σ f (i+1) n ys
def c2r(σ:Sig)(f:Nat->SV)(i n:Nat):List SV->Prop
 | []=>i<=n
 | y :: ys=>z5 σ (f i) y/\c2r σ f (i+1) n ys
theorem a4L{σ:Sig}{n:Nat}:∀ {l l':List SV} {i:Nat},b1V σ i n l l'->∀ j,i+j<n->z5 σ ((I3 l j).getD .nilp) ((I3 l' j).getD .nilp)
 | [],[],i,_,j,_=>by simp[I3,z5]
 | x :: xs,y :: ys,i,h,j,hj=>by
  obtain⟨h1,h2⟩:=h
  cases j with
  | zero=>simpa [I3]using h1 (by omega)
  | succ j=>simpa [I3]using a4L h2 j (by omega)
 | [],_ :: _,i,h,j,hj=>by have h:n<=i:=h;omega
 | _ :: _,[],i,h,j,hj=>by have h:n<=i:=h;omega
theorem a8j{σ:Sig}{f:Nat->SV}{n:Nat}:∀ {l':List SV} {i:Nat},c2n σ f i n l'->∀ j,i+j<n->z5 σ (f (i+j)) ((I3 l' j).getD .nilp)
 | [],i,h,j,hj=>by have h:n<=i:=h;omega
 | y :: ys,i,h,j,hj=>by
  obtain⟨h1,h2⟩:=h
  cases j with
  | zero=>simpa [I3]using h1 (by omega)
  | succ j =>
   have:=a8j h2 j (by omega);rw[show i+(j+1)=i+1+j by omega];simpa [I3]using this
theorem a7E{σ:Sig}{f:Nat->SV}{n:Nat}:∀ {l':List SV} {i:Nat},c2r σ f i n l'->i+l'.length<=n/\∀ j,j<l'.length->z5 σ (f (i+j)) ((I3 l' j).getD .nilp)
 | [],i,h=>⟨h,λj hj=>by simp at hj⟩
 | y :: ys,i,h=>by
  obtain⟨h1,h2⟩:=h;obtain⟨h3,h4⟩:=a7E h2;refine⟨by simp;omega,λj hj=>?_⟩
  cases j with
  | zero=>simpa [I3]using h1
  | succ j =>
   have:=h4 j (by simpa using hj);rw[show i+(j+1)=i+1+j by omega];simpa [I3]using this
def L6(σ:Sig)(c c':a9):Prop :=
 match c,c' with
 | .cells l, .cells l'=>q9 σ l l'
 | .ints k n g, .ints k' n' g'=>match kEq k k' with
  | true=>n'<=n/\∀ i,i<n'->g i=g' i
  | false=>False
 | .flts k n g, .flts k' n' g'=>match a4c k k' with
  | true=>n'<=n/\∀ i,i<n'->g i=g' i
  | false=>False
 | .cells l, .ints k n g=>match a1K k l with
  | some xs=>n<=xs.length/\∀ i,i<n->xs.getD i 0=g i
  | none=>False
 | .cells l, .flts k n g=>match a1G k l with
  | some xs=>n<=xs.length/\∀ i,i<n->xs.getD i 0=g i
  | none=>False
 | .cells l, .upto n l'=>b3J σ 0 n l l'
 | .upto n l, .upto n' l'=>n'=n/\b1V σ 0 n' l l'
 | .gen n f, .upto n' l'=>n'<=n/\c2n σ f 0 n' l'
 | .gen n f, .cells l'=>c2r σ f 0 n l'
 | .raw ts D sz F, .raw ts' D' sz' F'=>ts=ts'/\F=F'/\sz=sz'/\D=D'
 | _, .raw _ _ _ _=>False
 | c,c'=>c'.size<=c.size/\∀ i,i<c'.size->z5 σ (c.at i) (c'.at i)
theorem a7U{σ:Sig}:∀ {x y:List SV},q9 σ x y->x.length=y.length
 | [],[],_=>rfl
 | [],_ :: _,h=>by simp[q9]at h
 | _ :: _,[],h=>by simp[q9]at h
 | x :: r,y :: s,h=>by simp only[q9]at h;simp[a7U h.2]
theorem a7P{σ:Sig}:∀ {x y:List SV},q9 σ x y->∀ {i:Nat},i<y.length->z5 σ ((I3 x i).getD .nilp) ((I3 y i).getD .nilp)
 | [],[],_,i,h=>by simp at h
 | [],_ :: _,h,_,_=>by simp[q9]at h
 | _ :: _,[],h,_,_=>by simp[q9]at h
 | x :: r,y :: s,h,i,hi=>by
  simp only[q9]at h
  cases i with
  | zero=>simpa [I3]using h.1
  | succ i=>simpa [I3]using a7P h.2 (by simpa using hi)
theorem a2U{σ:Sig}{c c':a9}(h:L6 σ c c'):c'.size<=c.size/\∀(ρ:Rho) i,i<c'.size->(c.at i).den ρ=(c'.at i).den (ρ.under σ):=by
 unfold L6 at h;split at h
 ·refine⟨by simp[a9.size,a7U h],λρ i hi=>J2 ρ σ _ _ (a7P h hi)⟩
 ·split at h
  ·rename_i hk;have:=a0a hk;subst this;exact⟨h.1,λρ i hi=>by simp[a9.at,SV.den,h.2 i hi]⟩
  ·exact h.elim
 ·split at h
  ·rename_i hk;have:=P3 hk;subst this;exact⟨h.1,λρ i hi=>by simp[a9.at,SV.den,h.2 i hi]⟩
  ·exact h.elim
 ·split at h
  ·rename_i xs hx;have:=O7 hx;subst this;refine⟨by simpa [a9.size]using h.1,λρ i hi=>?_⟩;have hi':i<xs.length:=Nat.lt_of_lt_of_le hi h.1;have:=h.2 i hi;simp only[a9.at,E6,List.getElem?_map,List.getElem?_eq_getElem hi',Option.map_some,Option.getD_some,SV.den];rw[List.getD_eq_getElem?_getD,List.getElem?_eq_getElem hi',Option.getD_some]at this;rw[this]
  ·exact h.elim
 ·split at h
  ·rename_i xs hx;have:=O1 hx;subst this;refine⟨by simpa [a9.size]using h.1,λρ i hi=>?_⟩;have hi':i<xs.length:=Nat.lt_of_lt_of_le hi h.1;have:=h.2 i hi;simp only[a9.at,E6,List.getElem?_map,List.getElem?_eq_getElem hi',Option.map_some,Option.getD_some,SV.den];rw[List.getD_eq_getElem?_getD,List.getElem?_eq_getElem hi',Option.getD_some]at this;rw[this]
  ·exact h.elim
 ·rename_i l n l';obtain⟨h1,h2⟩:=a5F h;rw[Nat.zero_add]at h1;refine⟨by simp[a9.size,h1],λρ i hi=>J2 ρ σ _ _ (h2 i (by have hi':i<n:=hi;omega))⟩
 ·rename_i n l n' l';obtain⟨rfl,h⟩:=h;refine⟨Nat.le_refl _,λρ i hi=>?_⟩;have hi':0+i<n':=by have:i<n':=hi;omega
  exact J2 ρ σ _ _ (a4L h i hi')
 ·rename_i n f n' l';refine⟨h.1,λρ i hi=>?_⟩;have hi':0+i<n':=by have:i<n':=hi;omega
  have:=a8j h.2 i hi';rw[Nat.zero_add]at this;exact J2 ρ σ _ _ this
 ·rename_i n f l';obtain⟨h1,h2⟩:=a7E h;refine⟨by rw[Nat.zero_add]at h1;exact h1,λρ i hi=>?_⟩;have:=h2 i hi;rw[Nat.zero_add]at this;exact J2 ρ σ _ _ this
 ·exact⟨Nat.le_refl _,λρ i hi=>absurd hi (Nat.not_lt_zero i)⟩
 ·exact h.elim
 ·exact⟨h.1,λρ i hi=>J2 ρ σ _ _ (h.2 i hi)⟩
theorem a3W{σ:Sig}{c:a9}{ts D sz F}(h:L6 σ c (.raw ts D sz F)):c=.raw ts D sz F:=by
 cases c <;> simp only[L6]at h
 obtain⟨rfl,rfl,rfl,rfl⟩:=h;rfl
def a9.void:a9->Prop
 | .raw _ D _ _=>∀ b,¬D b
 | c=>c.size=0
theorem a9.void_size{c:a9}(h:c.void):c.size=0:=by
 cases c <;> first|exact h|rfl
def obR(σ:Sig)(o o':Ob):Prop :=
 match o'.rw with
 | false=>L6 σ o.c o'.c
 | true=>match o.rw with
  | false=>False
  | true=>o.elem=o'.elem/\o.es=o'.es/\L6 σ o.c o'.c
theorem Q0{σ:Sig}{o o':Ob}(h:obR σ o o'):L6 σ o.c o'.c/\(o'.rw=true->o.rw=true/\o.elem=o'.elem/\o.es=o'.es):=by
 unfold obR at h;split at h
 ·rename_i hr;exact⟨h,λh'=>by rw[hr]at h';cases h'⟩
 ·split at h
  ·exact h.elim
  ·rename_i hr;exact⟨h.2.2,λ_=>⟨hr,h.1,h.2.1⟩⟩
theorem W4.other{w:World}{ρ:Rho}{σ:Sig}{o o':Ob}(h:obR σ o o'){p:Option (Nat×Nat×Nat)}(hs:W4 w ρ o p):W4 w (ρ.under σ) o' p:=by
 obtain⟨hc,hr⟩:=Q0 h;obtain⟨h1,h2⟩:=a2U hc
 cases p with
 | none =>
  have:o.c.size=0:=hs;show o'.c.size=0;omega
 | some q =>
  obtain⟨b,off,cp⟩:=q;refine⟨λi hi=>?_,λh'=>?_,λh'=>hs.2.2 (by omega)⟩
  ·rw[<-h2 ρ i hi];exact hs.1 i (by omega)
  ·obtain⟨h3,h4,h5⟩:=hr h';obtain⟨h6,arr,h7,h8,h9,h10⟩:=hs.2.1 h3;exact⟨h6,arr,by rw[<-h4];exact h7,by omega,λhh=>by rw[<-h5];exact h9 (by rw[h5];exact hh),h10⟩
def a9.und(N:Nat):a9->Prop
 | .cells l=>a0t N l=true
 | .ints _ _ _=>True
 | .flts _ _ _=>True
 | .gen n f=>∀ i,i<n->(f i).und N=true
 | .upto _ l=>a0t N l=true
 | .raw _ _ _ _=>True
theorem a9.und_bd{N:Nat}{c:a9}(h:c.und N):c.bd (·< N):=by
 intro i hi
 cases c with
 | cells l =>
  have:=Z0 l h;have hi':i<l.length:=hi;simp only[a9.at,E6,List.getElem?_eq_getElem hi',Option.getD_some];exact(G8 _ l).1 this _ (List.getElem_mem hi')
 | ints k n g=>trivial
 | flts k n g=>trivial
 | gen n f=>exact SV.und_bd _ (h i hi)
 | upto n l =>
  have:=Z0 l h;simp only[a9.at,E6]
  cases hg:l[i]? with
  | none=>trivial
  | some v=>exact(G8 _ l).1 this _ (List.mem_of_getElem? hg)
 | raw ts D sz F=>exact absurd hi (Nat.not_lt_zero i)
abbrev Q9:=List (Nm×Option Nm)
def a1H:Q9->Sig
 | [],n=>some n
 | (m,x) :: r,n=>match Nat.beq m n with
  | true=>x
  | false=>a1H r n
def a4a(σ:Sig)(sl:Slots)(N:Nat):Slots->Prop
 | []=>True
 | (t,v') :: r=>(match slot sl t with
  | some v=>v'.und N=true/\z5 σ v v'
  | none=>False)/\a4a σ sl N r
def a1n(σ:Sig)(H:A1)(N:Nat):A1->Prop
 | []=>True
 | (n,o') :: r=>(Nat.blt n N=true/\o'.c.und N/\match σ n with
  | some m=>match look H m with
   | some o=>obR σ o o'
   | none=>False
  | none=>o'.c.void)/\a1n σ H N r
def a8W(n:Nm):List Nm->Bool
 | []=>false
 | m :: r=>Nat.beq m n||a8W n r
def R1:List Nm->Bool
 | []=>true
 | n :: r => !a8W n r&&R1 r
def Ob.gone:Ob->Bool
 | ⟨false,_, .cells [],_⟩=>true
 | _=>false
theorem Ob.gone_spec{o:Ob}(h:o.gone=true):o.rw=false/\o.c.size=0/\∀ ts D sz F,o.c≠ .raw ts D sz F:=by
 unfold Ob.gone at h;split at h
 ·exact⟨rfl,rfl,λ_ _ _ _ h=>by cases h⟩
 ·cases h
theorem Ob.gone_not{o:Ob}(h:o.rw=true∨0<o.c.size):o.gone=false:=by
 cases hg:o.gone
 ·rfl
 ·obtain⟨h1,h2,_⟩:=Ob.gone_spec hg;rcases h with h|h
  ·rw[h1]at h;cases h
  ·omega
def L8(σ:Sig):A1->List Nm
 | []=>[]
 | (n,o) :: r=>match o.gone with
  | true=>L8 σ r
  | false=>match σ n with
   | some m=>m :: L8 σ r
   | none=>L8 σ r
def b6f(N0:Nat):Q9->Bool
 | []=>true
 | (n,_) :: r=>Nat.ble N0 n&&b6f N0 r
theorem a8a{N0:Nat}:∀ {s:Q9},b6f N0 s=true->∀ n,n<N0->a1H s n=some n
 | [],_,n,_=>rfl
 | (m,x) :: r,h,n,hn=>by
  simp only[b6f,bA9]at h;have hm:=Nat.le_of_ble_eq_true h.1;simp only[a1H];cases hb:Nat.beq m n
  ·exact a8a h.2 n hn
  ·have:=eB9 hb;omega
theorem a9P{σ:Sig}{n m:Nm}:∀ {H:A1} {o:Ob},look H n=some o->o.gone=false->σ n=some m->a8W m (L8 σ H)=true
 | [],o,h,_,_=>by simp[look]at h
 | (k,u) :: r,o,h,hg,hs=>by
  rw[g8]at h;simp only[L8];split at h
  ·rename_i e;subst e;cases h;simp[hs,hg,a8W]
  ·have:=a9P h hg hs;split
   ·exact this
   ·split
    ·simp[a8W,this]
    ·exact this
theorem a3N{σ:Sig}:∀ {H:A1},R1 (L8 σ H)=true->∀ {n m:Nm} {o o':Ob} {x:Nm},look H n=some o->look H m=some o'->o.gone=false->o'.gone=false->n≠m->σ n=some x->σ m=some x->False
 | [],_,n,m,o,o',x,h,_,_,_,_,_,_=>by simp[look]at h
 | (k,u) :: r,hd,n,m,o,o',x,hn,hm,hg,hg',hne,h1,h2=>by
  rw[g8]at hn hm;simp only[L8]at hd;split at hn
  ·rename_i e;subst e;cases hn;rw[if_neg hne]at hm;rw[hg,h1]at hd;simp only[R1,bA9,Bool.not_eq_true']at hd;rw[a9P hm hg' h2]at hd;exact absurd hd.1 (by decide)
  ·split at hm
   ·rename_i e;subst e;cases hm;rw[hg',h2]at hd;simp only[R1,bA9,Bool.not_eq_true']at hd;rw[a9P hn hg h1]at hd;exact absurd hd.1 (by decide)
   ·refine a3N ?_ hn hm hg hg' hne h1 h2;split at hd
    ·exact hd
    ·split at hd
     ·simp only[R1,bA9]at hd;exact hd.2
     ·exact hd
theorem a2b{σ:Sig}{sl:Slots}{N:Nat}:∀ {sl':Slots},a4a σ sl N sl'->∀ t v',slot sl' t=some v'->v'.und N=true/\∃ v,slot sl t=some v/\z5 σ v v'
 | [],_,t,v',h=>by simp[slot]at h
 | (s,u) :: r,h,t,v',hv=>by
  simp only[a4a]at h;rw[F7]at hv;split at hv
  ·rename_i e;subst e;simp only[oI9]at hv;subst hv;have h1:=h.1;split at h1
   ·rename_i v hsv;exact⟨h1.1,v,hsv,h1.2⟩
   ·exact h1.elim
  ·exact a2b h.2 t v' hv
theorem F9{σ:Sig}{H:A1}{N:Nat}:∀ {H':A1},a1n σ H N H'->∀ n o',look H' n=some o'->n<N/\o'.c.bd (·< N)/\
  ((∃ m o,σ n=some m/\look H m=some o/\obR σ o o')∨(σ n=none/\o'.c.void))
 | [],_,n,o',h=>by simp[look]at h
 | (s,u) :: r,h,n,o',ho=>by
  simp only[a1n]at h;rw[g8]at ho;split at ho
  ·rename_i e;subst e;simp only[oI9]at ho;subst ho;obtain⟨⟨h1,h2,h3⟩,_⟩:=h;refine⟨a2I h1,a9.und_bd h2,?_⟩;split at h3
   ·rename_i m hm;split at h3
    ·rename_i o hmo;exact .inl ⟨m,o,hm,hmo,h3⟩
    ·exact h3.elim
   ·rename_i hm;exact .inr ⟨hm,h3⟩
  ·exact F9 h.2 n o' ho
theorem HSat.other{W0:World}{Fr:Nat->Prop}{U:Nm->Prop}{H H':A1}{ρ:Rho}{w:World}{σ:Sig}{N:Nat}(h:HSat W0 Fr U H ρ w)(hh:a1n σ H N H')(hd:R1 (L8 σ H')=true) :
  HSat W0 Fr (·< N) H' (ρ.under σ) w where
 os:=h.os
 tape:=h.tape
 output:=h.output
 size:=h.size
 frlt:=h.frlt
 frame:=h.frame
 used:=λn o' hn=>(F9 hh n o' hn).1
 bd:=λn o' hn=>(F9 hh n o' hn).2.1
 obj:=λn o' hn=>by
  rcases (F9 hh n o' hn).2.2 with⟨m,o,h1,h2,h3⟩|⟨h1,h2⟩
  ·have:=W4.other h3 (h.obj m o h2);simpa [Rho.under,h1]using this
  ·simp only[Rho.under,h1];exact a9.void_size h2
 inj:=λn m o o' p q hn hm hne hr hr2 hp hq=>by
  rcases (F9 hh n o hn).2.2 with⟨n1,o1,h1,h2,h3⟩|⟨h1,h2⟩
  ·rcases (F9 hh m o' hm).2.2 with⟨n2,o2,h4,h5,h6⟩|⟨h4,h5⟩
   ·simp only[Rho.under,h1,h4]at hp hq;have hne2:n1≠n2:=λe=>a3N hd hn hm (Ob.gone_not (.inl hr)) (Ob.gone_not hr2) hne h1 (e▸h4)
    obtain⟨hc,hr'⟩:=Q0 h3;obtain⟨hc2,hr2'⟩:=Q0 h6;refine h.inj n1 n2 o1 o2 p q h2 h5 hne2 (hr' hr).1 ?_ hp hq;rcases hr2 with hr2|hr2
    ·exact .inl (hr2' hr2).1
    ·exact .inr (Nat.lt_of_lt_of_le hr2 (a2U hc2).1)
   ·simp only[Rho.under,h4]at hq;cases hq
  ·simp only[Rho.under,h1]at hp;cases hp
 free:=λn o' p hn hr hp=>by
  rcases (F9 hh n o' hn).2.2 with⟨m,o,h1,h2,h3⟩|⟨h1,h2⟩
  ·simp only[Rho.under,h1]at hp;exact h.free m o p h2 ((Q0 h3).2 hr).1 hp
  ·simp only[Rho.under,h1]at hp;cases hp
 rawd:=λn o' ts D sz F hn hr hc=>by
  rcases (F9 hh n o' hn).2.2 with⟨m,o,h1,h2,h3⟩|⟨h1,h2⟩
  ·obtain⟨h4,h5⟩:=Q0 h3;rw[hc]at h4;have k:=h.rawd m o ts D sz F h2 (h5 hr).1 (a3W h4);refine⟨k.sat,k.free,λm' o2 q hm' hne hr2 hq=>?_,λm' o2 ts' D' sz' F' hm' hne hr2 hc2=>?_⟩
   ·rcases (F9 hh m' o2 hm').2.2 with⟨m1,o1,h6,h7,h8⟩|⟨h6,h7⟩
    ·simp only[Rho.under,h6]at hq;obtain⟨h9,h10⟩:=Q0 h8;refine k.sep m1 o1 q h7 (λe=>a3N hd hm' hn (Ob.gone_not hr2) (Ob.gone_not (.inl hr)) hne h6 (e▸h1)) ?_ hq;rcases hr2 with hr2|hr2
     ·exact .inl (h10 hr2).1
     ·exact .inr (Nat.lt_of_lt_of_le hr2 (a2U h9).1)
    ·simp only[Rho.under,h6]at hq;cases hq
   ·rcases (F9 hh m' o2 hm').2.2 with⟨m1,o1,h6,h7,h8⟩|⟨h6,h7⟩
    ·obtain⟨h9,h10⟩:=Q0 h8;rw[hc2]at h9;exact k.sepr m1 o1 ts' D' sz' F' h7 (λe=>a3N hd hm' hn (Ob.gone_not (.inl hr2)) (Ob.gone_not (.inl hr)) hne h6 (e▸h1)) (h10 hr2).1 (a3W h9)
    ·rw[hc2]at h7;exact λb _=>h7 b
  ·rw[hc]at h2;exact⟨λb hb=>absurd hb (h2 b),λb hb=>absurd hb (h2 b),λ_ _ _ _ _ _ _=>h2 _,λ_ _ _ _ _ _ _ _ _ _ b hb=>absurd hb (h2 b)⟩
structure b7v (N0:Nat) (s:Q9) (S S':St):Prop where
 N:Nat.ble N0 S'.N=true
 fx:b6f N0 s=true
 nt:S'.nt=S.nt
 dist:R1 (L8 (a1H s) S'.H)=true
 sl:a4a (a1H s) S.sl S'.N S'.sl
 hp:a1n (a1H s) S.H S'.N S'.H
theorem B4.by_names{N0:Nat}{S S':St}(s:Q9)(h:b7v N0 s S S'):B4 N0 S S':=by
 refine⟨Nat.le_of_ble_eq_true h.N,λW0 Fr ρ a w hS=>⟨ρ.under (a1H s),⟨hS.h.other h.hp h.dist,?_⟩,λn hn=>by simp[Rho.under,a8a h.fx n hn]⟩⟩
 exact {
  nd:=hS.s.nd
  size:=by rw[hS.s.size,h.nt]
  bd:=λt v hv=>SV.und_bd _ (a2b h.sl t v hv).1
  val:=λt v hv=>by
   obtain⟨_,u,hu,he⟩:=a2b h.sl t v hv;rw[<-J2 ρ (a1H s) u v he]
   exact hS.s.val t u hu}
mutual
def SV.ren(θ:Nm->Nm):SV->SV
 | .ptr n o=>.ptr (θ n) o
 | .slc n o l c=>.slc (θ n) o l c
 | .slcc n l=>.slcc (θ n) l
 | .agg cs=>.agg (Y3 θ cs)
 | .tup vs=>.tup (Y3 θ vs)
 | .ifc t v=>.ifc t (v.ren θ)
 | .opt b t v=>.opt b t (v.ren θ)
 | .fn f a c=>.fn f (Y3 θ a) (Y3 θ c)
 | .tt=>.tt
 | .ff=>.ff
 | .bool b=>.bool b
 | .int k n=>.int k n
 | .flt k n=>.flt k n
 | .str s=>.str s
 | .nilp=>.nilp
 | .nils=>.nils
 | .nili=>.nili
 | .nilf=>.nilf
 | .sla a l c=>.sla a l c
 | .pb n b c=>.pb (θ n) b c
 | .dv n v=>.dv (θ n) v
 | .slb n b c l k=>.slb (θ n) b c l k
def Y3(θ:Nm->Nm):List SV->List SV
 | []=>[]
 | v :: r=>v.ren θ :: Y3 θ r
end
mutual
theorem SV.ren_den(ρ:Rho)(θ:Nm->Nm):∀ v:SV,(v.ren θ).den ρ=v.den λi=>ρ (θ i)
 | .ptr n o=>by simp[SV.ren,SV.den,Rho.addr]
 | .slc n o l c=>by simp[SV.ren,SV.den,Rho.addr]
 | .slcc n l=>by simp[SV.ren,SV.den,Rho.addrC,Rho.cap]
 | .agg cs=>by simp[SV.ren,SV.den,a1t ρ θ cs]
 | .tup cs=>by simp[SV.ren,SV.den,a1t ρ θ cs]
 | .ifc t v=>by simp[SV.ren,SV.den,SV.ren_den ρ θ v]
 | .opt b t v=>by cases b <;> simp[SV.ren,SV.den,SV.ren_den ρ θ v]
 | .fn f a c=>by simp[SV.ren,SV.den,a1t ρ θ a,a1t ρ θ c]
 | .tt | .ff | .bool _ | .int _ _ | .flt _ _ | .str _ | .nilp | .nils | .nili | .nilf | .sla _ _ _ | .pb _ _ _ | .dv _ _ | .slb _ _ _ _ _=>by simp[SV.ren,SV.den]
theorem a1t(ρ:Rho)(θ:Nm->Nm):∀ l:List SV,p8 ρ (Y3 θ l)=p8 (λi=>ρ (θ i)) l
 | []=>by simp[Y3,p8]
 | v :: r=>by simp[Y3,p8,SV.ren_den ρ θ v,a1t ρ θ r]
end
mutual
theorem SV.ren_bd{U V:Nm->Prop}{θ:Nm->Nm}(h:∀ n,U n->V (θ n)):∀ v:SV,v.bd U->(v.ren θ).bd V
 | .ptr n o=>by simpa [SV.ren,SV.bd]using h n
 | .slc n o l c=>by simpa [SV.ren,SV.bd]using h n
 | .slcc n l=>by simpa [SV.ren,SV.bd]using h n
 | .pb n _ _ | .dv n _ | .slb n _ _ _ _=>by simpa [SV.ren,SV.bd]using h n
 | .agg cs=>by simpa [SV.ren,SV.bd]using a3P h cs
 | .tup cs=>by simpa [SV.ren,SV.bd]using a3P h cs
 | .ifc t v=>by simpa [SV.ren,SV.bd]using SV.ren_bd h v
 | .opt b t v=>by simpa [SV.ren,SV.bd]using SV.ren_bd h v
 | .fn f a c=>by simpa [SV.ren,SV.bd]using λh1 h2=>⟨a3P h a h1,a3P h c h2⟩
 | .tt | .ff | .bool _ | .int _ _ | .flt _ _ | .str _ | .nilp | .nils | .nili | .nilf | .sla _ _ _=>by simp[SV.ren,SV.bd]
theorem a3P{U V:Nm->Prop}{θ:Nm->Nm}(h:∀ n,U n->V (θ n)):∀ l:List SV,bdL U l->bdL V (Y3 θ l)
 | []=>by simp[Y3,bdL]
 | v :: r=>by simpa [Y3,bdL]using λh1 h2=>⟨SV.ren_bd h v h1,a3P h r h2⟩
end
theorem b0v(θ:Nm->Nm):∀ l:List SV,(Y3 θ l).length=l.length
 | []=>rfl
 | v :: r=>by simp[Y3,b0v θ r]
theorem b0i(θ:Nm->Nm):∀(l:List SV)(i:Nat),i<l.length->(I3 (Y3 θ l) i).getD .nilp=((I3 l i).getD .nilp).ren θ
 | [],i,h=>by simp at h
 | v :: r,0,_=>by simp[Y3,I3]
 | v :: r,i+1,h=>by simpa [Y3,I3]using b0i θ r i (by simpa using h)
theorem a8b(θ:Nm->Nm):∀(l:List SV)(i:Nat),(I3 (Y3 θ l) i).getD .nilp=((I3 l i).getD .nilp).ren θ
 | [],i=>by simp[Y3,I3,SV.ren]
 | v :: r,0=>by simp[Y3,I3]
 | v :: r,i+1=>by simpa [Y3,I3]using a8b θ r i
def a9.ren(θ:Nm->Nm):a9->a9
 | .cells l=>.cells (Y3 θ l)
 | .ints k n g=>.ints k n g
 | .flts k n g=>.flts k n g
 | .gen n f=>.gen n λi=>(f i).ren θ
 | .upto n l=>.upto n (Y3 θ l)
 | .raw ts D sz F=>.raw ts D sz F
theorem a9.ren_raw{θ:Nm->Nm}{c:a9}{ts D sz F}(h:c.ren θ=.raw ts D sz F):c=.raw ts D sz F:=by
 cases c <;> simp_all[a9.ren]
theorem a9.ren_spec(θ:Nm->Nm)(c:a9):(c.ren θ).size=c.size/\∀ i,i<c.size->(c.ren θ).at i=(c.at i).ren θ:=by
 cases c with
 | cells l=>exact⟨by simp[a9.ren,a9.size,b0v],λi hi=>by simp only[a9.ren,a9.at];exact b0i θ l i hi⟩
 | ints k n g=>exact⟨rfl,λi hi=>by simp[a9.ren,a9.at,SV.ren]⟩
 | flts k n g=>exact⟨rfl,λi hi=>by simp[a9.ren,a9.at,SV.ren]⟩
 | gen n f=>exact⟨rfl,λi hi=>rfl⟩
 | upto n l=>exact⟨rfl,λi _=>a8b θ l i⟩
 | raw ts D sz F=>exact⟨rfl,λi hi=>absurd hi (Nat.not_lt_zero i)⟩
def Ob.ren(θ:Nm->Nm)(o:Ob):Ob:=⟨o.rw,o.elem,o.c.ren θ,o.es⟩
def V0(θ:Nm->Nm):A1->A1
 | []=>[]
 | (n,o) :: r=>(θ n,o.ren θ) :: V0 θ r
theorem a5R{θ:Nm->Nm}{n:Nm}{o:Ob}:∀ {h:A1},look (V0 θ h) n=some o->∃ i o0,look h i=some o0/\θ i=n/\o=o0.ren θ
 | [],h=>by simp[V0,look]at h
 | (m,u) :: r,h=>by
  simp only[V0,g8]at h;split at h
  ·rename_i e;simp only[oI9]at h;exact⟨m,u,by simp[g8],e,h.symm⟩
  ·rename_i e;obtain⟨i,o0,h1,h2,h3⟩:=a5R h;exact⟨i,o0,by rw[g8,if_neg (λe'=>e (by rw[e',h2]))];exact h1,h2,h3⟩
theorem a2C{θ:Nm->Nm}{i:Nm}{o:Ob}:∀ {h:A1},look h i=some o->∃ o',look (V0 θ h) (θ i)=some o'
 | [],h=>by simp[look]at h
 | (m,u) :: r,h=>by
  rw[g8]at h;simp only[V0,g8];split
  ·exact⟨_,rfl⟩
  ·rename_i e;split at h
   ·rename_i e';subst e';exact absurd rfl e
   ·exact a2C h
structure HC where
 args:List SV
 heap:A1
 val:SV
 wr:A1
 news:A1
 obl:Option Prop
inductive RdM where
 | fail
 | ret (hc:HC)
 | read (n:Nm) (k:Ob->RdM)
def RdM.run(rd:Nm->Option Ob):RdM->List Nm->Option (List Nm×HC)
 | .fail,_=>none
 | .ret hc,sg=>some (sg,hc)
 | .read n k,sg=>match rd n with
  | some o=>(k o).run rd (sg++[n])
  | none=>none
def RdM.All(Q:List (Nm×Ob)->HC->Prop):RdM->List (Nm×Ob)->Prop
 | .fail,_=>True
 | .ret hc,acc=>Q acc hc
 | .read n k,acc=>∀ o,(k o).All Q (acc++[(n,o)])
def z3:List (Nm×Ob)->List Nm
 | []=>[]
 | (n,_) :: r=>n :: z3 r
theorem a1g:∀ a b,z3 (a++b)=z3 a++z3 b
 | [],b=>rfl
 | (n,o) :: r,b=>by simp[z3,a1g r b]
theorem RdM.all_run{rd:Nm->Option Ob}{Q:List (Nm×Ob)->HC->Prop}:∀ {m:RdM} {acc:List (Nm×Ob)} {sg:List Nm} {hc:HC},m.All Q acc->(∀ p∈acc,rd p.1=some p.2)->m.run rd (z3 acc)=some (sg,hc)->
  ∃ acc',z3 acc'=sg/\(∀ p∈acc',rd p.1=some p.2)/\Q acc' hc
 | .fail,_,_,_,_,_,h=>by simp[RdM.run]at h
 | .ret hc',acc,sg,hc,hq,hacc,h=>by
  simp only[RdM.run,oI9,pI9]at h;obtain⟨rfl,rfl⟩:=h;exact⟨acc,rfl,hacc,hq⟩
 | .read n k,acc,sg,hc,hq,hacc,h=>by
  simp only[RdM.run]at h;split at h
  ·rename_i o ho;refine RdM.all_run (hq o) (acc:=acc++[(n,o)]) (λp hp=>?_) (by rw[a1g];exact h);rcases List.mem_append.1 hp with hp|hp
   ·exact hacc p hp
   ·simp only[List.mem_singleton]at hp;subst hp;exact ho
  ·cases h
theorem RdM.run_sg{rd:Nm->Option Ob}:∀ {m:RdM} {sg sg':List Nm} {hc:HC},m.run rd sg=some (sg',hc)->∀ n∈sg,n∈sg'
 | .fail,_,_,_,h=>by simp[RdM.run]at h
 | .ret hc',sg,sg',hc,h=>by
  simp only[RdM.run,oI9,pI9]at h;obtain⟨rfl,rfl⟩:=h;exact λn hn=>hn
 | .read n k,sg,sg',hc,h=>by
  simp only[RdM.run]at h;split at h
  ·exact λm hm=>RdM.run_sg h m (List.mem_append_left _ hm)
  ·cases h
theorem RdM.run_loc{rd rd':Nm->Option Ob}:∀ {m:RdM} {sg sg':List Nm} {hc:HC},m.run rd sg=some (sg',hc)->(∀ n∈sg',rd' n=rd n)->m.run rd' sg=some (sg',hc)
 | .fail,_,_,_,h,_=>by simp[RdM.run]at h
 | .ret hc',sg,sg',hc,h,_=>h
 | .read n k,sg,sg',hc,h,hr=>by
  simp only[RdM.run]at h ⊢;split at h
  ·rename_i o ho;have hn:n∈sg':=RdM.run_sg h n (by simp);rw[hr n hn,ho];exact RdM.run_loc h hr
  ·cases h
def J4(sg:List Nm)(nm:Nm):Nm->Nm:=λi=>match nth sg i with
 | some n=>n
 | none=>nm+(i-sg.length)
def B3(C:List SV->RdM):Con:=λargs rd nm=>match (C args).run rd []with
 | some (sg,hc)=>match R1 sg with
  | true=>some ⟨some (hc.val.ren (J4 sg nm)),V0 (J4 sg nm) hc.wr,V0 (J4 sg nm) hc.news,sg,hc.obl⟩
  | false=>none
 | none=>none
def a3d(σ:Sig)(N:Nat):Nat->List (Nm×Ob)->A1->Prop
 | _,[],[]=>True
 | i,(_,o) :: r,(j,o') :: r'=>Nat.beq i j=true/\o'.c.und N/\obR σ o o'/\a3d σ N (i+1) r r'
 | _,_,_=>False
def a2i(k:Nat)(H0:A1):A1->Bool
 | []=>true
 | (i,_) :: r=>(Nat.blt i k&&match look H0 i with
  | some o=>o.rw
  | none=>false)&&a2i k H0 r
def a1y(k:Nat):A1->Bool
 | []=>true
 | (i,o) :: r=>(Nat.ble k i&&Nat.blt i (k+24)&&o.rw)&&a1y k r
def b1t(wr:A1):A1->Bool
 | []=>true
 | (i,o) :: r=>(match o.rw with
  | true=>match look wr i with
   | some _=>true
   | none=>false
  | false=>true)&&b1t wr r
def z8(sg:List Nm):Sig:=λi=>nth sg i
def L3(k:Nat)(tau:List (Option Nm)):Sig:=λi=>match Nat.blt i k with
 | true=>some i
 | false=>match nth tau (i-k)with
  | some x=>x
  | none=>none
structure a0S (k:Nat) (hc:HC) (S:St) (v:SV) (tau:List (Option Nm)):Prop where
 val:z5 (L3 k tau) v hc.val
 vu:hc.val.und (k+24)=true
 hp:a1n (L3 k tau) S.H (k+24) (hc.wr++hc.news)
 dist:R1 (L8 (L3 k tau) (hc.wr++hc.news))=true
structure b9f (P:Program) (G:Ctx) (c:Code) (fn:Func) (args:List SV) (acc:List (Nm×Ob)) (hc:HC):Prop where
 args:q9 (z8 (z3 acc)) args hc.args
 argsU:a0t acc.length hc.args=true
 argsN:Nat.ble hc.args.length fn.ntmps=true
 pre:a3d (z8 (z3 acc)) acc.length 0 acc hc.heap
 wr:a2i acc.length hc.heap hc.wr=true
 news:a1y acc.length hc.news=true
 rw:b1t hc.wr hc.heap=true
 run:Wp P acc.length c (A6 fn.ntmps hc.args hc.heap acc.length) (A8 G.E.T fn.results.toList λS v=>∃ tau,a0S acc.length hc S v tau)
structure c2g (G:Ctx) (c:Code) (fn:Func) (args:List SV) (acc:List (Nm×Ob)) (hc:HC):Prop where
 args:q9 (z8 (z3 acc)) args hc.args
 argsU:a0t acc.length hc.args=true
 argsN:Nat.ble hc.args.length fn.ntmps=true
 pre:a3d (z8 (z3 acc)) acc.length 0 acc hc.heap
 wr:a2i acc.length hc.heap hc.wr=true
 news:a1y acc.length hc.news=true
 rw:b1t hc.wr hc.heap=true
 run:a0G G acc.length c (A6 fn.ntmps hc.args hc.heap acc.length) (A8 G.E.T fn.results.toList λS v=>∃ tau,a0S acc.length hc S v tau)
theorem b0m:∀ a,(z3 a).length=a.length
 | []=>rfl
 | (n,o) :: r=>by simp[z3,b0m r]
theorem a2f:∀(a:List (Nm×Ob))(i:Nat),nth (z3 a) i=(a[i]?).map (·.1)
 | [],i=>by simp[z3,nth]
 | (n,o) :: r,0=>by simp[z3,nth]
 | (n,o) :: r,i+1=>by simp[z3,nth,a2f r i]
theorem a6K{σ:Sig}{N:Nat}{H:A1}:∀ {i:Nat} {acc:List (Nm×Ob)} {h:A1},a3d σ N i acc h->(∀ p∈acc,look H p.1=some p.2)->(∀ j,j<acc.length->σ (i+j)=(acc[j]?).map (·.1))->i+acc.length<=N->a1n σ H N h
 | _,[],[],_,_,_,_=>trivial
 | _,[],_ :: _,h,_,_,_=>by simp[a3d]at h
 | _,_ :: _,[],h,_,_,_=>by simp[a3d]at h
 | i,(n,o) :: r,(j,o') :: r',h,hl,hs,hN=>by
  obtain⟨h1,h2,h3,h4⟩:=h;have hij:=eB9 h1;subst hij;have h0:=hs 0 (by simp);simp only[Nat.add_zero,List.getElem?_cons_zero,Option.map_some]at h0;simp only[a1n]
  refine⟨⟨?_,h2,?_⟩,a6K h4 (λp hp=>hl p (by simp[hp])) (λj hj=>by
   have:=hs (j+1) (by simpa using hj)
   simpa [Nat.add_assoc,Nat.add_comm 1 j]using this) (by simp at hN;omega)⟩
  ·refine Nat.ble_eq_true_of_le ?_;simp at hN;omega
  ·rw[h0];have:=hl (n,o) (by simp);simp only at this;simp only[this];exact h3
theorem a6W{σ:Sig}{N:Nat}{x:Nm}:∀ {i:Nat} {acc:List (Nm×Ob)} {h:A1},a3d σ N i acc h->(∀ j,j<acc.length->σ (i+j)=(acc[j]?).map (·.1))->a8W x (L8 σ h)=true->a8W x (z3 acc)=true
 | _,[],[],_,_,hm=>hm
 | _,[],_ :: _,h,_,_=>by simp[a3d]at h
 | _,_ :: _,[],h,_,_=>by simp[a3d]at h
 | i,(n,o) :: r,(k,o') :: r',h,hs,hm=>by
  obtain⟨h1,h2,h3,h4⟩:=h;have hij:=eB9 h1;subst hij;have h0:=hs 0 (by simp);simp only[Nat.add_zero,List.getElem?_cons_zero,Option.map_some]at h0
  have ih:=a6W (x:=x) h4 (λj hj=>by
   have:=hs (j+1) (by simpa using hj)
   simpa [Nat.add_assoc,Nat.add_comm 1 j]using this)
  simp only[L8,h0]at hm;simp only[z3,a8W,Bool.or_eq_true];split at hm
  ·exact .inr (ih hm)
  ·simp only[a8W,Bool.or_eq_true]at hm;rcases hm with hm|hm
   ·exact .inl hm
   ·exact .inr (ih hm)
theorem a4I{σ:Sig}{N:Nat}:∀ {i:Nat} {acc:List (Nm×Ob)} {h:A1},R1 (z3 acc)=true->a3d σ N i acc h->(∀ j,j<acc.length->σ (i+j)=(acc[j]?).map (·.1))->R1 (L8 σ h)=true
 | _,[],[],_,_,_=>rfl
 | _,[],_ :: _,_,h,_=>by simp[a3d]at h
 | _,_ :: _,[],_,h,_=>by simp[a3d]at h
 | i,(n,o) :: r,(k,o') :: r',hd,h,hs=>by
  obtain⟨h1,h2,h3,h4⟩:=h;have hij:=eB9 h1;subst hij;have h0:=hs 0 (by simp);simp only[Nat.add_zero,List.getElem?_cons_zero,Option.map_some]at h0
  have hs':∀ j,j<r.length->σ (i+1+j)=(r[j]?).map (·.1):=λj hj=>by
   have:=hs (j+1) (by simpa using hj);simpa [Nat.add_assoc,Nat.add_comm 1 j]using this
  simp only[z3,R1,bA9,Bool.not_eq_true']at hd;have ih:=a4I hd.2 h4 hs';simp only[L8,h0];split
  ·exact ih
  ·simp only[R1,bA9,Bool.not_eq_true'];refine⟨?_,ih⟩;rw[Bool.eq_false_iff];intro hm;rw[a6W h4 hs' hm]at hd;exact absurd hd.1 (by decide)
theorem a2c{k:Nat}{H0:A1}:∀ {h:A1},a2i k H0 h=true->∀(i:Nat) o,look h i=some o->i<k/\∃ o0,look H0 i=some o0/\o0.rw=true
 | [],_,i,o,h=>by simp[look]at h
 | (m,u) :: r,h,i,o,hi=>by
  simp only[a2i,bA9]at h;rw[g8]at hi;split at hi
  ·rename_i e;subst e;refine⟨a2I h.1.1,?_⟩;have h2:=h.1.2;split at h2
   ·rename_i o0 h0;exact⟨o0,h0,h2⟩
   ·cases h2
  ·exact a2c h.2 i o hi
theorem a1z{k:Nat}:∀ {h:A1},a1y k h=true->∀(i:Nat) o,look h i=some o->k<=i/\i<k+24/\o.rw=true
 | [],_,i,o,h=>by simp[look]at h
 | (m,u) :: r,h,i,o,hi=>by
  simp only[a1y,bA9]at h;rw[g8]at hi;split at hi
  ·rename_i e;subst e;simp only[oI9]at hi;subst hi;exact⟨Nat.le_of_ble_eq_true h.1.1.1,a2I h.1.1.2,h.1.2⟩
  ·exact a1z h.2 i o hi
theorem a7W{wr:A1}:∀ {h:A1},b1t wr h=true->∀ i o,look h i=some o->o.rw=true->∃ o',look wr i=some o'
 | [],_,i,o,h,_=>by simp[look]at h
 | (m,u) :: r,h,i,o,hi,hr=>by
  simp only[b1t,bA9]at h;rw[g8]at hi;split at hi
  ·rename_i e;subst e;simp only[oI9]at hi;subst hi;have h1:=h.1;rw[hr]at h1;simp only at h1;split at h1
   ·rename_i o' ho';exact⟨o',ho'⟩
   ·cases h1
  ·exact a7W h.2 i o hi hr
theorem Ob.ren_sat{w:World}{ρ ρ2:Rho}{θ:Nm->Nm}{N:Nat}{o:Ob}{p:Option (Nat×Nat×Nat)}(h:W4 w ρ o p)(hb:o.c.bd (·< N))(hθ:∀ i,i<N->ρ2 (θ i)=ρ i):W4 w ρ2 (o.ren θ) p:=by
 obtain⟨h1,h2⟩:=a9.ren_spec θ o.c
 have hd:∀ i,i<o.c.size->((o.c.ren θ).at i).den ρ2=(o.c.at i).den ρ:=λi hi=>by
  rw[h2 i hi,SV.ren_den];exact SV.den_congr (U:=(·< N)) hθ _ (hb i hi)
 cases p with
 | none =>
  have h0:o.c.size=0:=h;show (o.c.ren θ).size=0;omega
 | some q =>
  obtain⟨b,off,cp⟩:=q;refine⟨λi hi=>?_,λhr=>?_,λhr=>h.2.2 (by rw[<-h1];exact hr)⟩
  ·have hi':i<o.c.size:=by rw[<-h1];exact hi
   show _=some (((o.c.ren θ).at i).den ρ2);rw[hd i hi'];exact h.1 i hi'
  ·obtain⟨h3,arr,h4,h5⟩:=h.2.1 hr;refine⟨h3,arr,h4,?_⟩;show (o.c.ren θ).size<=_/\_;rw[h1];exact h5
theorem V3{T:Tys}{rs:List ResultVar}{K K':St->SV->Prop}(h:∀ S v,K S v->K' S v){e:Xt}{S:St}(hk:A8 T rs K e S):A8 T rs K' e S:=by
 have key:a7m T rs K S->a7m T rs K' S:=by
  intro hr;unfold a7m at hr ⊢;split at hr
  ·rename_i vs p hvs
   cases p with
   | none=>exact h _ _ hr
   | some p=>exact⟨hr.1,h _ _ hr.2⟩
  ·exact hr.elim
 cases e with
 | normal=>exact key hk
 | ret=>exact key hk
 | exit id=>exact hk.elim
def b3T(W0:World)(Fr:Nat->Prop)(U:Nm->Prop)(H:A1)(ρ:Rho)(nm:Nm)(θ:Nm->Nm)(hc:HC)(en:Ending)(w':World):Prop :=
 ∃ ρ2,(∀ n,U n->ρ2 n=ρ n)/\HSat W0 Fr (UU U nm) (V0 θ hc.wr++(V0 θ hc.news++H)) ρ2 w'/\
  ∃ v,some (hc.val.ren θ)=some v/\v.bd (UU U nm)/\en=.returned (v.den ρ2)
theorem a3R {P:Program} {G:Ctx} (hG:B7 P G) {f:Nat} {fn:Func} {c:Code} (hf:P.funcs[f]? = some fn) (hb:fn.body=some c) (hnm:(fn.name == "runtime.NumGoroutine")=false)
  {W0:World} {Fr:Nat->Prop} {U:Nm->Prop} {H:A1} {ρ:Rho} {w:World} {nm:Nm} {args:List SV} (hH:HSat W0 Fr U H ρ w) (hn:∀ j,j<24->¬U (nm+j))
  {acc:List (Nm×Ob)} (hlook:∀ p∈acc,look H p.1=some p.2) (hd:R1 (z3 acc)=true) {pargs:List SV} {pheap:A1}
  (hcargs:q9 (z8 (z3 acc)) args pargs) (hargsU:a0t acc.length pargs=true) (hargsN:Nat.ble pargs.length fn.ntmps=true) (hpre:a3d (z8 (z3 acc)) acc.length 0 acc pheap)
  {I:Type} {post:I->Prop} {out:I->HC}
  (hkeys:∀ i,post i->a2i acc.length pheap (out i).wr=true/\a1y acc.length (out i).news=true/\b1t (out i).wr pheap=true)
  (hrun:Wp P acc.length c (A6 fn.ntmps pargs pheap acc.length) (A8 G.E.T fn.results.toList λS v=>∃ i,post i/\∃ tau,a0S acc.length (out i) S v tau)) :
  CallsV P f (p8 ρ args).toArray w λen w'=>∃ i,post i/\b3T W0 Fr U H ρ nm (J4 (z3 acc) nm) (out i) en w':=by
 have hσ:∀ j,j<acc.length->z8 (z3 acc) (0+j)=(acc[j]?).map (·.1):=λj _=>by rw[Nat.zero_add];exact a2f acc j
 have hhp:a1n (z8 (z3 acc)) H acc.length pheap:=a6K hpre hlook hσ (by omega);have hs0:=hH.other hhp (a4I hd hpre hσ)
 let ρc:Rho:=ρ.under (z8 (z3 acc))
 let Frc:Nat->Prop:=λb=>b<w.heap.size/\(∀ i o p,look pheap i=some o->o.rw=true->ρc i=some p->p.1≠b)/\∀ i o ts D sz F,look pheap i=some o->o.rw=true->o.c=.raw ts D sz F->¬D b
 have hs1:HSat w Frc (·< acc.length) pheap ρc w :=
  {hs0 with
   os:=rfl,tape:=rfl,output:=rfl,size:=Nat.le_refl _
   frlt:=λb hb=>hb.1
   frame:=λ_ _=>rfl
   free:=λn o p hn hr hp hF=>hF.2.1 n o p hn hr hp rfl
   rawd:=λn o ts D sz F hn hr hc =>
    have k:=hs0.rawd n o ts D sz F hn hr hc
    ⟨k.sat,λb hb hF=>hF.2.2 n o ts D sz F hn hr hc hb,k.sep,k.sepr⟩}
 have hargs:p8 ρ args=p8 ρc pargs:=V2 ρ _ _ _ hcargs;refine .inl ⟨⟨fn,hf,hnm,by rw[hb];rfl⟩,?_⟩;refine calls_of_wp hf hb ?_;rw[hargs];refine hrun w Frc ρc ρc _ w _ (a6P hs1 (Z0 _ hargsU) (Nat.le_of_ble_eq_true hargsN)) (Nat.le_refl _) (λ_ _=>rfl) ?_;intro e S' ρ' a' w' hK hS hN hρ
 have fin:a7m G.E.T fn.results.toList (λS v=>∃ i,post i/\∃ tau,a0S acc.length (out i) S v tau) S'->a'.defers=[]/\∃ u,(results fn a'.tmps).run P w'=.ok u w'/\
   (∃ i,post i/\b3T W0 Fr U H ρ nm (J4 (z3 acc) nm) (out i) (.returned u) w'):=by
  intro hr;unfold a7m at hr;split at hr
  case h_2=>exact hr.elim
  rename_i vs q hvs;obtain⟨hq,ix,hix,tau,hpost⟩:=U7 hr;obtain⟨hkw,hkn,hkr⟩:=hkeys ix hix;obtain⟨h5,h6⟩:=a2N hG.E.T hS hvs hq;refine⟨hS.s.nd,_,h5,ix,hix,?_⟩;have hp:=hS.h.other hpost.hp hpost.dist
  let ρp:Rho:=ρ'.under (L3 acc.length tau)
  have hpk:∀ i:Nat,i<acc.length->ρp i=ρc i:=by
   intro i hi;show (match L3 acc.length tau i with|some m=>ρ' m|none=>none)=_
   have:L3 acc.length tau i=some i:=by
    unfold L3;rw[show Nat.blt i acc.length=true from Nat.ble_eq_true_of_le hi]
   rw[this];exact hρ i hi
  classical
  let ρ2:Rho:=λn=>if U n then ρ n else if nm<=n/\n<nm+24 then ρp (acc.length+(n-nm))else ρ n
  have hρU:∀ n,U n->ρ2 n=ρ n:=λn hU=>if_pos hU
  let θ:=J4 (z3 acc) nm
  have hθlo:∀ i:Nat,i<acc.length->∃ n o,acc[i]? = some (n,o)/\θ i=n/\look H n=some o:=by
   intro i hi;have hg:=a2f acc i;have he:acc[i]? = some acc[i]:=List.getElem?_eq_getElem hi;rw[he]at hg;refine⟨acc[i].1,acc[i].2,he,?_,hlook acc[i] (List.getElem_mem hi)⟩;show J4 (z3 acc) nm i=_;unfold J4;rw[hg];rfl
  have hθhi:∀ i:Nat,acc.length<=i->θ i=nm+(i-acc.length):=by
   intro i hi;have hg:=a2f acc i;rw[List.getElem?_eq_none hi]at hg;show J4 (z3 acc) nm i=_;unfold J4;rw[hg];simp[b0m]
  have hθ:∀ i:Nat,i<acc.length+24->ρ2 (θ i)=ρp i:=by
   intro i hi;by_cases hk:i<acc.length
   ·obtain⟨n,o,h1,h2,h3⟩:=hθlo i hk;rw[h2,hρU n (hH.used n o h3),hpk i hk];show ρ n=(match z8 (z3 acc) i with|some m=>ρ m|none=>none)
    have:z8 (z3 acc) i=some n:=by
     show nth (z3 acc) i=_;rw[a2f,h1];rfl
    rw[this]
   ·rw[hθhi i (by omega)];have hnU:¬U (nm+(i-acc.length)):=hn (i-acc.length) (show ((i-acc.length:Nat)<24) by omega);show (if U _ then _ else if _ then _ else _)=_;rw[if_neg hnU,if_pos ⟨Nat.le_add_right _ _,Nat.add_lt_add_left (show i-acc.length<24 by omega) nm⟩];congr 1;show acc.length+(nm+(i-acc.length)-nm)=i;omega
  have hθU:∀ i:Nat,i<acc.length+24->UU U nm (θ i):=by
   intro i hi;by_cases hk:i<acc.length
   ·obtain⟨n,o,h1,h2,h3⟩:=hθlo i hk;rw[h2];exact .inl (hH.used n o h3)
   ·rw[hθhi i (by omega)];exact .inr ⟨Nat.le_add_right _ _,Nat.add_lt_add_left (show i-acc.length<24 by omega) nm⟩
  have keyLt:∀ (i:Nat) o,look ((out ix).wr++(out ix).news) i=some o->i<acc.length+24:=by
   intro i o hi;exact hp.used i o hi
  have ent:∀ n o,look (V0 θ (out ix).wr++(V0 θ (out ix).news++H)) n=some o->
    (∃ i o0,look ((out ix).wr++(out ix).news) i=some o0/\θ i=n/\o=o0.ren θ)∨(look H n=some o/\look (V0 θ (out ix).wr) n=none):=by
   intro n o hno;rw[E0]at hno;split at hno
   ·rename_i o1 h1;simp only[oI9]at hno;subst hno;obtain⟨i,o0,h2,h3,h4⟩:=a5R h1;exact .inl ⟨i,o0,by rw[E0,h2],h3,h4⟩
   ·rename_i h1;rw[E0]at hno;split at hno
    ·rename_i o1 h2;simp only[oI9]at hno;subst hno;obtain⟨i,o0,h3,h4,h5⟩:=a5R h2;refine .inl ⟨i,o0,?_,h4,h5⟩;rw[E0]
     cases hw:look (out ix).wr i with
     | none=>exact h3
     | some o2 =>
      have ha:=(a2c hkw i o2 hw).1;have hb':=(a1z hkn i o0 h3).1;omega
    ·exact .inr ⟨hno,h1⟩
  have orig:∀ i o p,look pheap i=some o->o.rw=true->ρc i=some p->∃ n o1,look H n=some o1/\o1.rw=true/\ρ n=some p/\θ i=n:=by
   intro i o p hi hr hpi;obtain⟨h1,_,h2⟩:=F9 hhp i o hi;rcases h2 with⟨m,o1,h3,h4,h5⟩|⟨h3,_⟩
   ·refine⟨m,o1,h4,((Q0 h5).2 hr).1,?_,?_⟩
    ·have:ρc i=ρ m:=by
      show (match z8 (z3 acc) i with|some m=>ρ m|none=>none)=_;rw[h3]
     rw[<-this];exact hpi
    ·show J4 (z3 acc) nm i=m;unfold J4;have:nth (z3 acc) i=some m:=h3;rw[this]
   ·have:ρc i=none:=by
     show (match z8 (z3 acc) i with|some m=>ρ m|none=>none)=_;rw[h3]
    rw[this]at hpi;cases hpi
  have origRaw:∀ i o ts D sz F,look pheap i=some o->o.rw=true->o.c=.raw ts D sz F->(∃ m o1,look H m=some o1/\o1.rw=true/\o1.c=.raw ts D sz F/\θ i=m)∨∀ b,¬D b:=by
   intro i o ts D sz F hi hr hc;obtain⟨h1,_,h2⟩:=F9 hhp i o hi;rcases h2 with⟨m,o1,h3,h4,h5⟩|⟨h3,h4⟩
   ·obtain⟨h6,h7⟩:=Q0 h5;rw[hc]at h6;refine .inl ⟨m,o1,h4,(h7 hr).1,a3W h6,?_⟩;show J4 (z3 acc) nm i=m;unfold J4;have:nth (z3 acc) i=some m:=h3;rw[this]
   ·rw[hc]at h4;exact .inr h4
  have notWr:∀ i o n,look pheap i=some o->o.rw=true->look (V0 θ (out ix).wr) n=none->θ i≠n:=by
   intro i o n hi hr hnw e;obtain⟨o2,ho2⟩:=a7W hkr i o hi hr;obtain⟨o3,ho3⟩:=a2C (θ:=θ) ho2;rw[e,hnw]at ho3;cases ho3
  have oldFr:∀ n o p,look H n=some o->look (V0 θ (out ix).wr) n=none->(o.rw=true∨0<o.c.size)->ρ n=some p->Frc p.1:=by
   intro n o p hno hnw hor hpn;have hob:=hH.obj n o hno;rw[hpn]at hob;refine⟨?_,λi o' p' hi hr hpi e=>?_,λi o' ts D sz F hi hr hc hD=>?_⟩
   ·rcases hor with hor|hor
    ·exact W4.lt (b:=p.1) (off:=p.2.1) (cp:=p.2.2) hob hor
    ·exact a0H (hob.1 0 hor)
   ·obtain⟨m,o1,h1,h2,h3,h4⟩:=orig i o' p' hi hr hpi;have hne:m≠n:=λe'=>notWr i o' n hi hr hnw (h4.trans e')
    exact hH.inj m n o1 o p' p h1 hno hne h2 hor h3 hpn e
   ·rcases origRaw i o' ts D sz F hi hr hc with⟨m,o1,h1,h2,h3,h4⟩|h1
    ·have hne:n≠m:=λe'=>notWr i o' n hi hr hnw (h4.trans e'.symm)
     exact(hH.rawd m o1 ts D sz F h1 h2 h3).sep n o p hno hne hor hpn hD
    ·exact h1 _ hD
  have oldRaw:∀ n o ts D sz F,look H n=some o->look (V0 θ (out ix).wr) n=none->o.rw=true->o.c=.raw ts D sz F->∀ b,D b->Frc b:=by
   intro n o ts D sz F hno hnw hrn hcn b hDb;have k:=hH.rawd n o ts D sz F hno hrn hcn;refine⟨(k.sat b hDb).lt,λi o' p' hi hr hpi e=>?_,λi o' ts' D' sz' F' hi hr hc hD=>?_⟩
   ·obtain⟨m,o1,h1,h2,h3,h4⟩:=orig i o' p' hi hr hpi;have hne:m≠n:=λe'=>notWr i o' n hi hr hnw (h4.trans e')
    exact k.sep m o1 p' h1 hne (.inl h2) h3 (e▸hDb)
   ·rcases origRaw i o' ts' D' sz' F' hi hr hc with⟨m,o1,h1,h2,h3,h4⟩|h1
    ·have hne:m≠n:=λe'=>notWr i o' n hi hr hnw (h4.trans e')
     exact k.sepr m o1 ts' D' sz' F' h1 hne h2 h3 b hDb hD
    ·exact h1 _ hD
  have frSub:∀ b,Fr b->Frc b:=by
   intro b hF;refine⟨Nat.lt_of_lt_of_le (hH.frlt b hF) hH.size,λi o p hi hr hpi e=>?_,λi o ts D sz F hi hr hc hD=>?_⟩
   ·obtain⟨m,o1,h1,h2,h3,_⟩:=orig i o p hi hr hpi;exact hH.free m o1 p h1 h2 h3 (e▸hF)
   ·rcases origRaw i o ts D sz F hi hr hc with⟨m,o1,h1,h2,h3,_⟩|h1
    ·exact(hH.rawd m o1 ts D sz F h1 h2 h3).free b hD hF
    ·exact h1 _ hD
  have newFr:∀ i o p,look ((out ix).wr++(out ix).news) i=some o->ρp i=some p->¬Frc p.1:=by
   intro i o p hi hpi hF;have hi':=hi;rw[E0]at hi';split at hi'
   ·rename_i o1 h1;obtain⟨h2,o0,h3,h4⟩:=a2c hkw i o1 h1;rw[hpk i h2]at hpi;exact hF.2.1 i o0 p h3 h4 hpi rfl
   ·obtain⟨h2,h3,h4⟩:=a1z hkn i o hi';exact hp.free i o p hi h4 hpi hF
  refine⟨ρ2,hρU,?_,_,rfl,SV.ren_bd hθU _ (SV.und_bd _ hpost.vu),?_⟩
  ·refine {
    os:=hS.h.os.trans hH.os,tape:=hS.h.tape.trans hH.tape,output:=hS.h.output.trans hH.output
    size:=Nat.le_trans hH.size hS.h.size
    frlt:=hH.frlt
    frame:=λb hF=>(hS.h.frame b (frSub b hF)).trans (hH.frame b hF)
    used:=λn o hno=>?_
    bd:=λn o hno=>?_
    obj:=λn o hno=>?_
    inj:=λn1 n2 o1 o2 p q h1 h2 hne hr hr2 hp1 hq=>?_
    free:=λn o p hno hr hpn=>?_
    rawd:=λn o ts D sz F hno hr hcn=>?_}
   rotate_right
   ·rcases ent n o hno with⟨i,o0,h1,rfl,rfl⟩|⟨h1,h2⟩
    ·have k:=hp.rawd i o0 ts D sz F h1 hr (a9.ren_raw hcn);refine⟨k.sat,λb hb hF=>k.free b hb (frSub b hF),λm o' q hm hne hr2 hq=>?_,λm o' ts' D' sz' F' hm hne hr2 hc2 b hb hb2=>?_⟩
     ·rcases ent m o' hm with⟨i2,o2,h3,rfl,rfl⟩|⟨h3,h4⟩
      ·rw[hθ i2 (keyLt i2 o2 h3)]at hq;refine k.sep i2 o2 q h3 (λe=>hne (by rw[e])) (hr2.imp id λhh=>?_) hq;have:=(a9.ren_spec θ o2.c).1;have h0:0<(o2.c.ren θ).size:=hh;omega
      ·rw[hρU m (hH.used m o' h3)]at hq;exact λhD=>k.free _ hD (oldFr m o' q h3 h4 hr2 hq)
     ·rcases ent m o' hm with⟨i2,o2,h3,rfl,rfl⟩|⟨h3,h4⟩
      ·exact k.sepr i2 o2 ts' D' sz' F' h3 (λe=>hne (by rw[e])) hr2 (a9.ren_raw hc2) b hb hb2
      ·exact k.free b hb (oldRaw m o' ts' D' sz' F' h3 h4 hr2 hc2 b hb2)
    ·have k:=hH.rawd n o ts D sz F h1 hr hcn;refine⟨λb hb=>(k.sat b hb).congr λ_=>hS.h.frame b (oldRaw n o ts D sz F h1 h2 hr hcn b hb),k.free,λm o' q hm hne hr2 hq hD=>?_,λm o' ts' D' sz' F' hm hne hr2 hc2 b hb hb2=>?_⟩
     ·rcases ent m o' hm with⟨i2,o2,h3,rfl,rfl⟩|⟨h3,h4⟩
      ·rw[hθ i2 (keyLt i2 o2 h3)]at hq;exact newFr i2 o2 q h3 hq (oldRaw n o ts D sz F h1 h2 hr hcn _ hD)
      ·rw[hρU m (hH.used m o' h3)]at hq;exact k.sep m o' q h3 hne hr2 hq hD
     ·rcases ent m o' hm with⟨i2,o2,h3,rfl,rfl⟩|⟨h3,h4⟩
      ·exact(hp.rawd i2 o2 ts' D' sz' F' h3 hr2 (a9.ren_raw hc2)).free b hb2 (oldRaw n o ts D sz F h1 h2 hr hcn b hb)
      ·exact k.sepr m o' ts' D' sz' F' h3 hne hr2 hc2 b hb hb2
   ·rcases ent n o hno with⟨i,o0,h1,rfl,h3⟩|⟨h1,_⟩
    ·exact hθU i (keyLt i o0 h1)
    ·exact .inl (hH.used n o h1)
   ·rcases ent n o hno with⟨i,o0,h1,rfl,rfl⟩|⟨h1,_⟩
    ·intro j hj;obtain⟨hsz,hat⟩:=a9.ren_spec θ o0.c;have hj':j<o0.c.size:=by rw[<-hsz];exact hj
     show ((o0.c.ren θ).at j).bd _;rw[hat j hj'];exact SV.ren_bd hθU _ (hp.bd i o0 h1 j hj')
    ·exact a9.bd_mono a0U (hH.bd n o h1)
   ·rcases ent n o hno with⟨i,o0,h1,rfl,rfl⟩|⟨h1,h2⟩
    ·rw[hθ i (keyLt i o0 h1)];exact Ob.ren_sat (hp.obj i o0 h1) (hp.bd i o0 h1) hθ
    ·rw[hρU n (hH.used n o h1)];refine(hH.obj n o h1).congr (λb off cp hpn hor _=>?_) (λj hj=>SV.den_congr hρU _ (hH.bd n o h1 j hj));exact hS.h.frame b (oldFr n o (b,off,cp) h1 h2 hor hpn)
   ·rcases ent n1 o1 h1 with⟨i1,o3,h3,rfl,rfl⟩|⟨h3,h4⟩
    ·rw[hθ i1 (keyLt i1 o3 h3)]at hp1;rcases ent n2 o2 h2 with⟨i2,o4,h5,rfl,rfl⟩|⟨h5,h6⟩
     ·rw[hθ i2 (keyLt i2 o4 h5)]at hq;refine hp.inj i1 i2 o3 o4 p q h3 h5 (λe=>hne (by rw[e])) hr ?_ hp1 hq;rcases hr2 with hr2|hr2
      ·exact .inl hr2
      ·refine .inr ?_;have:=(a9.ren_spec θ o4.c).1;have h0:0<(o4.c.ren θ).size:=hr2;omega
     ·rw[hρU n2 (hH.used n2 o2 h5)]at hq;intro e;exact newFr i1 o3 p h3 hp1 (e▸oldFr n2 o2 q h5 h6 hr2 hq)
    ·rw[hρU n1 (hH.used n1 o1 h3)]at hp1;rcases ent n2 o2 h2 with⟨i2,o4,h5,rfl,rfl⟩|⟨h5,h6⟩
     ·rw[hθ i2 (keyLt i2 o4 h5)]at hq;intro e;exact newFr i2 o4 q h5 hq (e▸oldFr n1 o1 p h3 h4 (.inl hr) hp1)
     ·rw[hρU n2 (hH.used n2 o2 h5)]at hq;exact hH.inj n1 n2 o1 o2 p q h3 h5 hne hr hr2 hp1 hq
   ·rcases ent n o hno with⟨i,o0,h1,rfl,rfl⟩|⟨h1,_⟩
    ·rw[hθ i (keyLt i o0 h1)]at hpn;exact λhF=>newFr i o0 p h1 hpn (frSub _ hF)
    ·rw[hρU n (hH.used n o h1)]at hpn;exact hH.free n o p h1 hr hpn
  ·congr 1;rw[J2 ρ' _ _ _ hpost.val,SV.ren_den];exact(SV.den_congr (U:=(·< acc.length+24)) hθ _ (SV.und_bd _ hpost.vu)).symm
 cases e with
 | normal=>exact fin hK
 | ret=>exact fin hK
 | exit id=>exact hK.elim
theorem a5S {P:Program} {G:Ctx} (hG:B7 P G) {f:Nat} {fn:Func} {c:Code} (hf:P.funcs[f]? = some fn) (hb:fn.body=some c) (hnm:(fn.name == "runtime.NumGoroutine")=false) {C:List SV->RdM}
  (h:∀ args,(C args).All (λacc hc=>okP hc.obl->b9f P G c fn args acc hc) []):C4 P f (B3 C) where
 loc:=by
  intro args rd rd' nm e hc hr;unfold B3 at *;split at hc
  ·rename_i sg hc0 hrun;split at hc
   ·rename_i hd;have he:=hc;simp only[oI9]at he;subst he;simp only[RdM.run_loc hrun hr,hd]
   ·cases hc
  ·cases hc
 calls:=by
  intro W0 Fr U H ρ w nm args e hH hbd hn hc ho;unfold B3 at hc;split at hc
  case h_2=>cases hc
  rename_i sg hc0 hrun;split at hc
  case h_2=>cases hc
  rename_i hd;simp only[oI9]at hc;subst hc;obtain⟨acc,hacc,hlook,hQ⟩:=RdM.all_run (rd:=look H) (h args) (acc:=[]) (by simp) hrun;have hcall:=hQ ho;subst hacc
  exact(a3R hG hf hb hnm hH hn hlook hd hcall.args hcall.argsU hcall.argsN hcall.pre (I:=Unit) (post:=λ_=>True) (out:=λ_=>hc0)
   (λ_ _=>⟨hcall.wr,hcall.news,hcall.rw⟩) (Wp.mono hcall.run λ_ _ hk=>V3 (λ_ _ hp=>⟨(),trivial,hp⟩) hk)).mono λ_ _ ⟨_,_,h⟩=>h
theorem RdM.All.imp{Q Q':List (Nm×Ob)->HC->Prop}(hq:∀ acc hc,Q acc hc->Q' acc hc):∀ {m:RdM} {acc:List (Nm×Ob)},m.All Q acc->m.All Q' acc
 | .fail,_,_=>trivial
 | .ret _,_,h=>hq _ _ h
 | .read _ _,_,h=>λo=>RdM.All.imp hq (h o)
theorem b8R {P:Program} {G:Ctx} (hG:B7 P G) {f:Nat} {fn:Func} {c:Code} (hf:P.funcs[f]? = some fn) (hb:fn.body=some c) (hnm:(fn.name == "runtime.NumGoroutine")=false) {C:List SV->RdM}
  (h:∀ args,(C args).All (λacc hc=>okP hc.obl->c2g G c fn args acc hc) []):C4 P f (B3 C) :=
 a5S hG hf hb hnm λargs=>(h args).imp λ_ _ hc ho =>
  let hk:=hc ho
  ⟨hk.args,hk.argsU,hk.argsN,hk.pre,hk.wr,hk.news,hk.rw,Wp.run hG hk.run⟩
def b6g:Q9->Nm->Bool
 | [],_=>false
 | (m,_) :: r,n=>Nat.beq m n||b6g r n
def Z4(N0:Nat)(n':Nm)(m:Option Nm)(s:Q9):Q9 :=
 match Nat.ble N0 n' with
 | true=>match b6g s n' with
  | true=>s
  | false=>(n',m) :: s
 | false=>s
mutual
def b7G(N0:Nat):SV->Q9->Q9
 | .ptr n' _,s=>Z4 N0 n' none s
 | .slc n' _ _ _,s=>Z4 N0 n' none s
 | .slcc n' _,s=>Z4 N0 n' none s
 | .pb n' _ _,s=>Z4 N0 n' none s
 | .dv n' _,s=>Z4 N0 n' none s
 | .slb n' _ _ _ _,s=>Z4 N0 n' none s
 | .agg b,s=>b1k N0 b s
 | .tup b,s=>b1k N0 b s
 | .ifc _ v',s=>b7G N0 v' s
 | .opt _ _ v',s=>b7G N0 v' s
 | .fn _ a' c',s=>b1k N0 c' (b1k N0 a' s)
 | _,s=>s
def b1k(N0:Nat):List SV->Q9->Q9
 | y :: ys,s=>b1k N0 ys (b7G N0 y s)
 | [],s=>s
end
mutual
def a3t(N0:Nat):SV->SV->Q9->Q9
 | .ptr n _, .ptr n' _,s=>Z4 N0 n' (some n) s
 | .slc n _ _ _, .slc n' _ _ _,s=>Z4 N0 n' (some n) s
 | .slcc n _, .slcc n' _,s=>Z4 N0 n' (some n) s
 | .nils, .slcc n' _,s=>Z4 N0 n' none s
 | .pb n _ _, .pb n' _ _,s=>Z4 N0 n' (some n) s
 | .dv n _, .dv n' _,s=>Z4 N0 n' (some n) s
 | .slb n _ _ _ _, .slb n' _ _ _ _,s=>Z4 N0 n' (some n) s
 | .agg a, .agg b,s=>a8y N0 a b s
 | .tup a, .tup b,s=>a8y N0 a b s
 | .ifc _ v, .ifc _ v',s=>a3t N0 v v' s
 | .fn _ a c, .fn _ a' c',s=>a8y N0 c c' (a8y N0 a a' s)
 | .nili, .ifc _ v',s=>b7G N0 v' s
 | .nili, .opt _ _ v',s=>b7G N0 v' s
 | .ifc _ v, .opt _ _ v',s=>a3t N0 v v' s
 | .opt _ _ v, .ifc _ v',s=>a3t N0 v v' s
 | .opt _ _ v, .opt _ _ v',s=>a3t N0 v v' s
 | .nilp, .ptr n' _,s=>Z4 N0 n' none s
 | _,_,s=>s
def a8y(N0:Nat):List SV->List SV->Q9->Q9
 | x :: xs,y :: ys,s=>a8y N0 xs ys (a3t N0 x y s)
 | _,_,s=>s
end
def b7j(N0:Nat)(sl:Slots):Slots->Q9->Q9
 | [],s=>s
 | (t,v') :: r,s=>b7j N0 sl r (match slot sl t with
  | some v=>a3t N0 v v' s
  | none=>s)
def b7r(N0:Nat)(f:Nat->SV)(i:Nat):List SV->Q9->Q9
 | y :: ys,s=>b7r N0 f (i+1) ys (a3t N0 (f i) y s)
 | [],s=>s
def a8N(N0:Nat):List SV->List SV->Q9->Q9
 | x :: xs,y :: ys,s=>a8N N0 xs ys (a3t N0 x y s)
 | _,ys,s=>b1k N0 ys s
def c6s(N0:Nat)(c c':a9)(s:Q9):Q9 :=
 match c,c' with
 | .cells l, .cells l'=>a8y N0 l l' s
 | .cells l, .upto _ l'=>a8N N0 l l' s
 | .upto _ l, .upto _ l'=>a8N N0 l l' s
 | .gen _ f, .upto _ l'=>b7r N0 f 0 l' s
 | .gen _ f, .cells l'=>b7r N0 f 0 l' s
 | _,_=>s
def b6E:Q9->Nm->Option (Option Nm)
 | [],_=>none
 | (m,x) :: r,n=>match Nat.beq m n with
  | true=>some x
  | false=>b6E r n
def a6w(N0:Nat)(H:A1):A1->Q9->Q9
 | [],s=>s
 | (n',o') :: r,s=>a6w N0 H r (match (match Nat.ble N0 n' with|true=>b6E s n'|false=>some (some n'))with
  | some (some m)=>match look H m with
   | some o=>c6s N0 o.c o'.c s
   | none=>s
  | some none=>match o'.c with
   | .upto _ l'=>b1k N0 l' s
   | .cells l'=>b1k N0 l' s
   | _=>s
  | _=>s)
def a3M(N0:Nat)(S S':St):Q9:=a6w N0 S.H S'.H (a6w N0 S.H S'.H (a6w N0 S.H S'.H (b7j N0 S.sl S'.sl [])))
theorem B4.auto{N0:Nat}{S S':St}(h:b7v N0 (a3M N0 S S') S S'):B4 N0 S S':=B4.by_names _ h
def K7(s:Q9)(n:Nm):Option Nm:=match b6E s n with
 | some x=>x
 | none=>none
def a9R(k:Nat)(hc:HC)(S:St)(v:SV):List (Option Nm) :=
 let s:=a6w k S.H (hc.wr++hc.news) (a6w k S.H (hc.wr++hc.news) (a6w k S.H (hc.wr++hc.news) (a3t k v hc.val [])))
 [K7 s k,K7 s (k+1),K7 s (k+2),K7 s (k+3),K7 s (k+4),K7 s (k+5),K7 s (k+6),K7 s (k+7),K7 s (k+8),K7 s (k+9),K7 s (k+10),K7 s (k+11),K7 s (k+12),K7 s (k+13),K7 s (k+14),K7 s (k+15),K7 s (k+16),K7 s (k+17),K7 s (k+18),K7 s (k+19),K7 s (k+20),K7 s (k+21),K7 s (k+22),K7 s (k+23)]
theorem g9{n:Nm}:L1 (some n) n:=by simp[L1]
mutual
theorem SV.bd_all:∀ v:SV,v.bd λ_=>True
 | .ptr _ _=>trivial
 | .slc _ _ _ _=>trivial
 | .slcc _ _=>trivial
 | .pb _ _ _ | .dv _ _ | .slb _ _ _ _ _=>trivial
 | .agg cs=>a3m cs
 | .tup cs=>a3m cs
 | .ifc _ v=>SV.bd_all v
 | .opt _ _ v=>SV.bd_all v
 | .fn _ a c=>⟨a3m a,a3m c⟩
 | .tt | .ff | .bool _ | .int _ _ | .flt _ _ | .str _ | .nilp | .nils | .nili | .nilf | .sla _ _ _=>by simp[SV.bd]
theorem a3m:∀ l:List SV,bdL (λ_=>True) l
 | []=>trivial
 | v :: r=>⟨SV.bd_all v,a3m r⟩
end
def p9(fn:Func):Code:=match fn.body with
 | some c=>c
 | none=>.skip
theorem j5{n:Int}(h1 : -9223372036854775808<=n)(h2:n<9223372036854775808):IntKind.i64.wrap n=n:=by
 show (if (true&&decide (n % (18446744073709551616:Int)>=9223372036854775808))=true then n % (18446744073709551616:Int)-18446744073709551616 else n % (18446744073709551616:Int))=n;rw[Bool.true_and];split
 ·rename_i h;have h:=oT9 h;omega
 ·rename_i h;have h:¬_:=λh'=>h (decide_eq_true h');omega
theorem b4a{n:Int}(h1:0<=n)(h2:n<18446744073709551616):IntKind.u64.wrap n=n:=by
 show (if (false&&decide (n % (18446744073709551616:Int)>=9223372036854775808))=true then n % (18446744073709551616:Int)-18446744073709551616 else n % (18446744073709551616:Int))=n;rw[Bool.false_and,if_neg (by decide)];omega
def y7(k:IntKind):a9->Option (Nat×(Nat->Int))
 | .cells l=>match a1K k l with
  | some xs=>some (xs.length,λi=>xs.getD i 0)
  | none=>none
 | .ints k' n g=>match kEq k' k with
  | true=>some (n,g)
  | false=>none
 | _=>none
def A9(k:FloatKind):a9->Option (Nat×(Nat->Nat))
 | .cells l=>match a1G k l with
  | some xs=>some (xs.length,λi=>xs.getD i 0)
  | none=>none
 | .flts k' n g=>match a4c k' k with
  | true=>some (n,g)
  | false=>none
 | _=>none
theorem a7h{k:IntKind}{c:a9}{n:Nat}{g:Nat->Int}(h:y7 k c=some (n,g)):c.size=n/\∀ i,i<n->c.at i=.int k (g i):=by
 unfold y7 at h;split at h
 ·split at h
  ·rename_i l xs hxs;simp only[oI9,pI9]at h;obtain⟨rfl,rfl⟩:=h;have:=O7 hxs;subst this;refine⟨by simp[a9.size],λi hi=>?_⟩;simp[a9.at,E6,hi]
  ·cases h
 ·split at h
  ·rename_i hk;have:=a0a hk;subst this;simp only[oI9,pI9]at h;obtain⟨rfl,rfl⟩:=h;exact⟨rfl,λi _=>rfl⟩
  ·cases h
 ·cases h
theorem a7t{k:FloatKind}{c:a9}{n:Nat}{g:Nat->Nat}(h:A9 k c=some (n,g)):c.size=n/\∀ i,i<n->c.at i=.flt k (g i):=by
 unfold A9 at h;split at h
 ·split at h
  ·rename_i l xs hxs;simp only[oI9,pI9]at h;obtain⟨rfl,rfl⟩:=h;have:=O1 hxs;subst this;refine⟨by simp[a9.size],λi hi=>?_⟩;simp[a9.at,E6,hi]
  ·cases h
 ·split at h
  ·rename_i hk;have:=P3 hk;subst this;simp only[oI9,pI9]at h;obtain⟨rfl,rfl⟩:=h;exact⟨rfl,λi _=>rfl⟩
  ·cases h
 ·cases h
theorem A0(k:IntKind):kEq k k=true:=by cases k <;> rfl
theorem C0(k:FloatKind):a4c k k=true:=by cases k <;> rfl
theorem y6{σ:Sig}{k:IntKind}{c:a9}{n:Nat}{g:Nat->Int}(h:y7 k c=some (n,g)):L6 σ c (.ints k n g)/\L6 σ (.ints k n g) c/\∀ N,c.und N:=by
 obtain⟨h1,h2⟩:=a7h h
 have hr:∀ i,i<n->z5 σ (c.at i) ((a9.ints k n g).at i)/\z5 σ ((a9.ints k n g).at i) (c.at i):=λi hi=>by
  rw[h2 i hi];simp[a9.at,z5,A0]
 cases c with
 | cells l =>
  refine⟨?_,⟨by rw[h1];exact Nat.le_refl _,λi hi=>(hr i (by rw[<-h1];exact hi)).2⟩,λN=>?_⟩
  ·unfold y7 at h;simp only at h;split at h
   ·rename_i xs hxs;simp only[oI9,pI9]at h;obtain⟨rfl,rfl⟩:=h;simp[L6,hxs]
   ·cases h
  unfold y7 at h;simp only at h;split at h
  ·rename_i xs hxs;have:=O7 hxs;subst this;show a0t N _=true;clear h h1 h2 hr hxs
   induction xs with
   | nil=>rfl
   | cons x r ih=>simpa [a0t,SV.und]using ih
  ·cases h
 | ints k' m g' =>
  unfold y7 at h;simp only at h;split at h
  ·rename_i hk;have:=a0a hk;subst this;simp only[oI9,pI9]at h;obtain⟨rfl,rfl⟩:=h;refine⟨?_,?_,λN=>trivial⟩ <;> simp[L6,A0]
  ·cases h
 | flts k' m g'=>simp[y7]at h
 | gen m f=>simp[y7]at h
 | upto m l=>simp[y7]at h
 | raw ts D sz F=>simp[y7]at h
theorem C6{σ:Sig}{k:FloatKind}{c:a9}{n:Nat}{g:Nat->Nat}(h:A9 k c=some (n,g)):L6 σ c (.flts k n g)/\L6 σ (.flts k n g) c/\∀ N,c.und N:=by
 obtain⟨h1,h2⟩:=a7t h
 have hr:∀ i,i<n->z5 σ (c.at i) ((a9.flts k n g).at i)/\z5 σ ((a9.flts k n g).at i) (c.at i):=λi hi=>by
  rw[h2 i hi];simp[a9.at,z5,C0]
 cases c with
 | cells l =>
  refine⟨?_,⟨by rw[h1];exact Nat.le_refl _,λi hi=>(hr i (by rw[<-h1];exact hi)).2⟩,λN=>?_⟩
  ·unfold A9 at h;simp only at h;split at h
   ·rename_i xs hxs;simp only[oI9,pI9]at h;obtain⟨rfl,rfl⟩:=h;simp[L6,hxs]
   ·cases h
  unfold A9 at h;simp only at h;split at h
  ·rename_i xs hxs;have:=O1 hxs;subst this;show a0t N _=true;clear h h1 h2 hr hxs
   induction xs with
   | nil=>rfl
   | cons x r ih=>simpa [a0t,SV.und]using ih
  ·cases h
 | flts k' m g' =>
  unfold A9 at h;simp only at h;split at h
  ·rename_i hk;have:=P3 hk;subst this;simp only[oI9,pI9]at h;obtain⟨rfl,rfl⟩:=h;refine⟨?_,?_,λN=>trivial⟩ <;> simp[L6,C0]
  ·cases h
 | ints k' m g'=>simp[A9]at h
 | gen m f=>simp[A9]at h
 | upto m l=>simp[A9]at h
 | raw ts D sz F=>simp[A9]at h
def Y0(b:Bool)(p:Prop):Prop :=
 match b with
 | true=>p
 | false=>False
theorem F8{b:Bool}{p:Prop}(h:Y0 b p):b=true/\p:=by
 cases b
 ·exact h.elim
 ·exact⟨rfl,h⟩
def a9L(σ:Sig)(sl:Slots)(N:Nat):Slots->Prop
 | []=>True
 | (t,v') :: r=>match slot sl t with
  | some v=>Y0 (v'.und N) (z5 σ v v'/\a9L σ sl N r)
  | none=>False
def a9.undP(N:Nat):a9->Prop
 | .cells l=>Y0 (a0t N l) True
 | .ints _ _ _=>True
 | .flts _ _ _=>True
 | .gen n f=>∀ i,i<n->(f i).und N=true
 | .upto _ l=>Y0 (a0t N l) True
 | .raw _ _ _ _=>True
def b0z(σ:Sig)(H:A1)(N:Nat):A1->Prop
 | []=>True
 | (n,o') :: r=>Y0 (Nat.blt n N) (o'.c.undP N/\(match σ n with
  | some m=>match look H m with
   | some o=>obR σ o o'
   | none=>False
  | none=>o'.c.void)/\b0z σ H N r)
theorem a4F{σ:Sig}{sl:Slots}{N:Nat}:∀ {s:Slots},a9L σ sl N s->a4a σ sl N s
 | [],_=>trivial
 | (t,v') :: r,h=>by
  unfold a9L at h;unfold a4a;split at h
  ·rename_i v hv;obtain⟨h1,h2,h3⟩:=F8 h;refine⟨?_,a4F h3⟩
   first|exact⟨h1,h2⟩|(rw[hv];exact⟨h1,h2⟩)
  ·exact h.elim
theorem a9.undP_spec{N:Nat}{c:a9}(h:c.undP N):c.und N:=by
 cases c with
 | cells l=>exact(F8 h).1
 | ints k n g=>trivial
 | flts k n g=>trivial
 | gen n f=>exact h
 | upto n l=>exact(F8 h).1
 | raw ts D sz F=>trivial
theorem a2G{σ:Sig}{H:A1}{N:Nat}:∀ {s:A1},b0z σ H N s->a1n σ H N s
 | [],_=>trivial
 | (n,o') :: r,h=>by
  unfold b0z at h;unfold a1n;obtain⟨h1,h2,h3,h4⟩:=F8 h;exact⟨⟨h1,a9.undP_spec h2,h3⟩,a2G h4⟩
def a4C(N0:Nat)(S S':St):Prop :=
 Y0 (Nat.ble N0 S'.N&&(b6f N0 (a3M N0 S S')&&(Nat.beq S'.nt S.nt&&R1 (L8 (a1H (a3M N0 S S')) S'.H))))
  (a9L (a1H (a3M N0 S S')) S.sl S'.N S'.sl/\b0z (a1H (a3M N0 S S')) S.H S'.N S'.H)
theorem H9{N0:Nat}{S S':St}(h:a4C N0 S S'):B4 N0 S S':=by
 obtain⟨h1,h2,h3⟩:=F8 h;simp only[bA9]at h1;obtain⟨h4,h5,h6,h7⟩:=h1;exact B4.auto ⟨h4,h5,eB9 h6,h7,a4F h2,a2G h3⟩
structure Fam where
 ι:Type
 I:ι->St
 inv:ι->Prop
 μ:ι->Nat
abbrev Ann:=List (Nat×Fam)
def ann:Ann->Nat->Option Fam
 | [],_=>none
 | (m,v) :: r,n=>match Nat.beq m n with
  | true=>some v
  | false=>ann r n
def a0j:Code->Option Nat
 | .region id _ _=>some id
 | .seq x y=>match a0j x with
  | some i=>some i
  | none=>a0j y
 | .block _ x=>a0j x
 | .loop x=>a0j x
 | _=>none
def b4j(A:Ann)(c:Code):Option Fam :=
 match a0j c with
 | some i=>ann A i
 | none=>none
structure R5 where
 f:Fam
 cuts:f.ι->Ann
instance:Coe Fam R5:=⟨λf=>⟨f,λ_=>[]⟩⟩
inductive LA where
 | fam (f:R5)
 | unr (l:List Fam)
 | alt (l:List R5)
 | unrD (f:St->List Fam)
 | iter (n:Nat)
instance:Coe R5 LA:=⟨.fam⟩
instance:Coe Fam LA:=⟨λf=>.fam f⟩
abbrev a7i:=List (Nat×LA)
def c5D:a7i->Nat->Option LA
 | [],_=>none
 | (m,v) :: r,n=>match Nat.beq m n with
  | true=>some v
  | false=>c5D r n
def b8g(A:a7i)(c:Code):Option LA :=
 match a0j c with
 | some i=>c5D A i
 | none=>none
def a1l:Ann->Ann->Ann
 | [],B=>B
 | x :: r,B=>x :: a1l r B
def a6M(N0:Nat)(S:St):List Fam->Prop
 | []=>False
 | J :: _=>∃ i,J.inv i/\a4C N0 S (J.I i)
def a9K(N0:Nat)(run:St->(Xt->St->Prop)->Prop)(K:Xt->St->Prop):List Fam->Prop
 | []=>True
 | J :: r=>(∀ i,J.inv i->run (J.I i) (λe S'=>match e with
  | .normal=>a6M N0 S' r
  | e=>K e S'))/\a9K N0 run K r
def b0L(run:St->(Xt->St->Prop)->Prop)(K:Xt->St->Prop):Nat->St->Prop
 | 0,_=>False
 | n+1,S=>run S (λe S'=>match e with
  | .normal=>b0L run K n S'
  | e=>K e S')
def b2i(N0:Nat)(run:Ann->St->(Xt->St->Prop)->Prop)(S:St)(K:Xt->St->Prop)(J:R5):Prop :=
 (∃ i,J.f.inv i/\a4C N0 S (J.f.I i))/\∀ i,J.f.inv i->run (J.cuts i) (J.f.I i) (λe S'=>match e with
  | .normal=>∃ i',J.f.inv i'/\J.f.μ i'<J.f.μ i/\a4C N0 S' (J.f.I i')
  | e=>K e S')
def b5t(N0:Nat)(run:Ann->St->(Xt->St->Prop)->Prop)(S:St)(K:Xt->St->Prop):List R5->Prop
 | []=>False
 | J :: r=>b2i N0 run S K J∨b5t N0 run S K r
def U9(G:Ctx)(N0:Nat)(A:a7i):Code->Ann->St->(Xt->St->Prop)->Prop
 | .skip,_,S,K=>K .normal S
 | .region _ ops draw,_,S,K=>match draw with
  | false=>a9N G ops.toList ops.toList S (K .normal)
  | true=>b2J G ops.toList S (K .normal) 20 []
 | .seq x y,B,S,K=>match b4j B y with
  | none=>U9 G N0 A x B S (λe S'=>match e with
   | .normal=>U9 G N0 A y B S' K
   | e=>K e S')
  | some J=>U9 G N0 A x B S (λe S'=>match e with
   | .normal=>∃ j,J.inv j/\a4C N0 S' (J.I j)
   | e=>K e S')/\∀ j,J.inv j->U9 G N0 A y B (J.I j) K
 | .cond c x y,B,S,K=>match opr S.sl c with
  | some .tt=>U9 G N0 A x B S K
  | some .ff=>U9 G N0 A y B S K
  | some (.bool b)=>(b=true->U9 G N0 A x B S K)/\(b=false->U9 G N0 A y B S K)
  | _=>False
 | .block id x,B,S,K=>U9 G N0 A x B S (λe S'=>match e with
  | .exit j=>match Nat.beq j id with
   | true=>K .normal S'
   | false=>K (.exit j) S'
  | e=>K e S')
 | .exit id,_,S,K=>K (.exit id) S
 | .ret,_,S,K=>K .ret S
 | .loop x,B,S,K=>match b8g A x with
  | none=>match b4j B x with
   | none=>False
   | some J=>b2i N0 (λB' S' K'=>U9 G N0 A x (a1l B' B) S' K') S K ⟨J,λ_=>[]⟩
  | some (.unr l)=>a6M N0 S l/\a9K N0 (λS' K'=>U9 G N0 A x B S' K') K l
  | some (.unrD f)=>a6M N0 S (f S)/\a9K N0 (λS' K'=>U9 G N0 A x B S' K') K (f S)
  | some (.iter n)=>b0L (λS' K'=>U9 G N0 A x B S' K') K n S
  | some (.fam J)=>b2i N0 (λB' S' K'=>U9 G N0 A x (a1l B' B) S' K') S K J
  | some (.alt l)=>b5t N0 (λB' S' K'=>U9 G N0 A x (a1l B' B) S' K') S K l
 | _,_,_,_=>False
def J3(G:Ctx)(N0:Nat)(A:a7i)(B:Ann)(c:Code)(S:St)(K:Xt->St->Prop):Prop:=U9 G N0 A c B S K
section
variable {P:Program} {G:Ctx}
theorem Wp.refines'{N0:Nat}{S S1:St}{K:Xt->St->Prop}{c:Code}(hr:B4 N0 S S1)(h:Wp P N0 c S1 K):Wp P N0 c S K:=by
 intro W0 Fr ρ0 ρ a w Q hS hN hρ hK;obtain⟨ρ',h1,h2⟩:=hr.2 W0 Fr ρ a w hS;exact h W0 Fr ρ0 ρ' a w Q h1 hr.1 (λn hn=>(h2 n hn).trans (hρ n hn)) hK
theorem Wp.iter{N0:Nat}{x:Code}{K:Xt->St->Prop}{run:St->(Xt->St->Prop)->Prop}(hrun:∀ S K,run S K->Wp P N0 x S K)(n:Nat)(S:St)(h:b0L run K n S):Wp P N0 (.loop x) S K:=by
 intro W0 Fr ρ0 ρ a w Q hS hN hρ hK;refine Z7 (λi a w=>∃ S1 ρ',Sat W0 Fr S1 ρ' a w/\N0<=S1.N/\(∀ n,n<N0->ρ' n=ρ0 n)/\b0L run K i S1) (λi=>i) ?_ (i0:=n) ⟨S,ρ,hS,hN,hρ,h⟩;rintro i a1 w1 ⟨S1,ρ1,hS1,hN1,hρ1,hi⟩
 cases i with
 | zero=>exact(hi:False).elim
 | succ i =>
  refine hrun S1 _ hi W0 Fr ρ0 ρ1 a1 w1 _ hS1 hN1 hρ1 λe S' ρ' a' w' h' hS' hN' hρ'=>?_
  cases e with
  | normal=>exact⟨i,⟨S',ρ',hS',hN',hρ',h'⟩,Nat.lt_succ_self i⟩
  | exit id=>exact hK (.exit id) S' ρ' a' w' h' hS' hN' hρ'
  | ret=>exact hK .ret S' ρ' a' w' h' hS' hN' hρ'
theorem b2j(hG:B7 P G){N0:Nat}{A:a7i}:∀(c:Code) {B:Ann} {S:St} {K:Xt->St->Prop},U9 G N0 A c B S K->Wp P N0 c S K:=by
 intro c
 induction c with
 | skip=>intro B S K h;exact Wp.run hG h
 | region id ops draw=>intro B S K h;exact Wp.run hG h
 | seq x y ihx ihy =>
  intro B S K h;unfold U9 at h;split at h
  ·exact Wp.seq (ihx h) (λS' h'=>ihy h') (λ_ _ h=>h) (λ_ h=>h)
  ·rename_i J hJ;obtain⟨h1,h2⟩:=h;refine Wp.seq (ihx h1) (λS' h'=>?_) (λ_ _ h=>h) (λ_ h=>h);obtain⟨j,hj,hf⟩:=h';exact Wp.refines' (H9 hf) (ihy (h2 j hj))
 | cond c x y ihx ihy =>
  intro B S K h W0 Fr ρ0 ρ a w Q hS hN hρ hK;unfold U9 at h;split at h
  ·rename_i hv;exact wp_cond_true (by simpa [SV.den]using (H6 hS.s hv).1) (ihx h W0 Fr ρ0 ρ a w Q hS hN hρ hK)
  ·rename_i hv;exact wp_cond_false (by simpa [SV.den]using (H6 hS.s hv).1) (ihy h W0 Fr ρ0 ρ a w Q hS hN hρ hK)
  ·rename_i b hv;have hb:=(H6 hS.s hv).1;simp only[SV.den]at hb;exact wp_cond_split hb (λe=>ihx (h.1 e) W0 Fr ρ0 ρ a w Q hS hN hρ hK) (λe=>ihy (h.2 e) W0 Fr ρ0 ρ a w Q hS hN hρ hK)
  ·exact h.elim
 | block id x ih =>
  intro B S K h;exact Wp.block (ih h)
 | exit id=>intro B S K h;exact Wp.run hG h
 | ret=>intro B S K h;exact Wp.run hG h
 | loop x ih =>
  intro B S K h
  have hfam:∀ J:R5,b2i N0 (λB' S' K'=>U9 G N0 A x (a1l B' B) S' K') S K J->Wp P N0 (.loop x) S K:=by
   intro J h;obtain⟨⟨i0,h0,hf⟩,hr⟩:=h;refine Wp.loop (ι:={i:J.f.ι // J.f.inv i}) (λi=>J.f.I i.1) (λi=>J.f.μ i.1) ⟨i0,h0⟩ (H9 hf) λi=>?_
   refine Wp.mono (ih (hr i.1 i.2)) λe S' h'=>?_
   cases e with
   | normal =>
    obtain⟨i',h1,h2,h3⟩:=h';exact⟨⟨i',h1⟩,h2,H9 h3⟩
   | exit id=>exact h'
   | ret=>exact h'
  have hunr:∀ l:List Fam,(a6M N0 S l/\a9K N0 (λS' K'=>U9 G N0 A x B S' K') K l)->Wp P N0 (.loop x) S K:=by
   intro l h;obtain⟨h0,h1⟩:=h
   have key:∀(l:List Fam),a9K N0 (λS' K'=>U9 G N0 A x B S' K') K l->∀(k:Nat)(J:Fam),l[k]? = some J->∀ i,J.inv i->Wp P N0 x (J.I i) (λe S'=>match e with
     | .normal=>∃ J':Fam,l[k+1]? = some J'/\∃ i',J'.inv i'/\a4C N0 S' (J'.I i')
     | e=>K e S'):=by
    intro l
    induction l with
    | nil=>intro _ k J hk;simp at hk
    | cons J0 r ihl =>
     intro hu k J hk i hi;obtain⟨hu1,hu2⟩:=hu
     cases k with
     | zero =>
      simp only[List.getElem?_cons_zero,oI9]at hk;subst hk;refine Wp.mono (ih (hu1 i hi)) λe S' h'=>?_
      cases e with
      | normal =>
       cases r with
       | nil=>exact(h':False).elim
       | cons J1 r1=>exact⟨J1,rfl,h'⟩
      | exit id=>exact h'
      | ret=>exact h'
     | succ k =>
      simp only[List.getElem?_cons_succ]at hk;refine Wp.mono (ihl hu2 k J hk i hi) λe S' h'=>?_
      cases e with
      | normal =>
       obtain⟨J',h2,h3⟩:=h';exact⟨J',by simpa using h2,h3⟩
      | exit id=>exact h'
      | ret=>exact h'
   cases l with
   | nil=>exact(h0:False).elim
   | cons J0 r =>
    obtain⟨i0,hi0,hf⟩:=h0;refine Wp.loop (ι:={q:(Σ k:Fin (J0 :: r).length,((J0 :: r).get k).ι) // ((J0 :: r).get q.1).inv q.2}) (λq=>((J0 :: r).get q.1.1).I q.1.2) (λq=>(J0 :: r).length-q.1.1.val) ⟨⟨⟨0,Nat.succ_pos _⟩,i0⟩,hi0⟩ (H9 hf) λq=>?_
    obtain⟨⟨⟨k,hk⟩,i⟩,hi⟩:=q;refine Wp.mono (key _ h1 k _ (List.getElem?_eq_getElem hk) i hi) λe S' h'=>?_
    cases e with
    | normal =>
     obtain⟨J',h2,i',h3,h4⟩:=h';obtain⟨hlt,h5⟩:=List.getElem?_eq_some_iff.1 h2;subst h5;exact⟨⟨⟨⟨k+1,hlt⟩,i'⟩,h3⟩,by show (J0 :: r).length-(k+1)<(J0 :: r).length-k;omega,H9 h4⟩
    | exit id=>exact h'
    | ret=>exact h'
  unfold U9 at h;split at h
  ·split at h
   ·exact h.elim
   ·rename_i J hJ;exact hfam ⟨J,λ_=>[]⟩ h
  ·rename_i l hl;exact hunr l h
  ·rename_i f hf;exact hunr (f S) h
  ·rename_i n hn;exact Wp.iter (λS K=>ih) n S h
  ·rename_i J hJ;exact hfam J h
  ·rename_i l hl
   have:∀ l:List R5,b5t N0 (λB' S' K'=>U9 G N0 A x (a1l B' B) S' K') S K l->Wp P N0 (.loop x) S K:=by
    intro l
    induction l with
    | nil=>intro h;exact(h:False).elim
    | cons J r ihl =>
     intro h;rcases h with h|h
     ·exact hfam J h
     ·exact ihl h
   exact this l h
 | _=>intro B S K h;exact(h:False).elim
theorem a0E(hG:B7 P G){N0:Nat}{A:a7i}{B:Ann}(c:Code){S:St}{K:Xt->St->Prop}(h:J3 G N0 A B c S K):Wp P N0 c S K:=b2j hG c h
end
def D5(k:Nat)(hc:HC)(S:St)(v:SV):Prop :=
 Y0 (hc.val.und (k+24)&&R1 (L8 (L3 k (a9R k hc S v)) (hc.wr++hc.news)))
  (z5 (L3 k (a9R k hc S v)) v hc.val/\b0z (L3 k (a9R k hc S v)) S.H (k+24) (hc.wr++hc.news))
theorem a0A{k:Nat}{hc:HC}{S:St}{v:SV}(h:D5 k hc S v):∃ tau,a0S k hc S v tau:=by
 obtain⟨h1,h2,h3⟩:=F8 h;simp only[bA9]at h1;exact⟨_,h2,h1.1,a2G h3,h1.2⟩
theorem O5{fn:Func}(hb:fn.body.isNone=false):fn.body=some (p9 fn):=by
 unfold p9
 cases h:fn.body with
 | none=>rw[h]at hb;cases hb
 | some c=>rfl
theorem G6 {P:Program} {G:Ctx} (hG:B7 P G) {f:Nat} {fn:Func} (hf:P.funcs[f]? = some fn) (hb:fn.body.isNone=false) (hnm:(fn.name == "runtime.NumGoroutine")=false) {F:PF}
  (h:∀ args v p,F args=some (v,p)->okP p->(v.closed&&(F0 args&&Nat.ble args.length fn.ntmps))=true/\
   ∃ A B,J3 G 0 A B (p9 fn) (A6 fn.ntmps args [] 0) (A8 G.E.T fn.results.toList λ_ v'=>eqv v' v)):E8 P f F :=
 a5B hG hf (O5 hb) hnm λargs v p hF hp=>by
  obtain⟨h1,A,B,h2⟩:=h args v p hF hp;simp only[bA9]at h1;exact⟨h1.1,h1.2.1,h1.2.2,a0E hG _ h2⟩
def b9x(σ:Sig)(N:Nat):Nat->List (Nm×Ob)->A1->Prop
 | _,[],[]=>True
 | i,(_,o) :: r,(j,o') :: r'=>Y0 (Nat.beq i j) (o'.c.undP N/\obR σ o o'/\b9x σ N (i+1) r r')
 | _,_,_=>False
theorem V4{σ:Sig}{N:Nat}:∀ {i:Nat} {r:List (Nm×Ob)} {h:A1},b9x σ N i r h->a3d σ N i r h
 | _,[],[],_=>trivial
 | i,(_,o) :: r,(j,o') :: r',h=>by
  obtain⟨h1,h2,h3,h4⟩:=F8 h;exact⟨h1,a9.undP_spec h2,h3,V4 h4⟩
 | _,[],_ :: _,h=>h.elim
 | _,_ :: _,[],h=>h.elim
def c0X(fn:Func)(args:List SV)(acc:List (Nm×Ob))(hc:HC):Prop :=
 Y0 (a0t acc.length hc.args&&(Nat.ble hc.args.length fn.ntmps&&(a2i acc.length hc.heap hc.wr&&(a1y acc.length hc.news&&b1t hc.wr hc.heap))))
  (q9 (z8 (z3 acc)) args hc.args/\b9x (z8 (z3 acc)) acc.length 0 acc hc.heap)
theorem A5 {P:Program} {G:Ctx} (hG:B7 P G) {f:Nat} {fn:Func} (hf:P.funcs[f]? = some fn) (hb:fn.body.isNone=false) (hnm:(fn.name == "runtime.NumGoroutine")=false) {C:List SV->RdM}
  (h:∀ args,(C args).All (λacc hc=>okP hc.obl->c0X fn args acc hc/\
   ∃ A B,J3 G acc.length A B (p9 fn) (A6 fn.ntmps hc.args hc.heap acc.length) (A8 G.E.T fn.results.toList λS v=>D5 acc.length hc S v)) []):C4 P f (B3 C) :=
 a5S hG hf (O5 hb) hnm λargs=>(h args).imp λacc hc hk ho=>by
  obtain⟨h1,A,B,h2⟩:=hk ho;obtain⟨h3,h4,h5⟩:=F8 h1;simp only[bA9]at h3;exact⟨h4,h3.1,h3.2.1,V4 h5,h3.2.2.1,h3.2.2.2.1,h3.2.2.2.2,Wp.mono (a0E hG _ h2) λe S' hk'=>V3 (λ_ _=>a0A) hk'⟩
theorem j8{b:Bool}{p:Prop}(h:b=true)(hp:p):Y0 b p:=by subst h;exact hp
theorem J9{σ:Sig}{v:SV}{b:Bool}(h:v.toB=some b):z5 σ v (.bool b):=by
 cases v <;> simp_all[SV.toB,z5]
def K4(X:F3)(N0:Nat)(A:a7i):Code->Ann->St->(Xt->St->Prop)->Prop
 | .skip,_,S,K=>K .normal S
 | .region _ ops draw,_,S,K=>match draw with
  | false=>a9f X ops.toList ops.toList S (K .normal)
  | true=>b7U X ops.toList S (K .normal)
 | .seq x y,B,S,K=>match b4j B y with
  | none=>K4 X N0 A x B S (λe S'=>match e with
   | .normal=>K4 X N0 A y B S' K
   | e=>K e S')
  | some J=>K4 X N0 A x B S (λe S'=>match e with
   | .normal=>∃ j,J.inv j/\a4C N0 S' (J.I j)
   | e=>K e S')/\∀ j,J.inv j->K4 X N0 A y B (J.I j) K
 | .cond c x y,B,S,K=>match opr S.sl c with
  | some .tt=>K4 X N0 A x B S K
  | some .ff=>K4 X N0 A y B S K
  | some (.bool b)=>(b=true->K4 X N0 A x B S K)/\(b=false->K4 X N0 A y B S K)
  | _=>False
 | .block id x,B,S,K=>K4 X N0 A x B S (λe S'=>match e with
  | .exit j=>match Nat.beq j id with
   | true=>K .normal S'
   | false=>K (.exit j) S'
  | e=>K e S')
 | .exit id,_,S,K=>K (.exit id) S
 | .ret,_,S,K=>K .ret S
 | .loop x,B,S,K=>match b8g A x with
  | none=>match b4j B x with
   | none=>False
   | some J=>b2i N0 (λB' S' K'=>K4 X N0 A x (a1l B' B) S' K') S K ⟨J,λ_=>[]⟩
  | some (.unr l)=>a6M N0 S l/\a9K N0 (λS' K'=>K4 X N0 A x B S' K') K l
  | some (.unrD f)=>a6M N0 S (f S)/\a9K N0 (λS' K'=>K4 X N0 A x B S' K') K (f S)
  | some (.iter n)=>b0L (λS' K'=>K4 X N0 A x B S' K') K n S
  | some (.fam J)=>b2i N0 (λB' S' K'=>K4 X N0 A x (a1l B' B) S' K') S K J
  | some (.alt l)=>b5t N0 (λB' S' K'=>K4 X N0 A x (a1l B' B) S' K') S K l
 | _,_,_,_=>False
def K8(X:F3)(N0:Nat)(A:a7i)(B:Ann)(c:Code)(S:St)(K:Xt->St->Prop):Prop:=K4 X N0 A c B S K
section
variable {P:Program} {X:F3}
theorem b0G(hX:A7 P X){N0:Nat}{A:a7i}:∀(c:Code) {B:Ann} {S:St} {K:Xt->St->Prop},K4 X N0 A c B S K->Wp P N0 c S K:=by
 intro c
 induction c with
 | skip=>intro B S K h;exact Wp.run hX.G h
 | region id ops draw =>
  intro B S K h W0 Fr ρ0 ρ a w Q hS hN hρ hK;unfold K4 at h;split at h
  ·refine wp_region ?_;have:=a2A hX (ops:=ops.toList) (Q:=Q) ops.toList 0 (λj=>by simp) h hS hN hρ (λS' ρ' a' w' h1 h2 h3 h4=>hK .normal S' ρ' a' w' h1 h2 h3 h4);simpa [List.range_eq_range']using this
  ·exact b0e hX h hS hN hρ (λS' ρ' a' w' h1 h2 h3 h4=>hK .normal S' ρ' a' w' h1 h2 h3 h4)
 | seq x y ihx ihy =>
  intro B S K h;unfold K4 at h;split at h
  ·exact Wp.seq (ihx h) (λS' h'=>ihy h') (λ_ _ h=>h) (λ_ h=>h)
  ·rename_i J hJ;obtain⟨h1,h2⟩:=h;refine Wp.seq (ihx h1) (λS' h'=>?_) (λ_ _ h=>h) (λ_ h=>h);obtain⟨j,hj,hf⟩:=h';exact Wp.refines' (H9 hf) (ihy (h2 j hj))
 | cond c x y ihx ihy =>
  intro B S K h W0 Fr ρ0 ρ a w Q hS hN hρ hK;unfold K4 at h;split at h
  ·rename_i hv;exact wp_cond_true (by simpa [SV.den]using (H6 hS.s hv).1) (ihx h W0 Fr ρ0 ρ a w Q hS hN hρ hK)
  ·rename_i hv;exact wp_cond_false (by simpa [SV.den]using (H6 hS.s hv).1) (ihy h W0 Fr ρ0 ρ a w Q hS hN hρ hK)
  ·rename_i b hv;have hb:=(H6 hS.s hv).1;simp only[SV.den]at hb;exact wp_cond_split hb (λe=>ihx (h.1 e) W0 Fr ρ0 ρ a w Q hS hN hρ hK) (λe=>ihy (h.2 e) W0 Fr ρ0 ρ a w Q hS hN hρ hK)
  ·exact h.elim
 | block id x ih =>
  intro B S K h;exact Wp.block (ih h)
 | exit id=>intro B S K h;exact Wp.run hX.G h
 | ret=>intro B S K h;exact Wp.run hX.G h
 | loop x ih =>
  intro B S K h
  have hfam:∀ J:R5,b2i N0 (λB' S' K'=>K4 X N0 A x (a1l B' B) S' K') S K J->Wp P N0 (.loop x) S K:=by
   intro J h;obtain⟨⟨i0,h0,hf⟩,hr⟩:=h;refine Wp.loop (ι:={i:J.f.ι // J.f.inv i}) (λi=>J.f.I i.1) (λi=>J.f.μ i.1) ⟨i0,h0⟩ (H9 hf) λi=>?_
   refine Wp.mono (ih (hr i.1 i.2)) λe S' h'=>?_
   cases e with
   | normal =>
    obtain⟨i',h1,h2,h3⟩:=h';exact⟨⟨i',h1⟩,h2,H9 h3⟩
   | exit id=>exact h'
   | ret=>exact h'
  have hunr:∀ l:List Fam,(a6M N0 S l/\a9K N0 (λS' K'=>K4 X N0 A x B S' K') K l)->Wp P N0 (.loop x) S K:=by
   intro l h;obtain⟨h0,h1⟩:=h
   have key:∀(l:List Fam),a9K N0 (λS' K'=>K4 X N0 A x B S' K') K l->∀(k:Nat)(J:Fam),l[k]? = some J->∀ i,J.inv i->Wp P N0 x (J.I i) (λe S'=>match e with
     | .normal=>∃ J':Fam,l[k+1]? = some J'/\∃ i',J'.inv i'/\a4C N0 S' (J'.I i')
     | e=>K e S'):=by
    intro l
    induction l with
    | nil=>intro _ k J hk;simp at hk
    | cons J0 r ihl =>
     intro hu k J hk i hi;obtain⟨hu1,hu2⟩:=hu
     cases k with
     | zero =>
      simp only[List.getElem?_cons_zero,oI9]at hk;subst hk;refine Wp.mono (ih (hu1 i hi)) λe S' h'=>?_
      cases e with
      | normal =>
       cases r with
       | nil=>exact(h':False).elim
       | cons J1 r1=>exact⟨J1,rfl,h'⟩
      | exit id=>exact h'
      | ret=>exact h'
     | succ k =>
      simp only[List.getElem?_cons_succ]at hk;refine Wp.mono (ihl hu2 k J hk i hi) λe S' h'=>?_
      cases e with
      | normal =>
       obtain⟨J',h2,h3⟩:=h';exact⟨J',by simpa using h2,h3⟩
      | exit id=>exact h'
      | ret=>exact h'
   cases l with
   | nil=>exact(h0:False).elim
   | cons J0 r =>
    obtain⟨i0,hi0,hf⟩:=h0;refine Wp.loop (ι:={q:(Σ k:Fin (J0 :: r).length,((J0 :: r).get k).ι) // ((J0 :: r).get q.1).inv q.2}) (λq=>((J0 :: r).get q.1.1).I q.1.2) (λq=>(J0 :: r).length-q.1.1.val) ⟨⟨⟨0,Nat.succ_pos _⟩,i0⟩,hi0⟩ (H9 hf) λq=>?_
    obtain⟨⟨⟨k,hk⟩,i⟩,hi⟩:=q;refine Wp.mono (key _ h1 k _ (List.getElem?_eq_getElem hk) i hi) λe S' h'=>?_
    cases e with
    | normal =>
     obtain⟨J',h2,i',h3,h4⟩:=h';obtain⟨hlt,h5⟩:=List.getElem?_eq_some_iff.1 h2;subst h5;exact⟨⟨⟨⟨k+1,hlt⟩,i'⟩,h3⟩,by show (J0 :: r).length-(k+1)<(J0 :: r).length-k;omega,H9 h4⟩
    | exit id=>exact h'
    | ret=>exact h'
  unfold K4 at h;split at h
  ·split at h
   ·exact h.elim
   ·rename_i J hJ;exact hfam ⟨J,λ_=>[]⟩ h
  ·rename_i l hl;exact hunr l h
  ·rename_i f hf;exact hunr (f S) h
  ·rename_i n hn;exact Wp.iter (λS K=>ih) n S h
  ·rename_i J hJ;exact hfam J h
  ·rename_i l hl
   have:∀ l:List R5,b5t N0 (λB' S' K'=>K4 X N0 A x (a1l B' B) S' K') S K l->Wp P N0 (.loop x) S K:=by
    intro l
    induction l with
    | nil=>intro h;exact(h:False).elim
    | cons J r ihl =>
     intro h;rcases h with h|h
     ·exact hfam J h
     ·exact ihl h
   exact this l h
 | _=>intro B S K h;exact(h:False).elim
theorem a2H(hX:A7 P X){N0:Nat}{A:a7i}{B:Ann}(c:Code){S:St}{K:Xt->St->Prop}(h:K8 X N0 A B c S K):Wp P N0 c S K:=b0G hX c h
end
structure RHC (ι:Type) where
 args:List SV
 heap:A1
 obl:Option Prop
 P:ι->Prop
 out:ι->HC
inductive RRd (ι:Type) where
 | fail
 | ret (hc:RHC ι)
 | read (n:Nm) (k:Ob->RRd ι)
def RRd.run{ι:Type}(rd:Nm->Option Ob):RRd ι->List Nm->Option (List Nm×RHC ι)
 | .fail,_=>none
 | .ret hc,sg=>some (sg,hc)
 | .read n k,sg=>match rd n with
  | some o=>(k o).run rd (sg++[n])
  | none=>none
def RRd.All{ι:Type}(Q:List (Nm×Ob)->RHC ι->Prop):RRd ι->List (Nm×Ob)->Prop
 | .fail,_=>True
 | .ret hc,acc=>Q acc hc
 | .read n k,acc=>∀ o,(k o).All Q (acc++[(n,o)])
theorem RRd.all_run{ι:Type}{rd:Nm->Option Ob}{Q:List (Nm×Ob)->RHC ι->Prop}:∀ {m:RRd ι} {acc:List (Nm×Ob)} {sg:List Nm} {hc:RHC ι},m.All Q acc->(∀ p∈acc,rd p.1=some p.2)->m.run rd (z3 acc)=some (sg,hc)->
  ∃ acc',z3 acc'=sg/\(∀ p∈acc',rd p.1=some p.2)/\Q acc' hc
 | .fail,_,_,_,_,_,h=>by simp[RRd.run]at h
 | .ret hc',acc,sg,hc,hq,hacc,h=>by
  simp only[RRd.run,oI9,pI9]at h;obtain⟨rfl,rfl⟩:=h;exact⟨acc,rfl,hacc,hq⟩
 | .read n k,acc,sg,hc,hq,hacc,h=>by
  simp only[RRd.run]at h;split at h
  ·rename_i o ho;refine RRd.all_run (hq o) (acc:=acc++[(n,o)]) (λp hp=>?_) (by rw[a1g];exact h);rcases List.mem_append.1 hp with hp|hp
   ·exact hacc p hp
   ·simp only[List.mem_singleton]at hp;subst hp;exact ho
  ·cases h
theorem RRd.run_sg{ι:Type}{rd:Nm->Option Ob}:∀ {m:RRd ι} {sg sg':List Nm} {hc:RHC ι},m.run rd sg=some (sg',hc)->∀ n∈sg,n∈sg'
 | .fail,_,_,_,h=>by simp[RRd.run]at h
 | .ret hc',sg,sg',hc,h=>by
  simp only[RRd.run,oI9,pI9]at h;obtain⟨rfl,rfl⟩:=h;exact λn hn=>hn
 | .read n k,sg,sg',hc,h=>by
  simp only[RRd.run]at h;split at h
  ·exact λm hm=>RRd.run_sg h m (List.mem_append_left _ hm)
  ·cases h
theorem RRd.run_loc{ι:Type}{rd rd':Nm->Option Ob}:∀ {m:RRd ι} {sg sg':List Nm} {hc:RHC ι},m.run rd sg=some (sg',hc)->(∀ n∈sg',rd' n=rd n)->m.run rd' sg=some (sg',hc)
 | .fail,_,_,_,h,_=>by simp[RRd.run]at h
 | .ret hc',sg,sg',hc,h,_=>h
 | .read n k,sg,sg',hc,h,hr=>by
  simp only[RRd.run]at h ⊢;split at h
  ·rename_i o ho;have hn:n∈sg':=RRd.run_sg h n (by simp);rw[hr n hn,ho];exact RRd.run_loc h hr
  ·cases h
def o9(ι:Type)(ne:Nonempty ι)(C:List SV->RRd ι):a8L:=⟨ι,ne,λi args rd nm=>match (C args).run rd []with
 | some (sg,hc)=>match R1 sg with
  | true=>some (⟨some ((hc.out i).val.ren (J4 sg nm)),V0 (J4 sg nm) (hc.out i).wr,V0 (J4 sg nm) (hc.out i).news,sg,hc.obl⟩,hc.P i)
  | false=>none
 | none=>none⟩
def a9u{ι:Type}(fn:Func)(args:List SV)(acc:List (Nm×Ob))(hc:RHC ι):Prop :=
 Y0 (a0t acc.length hc.args&&Nat.ble hc.args.length fn.ntmps)
  ((∀ i,(a2i acc.length hc.heap (hc.out i).wr&&(a1y acc.length (hc.out i).news&&b1t (hc.out i).wr hc.heap))=true)/\q9 (z8 (z3 acc)) args hc.args/\b9x (z8 (z3 acc)) acc.length 0 acc hc.heap)
theorem G7 {P:Program} {X:F3} (hX:A7 P X) {f:Nat} {fn:Func} (hf:P.funcs[f]? = some fn) (hb:fn.body.isNone=false) (hnm:(fn.name == "runtime.NumGoroutine")=false) {ι:Type} {ne:Nonempty ι} {C:List SV->RRd ι}
  (h:∀ args,(C args).All (λacc hc=>okP hc.obl->a9u fn args acc hc/\
   ∃ A B,K8 X acc.length A B (p9 fn) (A6 fn.ntmps hc.args hc.heap acc.length) (A8 X.G.E.T fn.results.toList λS v=>∃ i,hc.P i/\D5 acc.length (hc.out i) S v)) []):z0 P f (o9 ι ne C) where
 loc:=by
  intro i args rd rd' nm e p hc hr;simp only[o9]at hc ⊢;split at hc
  ·rename_i sg hc0 hrun;split at hc
   ·rename_i hd;have he:=hc;simp only[oI9,pI9]at he;obtain⟨rfl,_⟩:=he;simp only[RRd.run_loc hrun hr,hd];exact hc
   ·cases hc
  ·cases hc
 calls:=by
  intro W0 Fr U H ρ w nm args hH hbd hn hall;obtain⟨i0⟩:=ne;obtain⟨e0,p0,h0,ho⟩:=hall i0;simp only[o9]at h0;split at h0
  case h_2=>cases h0
  rename_i sg hc hrun;split at h0
  case h_2=>cases h0
  rename_i hd;simp only[oI9,pI9]at h0;obtain⟨rfl,rfl⟩:=h0;obtain⟨acc,hacc,hlook,hQ⟩:=RRd.all_run (rd:=look H) (h args) (acc:=[]) (by simp) hrun;obtain⟨h1,A,B,h2⟩:=hQ ho;obtain⟨h3,h4,h5,h6⟩:=F8 h1;simp only[bA9]at h3;subst hacc
  refine(a3R hX.G hf (O5 hb) hnm hH hn hlook hd h5 h3.1 h3.2 (V4 h6) (I:=ι) (post:=hc.P) (out:=hc.out) (λi _=>by
   have:=h4 i;simp only[bA9]at this
   exact⟨this.1,this.2.1,this.2.2⟩) (Wp.mono (a2H hX _ h2) λe S' hk'=>V3 (λ_ _ ⟨i,hi,hp⟩=>⟨i,hi,a0A hp⟩) hk')).mono ?_
  rintro en w' ⟨i,hi,ρ2,h7,h8,v,h9,h10,h11⟩
  exact⟨i,⟨some ((hc.out i).val.ren (J4 (z3 acc) nm)),V0 (J4 (z3 acc) nm) (hc.out i).wr,V0 (J4 (z3 acc) nm) (hc.out i).news,z3 acc,hc.obl⟩,hc.P i,
   by simp only[o9,hrun,hd],hi,ρ2,h7,h8,v,h9,h10,h11⟩
def b8a(ts:List Nat):Ob:=⟨true,0, .raw ts (λ_=>False) (λ_=>0) (λ_ _=>.bool false),0⟩
def St.addRaw(S:St)(ts:List Nat):St:={nt:=S.nt,sl:=S.sl,H:=(S.N,b8a ts) :: S.H,N:=S.N+1}
theorem B4.addRaw{N0:Nat}{S:St}(ts:List Nat)(h:N0<=S.N):B4 N0 S (S.addRaw ts):=by
 refine⟨Nat.le_succ_of_le h,λW0 Fr ρ a w hS=>⟨λn=>if n=S.N then none else ρ n,⟨?_,?_⟩,λn hn=>if_neg (Nat.ne_of_lt (Nat.lt_of_lt_of_le hn h))⟩⟩
 ·have hag:∀ n,n<S.N->(if n=S.N then none else ρ n)=ρ n:=λn hn=>if_neg (Nat.ne_of_lt hn)
  have hne:∀ {m:Nm} {o:Ob},look S.H m=some o->m<S.N:=λhm=>hS.h.used _ _ hm
  refine {
   os:=hS.h.os,tape:=hS.h.tape,output:=hS.h.output,size:=hS.h.size,frlt:=hS.h.frlt,frame:=hS.h.frame
   used:=λm o hm=>?_
   bd:=λm o hm=>?_
   obj:=λm o hm=>?_
   inj:=λm1 m2 o1 o2 p q h1 h2 hne' hr1 hr2 hp hq=>?_
   free:=λm o p hm hr hp=>?_
   rawd:=λm o ts' D sz F hm hr hc=>?_}
  ·simp only[St.addRaw,g8]at hm;split at hm
   ·rename_i e;subst e;exact Nat.lt_succ_self _
   ·exact Nat.lt_succ_of_lt (hne hm)
  ·simp only[St.addRaw,g8]at hm;split at hm
   ·cases hm;intro j hj;exact absurd hj (Nat.not_lt_zero j)
   ·exact a9.bd_mono (λn hn=>Nat.lt_succ_of_lt hn) (hS.h.bd m o hm)
  ·simp only[St.addRaw,g8]at hm;split at hm
   ·rename_i e;subst e;cases hm;rw[if_pos rfl];rfl
   ·have hlt:=hne hm;show W4 w _ o (if m=S.N then none else ρ m);rw[hag m hlt];exact(hS.h.obj m o hm).congr (λ_ _ _ _ _ _=>rfl) (λj hj=>SV.den_congr (U:=(·< S.N)) hag _ (hS.h.bd m o hm j hj))
  ·simp only[St.addRaw,g8]at h1 h2;split at h1
   ·rename_i e;subst e;rw[if_pos rfl]at hp;cases hp
   ·split at h2
    ·rename_i e;subst e;rw[if_pos rfl]at hq;cases hq
    ·rw[hag m1 (hne h1)]at hp;rw[hag m2 (hne h2)]at hq;exact hS.h.inj m1 m2 o1 o2 p q h1 h2 hne' hr1 hr2 hp hq
  ·simp only[St.addRaw,g8]at hm;split at hm
   ·rename_i e;subst e;rw[if_pos rfl]at hp;cases hp
   ·rw[hag m (hne hm)]at hp;exact hS.h.free m o p hm hr hp
  ·simp only[St.addRaw,g8]at hm;split at hm
   ·cases hm;simp only[b8a,a9.raw.injEq]at hc;obtain⟨rfl,rfl,rfl,rfl⟩:=hc;exact⟨λb hb=>hb.elim,λb hb=>hb.elim,λ_ _ _ _ _ _ _=>id,λ_ _ _ _ _ _ _ _ _ _ b hb=>hb.elim⟩
   ·have k:=hS.h.rawd m o ts' D sz F hm hr hc;refine⟨k.sat,k.free,λm' o' q hm' hne' hr' hq=>?_,λm' o' ts2 D2 sz2 F2 hm' hne' hr' hc'=>?_⟩
    ·simp only[St.addRaw,g8]at hm';split at hm'
     ·rename_i e;subst e;rw[if_pos rfl]at hq;cases hq
     ·rw[hag m' (hne hm')]at hq;exact k.sep m' o' q hm' hne' hr' hq
    ·simp only[St.addRaw,g8]at hm';split at hm'
     ·cases hm';simp only[b8a,a9.raw.injEq]at hc';obtain⟨rfl,rfl,rfl,rfl⟩:=hc';exact λb _=>id
     ·exact k.sepr m' o' ts2 D2 sz2 F2 hm' hne' hr' hc'
 ·exact hS.s.mono (λn hn=>Nat.lt_succ_of_lt hn) (λn hn=>if_neg (Nat.ne_of_lt hn))
theorem Wp.addRaw{P:Program}{N0:Nat}{c:Code}{S:St}{K:Xt->St->Prop}(ts:List Nat)(h:N0<=S.N)(hw:Wp P N0 c (S.addRaw ts) K):Wp P N0 c S K:=Wp.refines' (B4.addRaw ts h) hw
theorem b0J {P:Program} {X:F3} (hX:A7 P X) {f:Nat} {fn:Func} (hf:P.funcs[f]? = some fn) (hb:fn.body.isNone=false) (hnm:(fn.name == "runtime.NumGoroutine")=false) {ι:Type} {ne:Nonempty ι} {C:List SV->RRd ι} (ts:List Nat)
  (h:∀ args,(C args).All (λacc hc=>okP hc.obl->a9u fn args acc hc/\
   ∃ A B,K8 X acc.length A B (p9 fn) ((A6 fn.ntmps hc.args hc.heap acc.length).addRaw ts) (A8 X.G.E.T fn.results.toList λS v=>∃ i,hc.P i/\D5 acc.length (hc.out i) S v)) []):z0 P f (o9 ι ne C) where
 loc:=by
  intro i args rd rd' nm e p hc hr;simp only[o9]at hc ⊢;split at hc
  ·rename_i sg hc0 hrun;split at hc
   ·rename_i hd;have he:=hc;simp only[oI9,pI9]at he;obtain⟨rfl,_⟩:=he;simp only[RRd.run_loc hrun hr,hd];exact hc
   ·cases hc
  ·cases hc
 calls:=by
  intro W0 Fr U H ρ w nm args hH hbd hn hall;obtain⟨i0⟩:=ne;obtain⟨e0,p0,h0,ho⟩:=hall i0;simp only[o9]at h0;split at h0
  case h_2=>cases h0
  rename_i sg hc hrun;split at h0
  case h_2=>cases h0
  rename_i hd;simp only[oI9,pI9]at h0;obtain⟨rfl,rfl⟩:=h0;obtain⟨acc,hacc,hlook,hQ⟩:=RRd.all_run (rd:=look H) (h args) (acc:=[]) (by simp) hrun;obtain⟨h1,A,B,h2⟩:=hQ ho;obtain⟨h3,h4,h5,h6⟩:=F8 h1;simp only[bA9]at h3;subst hacc
  refine(a3R hX.G hf (O5 hb) hnm hH hn hlook hd h5 h3.1 h3.2 (V4 h6) (I:=ι) (post:=hc.P) (out:=hc.out) (λi _=>by
   have:=h4 i;simp only[bA9]at this
   exact⟨this.1,this.2.1,this.2.2⟩) (Wp.mono (Wp.addRaw ts (Nat.le_refl _) (a2H hX _ h2)) λe S' hk'=>V3 (λ_ _ ⟨i,hi,hp⟩=>⟨i,hi,a0A hp⟩) hk')).mono ?_
  rintro en w' ⟨i,hi,ρ2,h7,h8,v,h9,h10,h11⟩
  exact⟨i,⟨some ((hc.out i).val.ren (J4 (z3 acc) nm)),V0 (J4 (z3 acc) nm) (hc.out i).wr,V0 (J4 (z3 acc) nm) (hc.out i).news,z3 acc,hc.obl⟩,hc.P i,
   by simp only[o9,hrun,hd],hi,ρ2,h7,h8,v,h9,h10,h11⟩
theorem a8i{k:Nat}{tau:List (Option Nm)}{n:Nat}(h:n<k):L3 k tau n=some n:=by
 unfold L3;rw[show Nat.blt n k=true from Nat.ble_eq_true_of_le h]
theorem a0S.one{k n:Nat}{hc:HC}{S:St}{v:SV}{o o':Ob}(hn:n<k)(hw:hc.wr=[(n,o')])(hnews:hc.news=[])(hl:look S.H n=some o)(hu:o'.c.und (k+24))(ho:obR (L3 k []) o o')(hv:z5 (L3 k []) v hc.val)(hvu:hc.val.und (k+24)=true):a0S k hc S v [] where
 val:=hv
 vu:=hvu
 hp:=by
  rw[hw,hnews];refine⟨⟨Nat.ble_eq_true_of_le (by omega),hu,?_⟩,trivial⟩;rw[a8i hn];simp only[hl];exact ho
 dist:=by
  rw[hw,hnews];show R1 (match o'.gone with|true=>[]|false=>(match L3 k [] n with|some m=>[m]|none=>[]))=true;rw[a8i hn];cases o'.gone <;> rfl
theorem b4g{σ:Sig}{el es:Nat}{ts D sz F}:obR σ ⟨true,el, .raw ts D sz F,es⟩ ⟨true,el, .raw ts D sz F,es⟩:=⟨rfl,rfl,rfl,rfl,rfl,rfl⟩
structure RM where
 D:Nat->Prop
 S:Nat->Nat
 F:Nat->Nat->Value
instance:Inhabited RM:=⟨⟨λ_=>False,λ_=>0,λ_ _=>.bool false⟩⟩
def rwO(ts:List Nat)(q:RM):Ob:=⟨true,0, .raw ts q.D q.S q.F,0⟩
def I5:Ob->Option (List Nat×RM)
 | ⟨true,0, .raw ts D sz F,0⟩=>some (ts,⟨D,sz,F⟩)
 | _=>none
theorem b2f{o:Ob}{ts:List Nat}{q:RM}(h:I5 o=some (ts,q)):o=rwO ts q:=by
 unfold I5 at h;split at h
 ·simp only[oI9,pI9]at h;obtain⟨rfl,rfl⟩:=h;rfl
 ·cases h
theorem B8{σ:Sig}{o:Ob}{ts:List Nat}{q:RM}(h:I5 o=some (ts,q)):obR σ o (rwO ts q):=by
 rw[b2f h];exact b4g
def I7{ι:Type}(k:Nat)(ts:List Nat)(P:ι->Prop)(q:ι->RM)(val:ι->SV)(o:Option Ob)(v:SV):Prop :=
 ∃ i,P i/\o=some (rwO ts (q i))/\z5 (L3 k []) v (val i)
theorem a1o {P:Program} {X:F3} (hX:A7 P X) {f:Nat} {fn:Func} (hf:P.funcs[f]? = some fn) (hb:fn.body.isNone=false) (hnm:(fn.name == "runtime.NumGoroutine")=false) {ι:Type} {ne:Nonempty ι} {C:List SV->RRd ι}
  (h:∀ args,(C args).All (λacc hc=>okP hc.obl->a9u fn args acc hc/\
   Wp P acc.length (p9 fn) (A6 fn.ntmps hc.args hc.heap acc.length) (A8 X.G.E.T fn.results.toList λS v=>∃ i,hc.P i/\∃ tau,a0S acc.length (hc.out i) S v tau)) []):z0 P f (o9 ι ne C) where
 loc:=by
  intro i args rd rd' nm e p hc hr;simp only[o9]at hc ⊢;split at hc
  ·rename_i sg hc0 hrun;split at hc
   ·rename_i hd;have he:=hc;simp only[oI9,pI9]at he;obtain⟨rfl,_⟩:=he;simp only[RRd.run_loc hrun hr,hd];exact hc
   ·cases hc
  ·cases hc
 calls:=by
  intro W0 Fr U H ρ w nm args hH hbd hn hall;obtain⟨i0⟩:=ne;obtain⟨e0,p0,h0,ho⟩:=hall i0;simp only[o9]at h0;split at h0
  case h_2=>cases h0
  rename_i sg hc hrun;split at h0
  case h_2=>cases h0
  rename_i hd;simp only[oI9,pI9]at h0;obtain⟨rfl,rfl⟩:=h0;obtain⟨acc,hacc,hlook,hQ⟩:=RRd.all_run (rd:=look H) (h args) (acc:=[]) (by simp) hrun;obtain⟨h1,h2⟩:=hQ ho;obtain⟨h3,h4,h5,h6⟩:=F8 h1;simp only[bA9]at h3;subst hacc
  refine(a3R hX.G hf (O5 hb) hnm hH hn hlook hd h5 h3.1 h3.2 (V4 h6) (I:=ι) (post:=hc.P) (out:=hc.out) (λi _=>by
   have:=h4 i;simp only[bA9]at this
   exact⟨this.1,this.2.1,this.2.2⟩) h2).mono ?_
  rintro en w' ⟨i,hi,ρ2,h7,h8,v,h9,h10,h11⟩
  exact⟨i,⟨some ((hc.out i).val.ren (J4 (z3 acc) nm)),V0 (J4 (z3 acc) nm) (hc.out i).wr,V0 (J4 (z3 acc) nm) (hc.out i).news,z3 acc,hc.obl⟩,hc.P i,
   by simp only[o9,hrun,hd],hi,ρ2,h7,h8,v,h9,h10,h11⟩
theorem D7 {P:Program} {X:F3} (hX:A7 P X) {f:Nat} {fn:Func} (hf:P.funcs[f]? = some fn) (hb:fn.body.isNone=false) (hnm:(fn.name == "runtime.NumGoroutine")=false) {ι:Type} {ne:Nonempty ι} {C:List SV->RRd ι}
  (h:∀ args,(C args).All (λacc hc=>okP hc.obl->a9u fn args acc hc/\0<acc.length/\
   ∃ ts q val,(∀ i,hc.out i=⟨[],[],val i,[(0,rwO ts (q i))],[],none⟩)/\(∀ i,hc.P i->(val i).und (acc.length+24)=true)/\
   ∃ A B,K8 X acc.length A B (p9 fn) (A6 fn.ntmps hc.args hc.heap acc.length) (A8 X.G.E.T fn.results.toList λS v=>I7 acc.length ts hc.P q val (look S.H 0) v)) []):z0 P f (o9 ι ne C):=by
 refine a1o hX hf hb hnm λargs=>?_
 have mono:∀ {Q Q':List (Nm×Ob)->RHC ι->Prop} (hq:∀ acc hc,Q acc hc->Q' acc hc) {m:RRd ι} {acc:List (Nm×Ob)},m.All Q acc->m.All Q' acc:=by
  intro Q Q' hq m
  induction m with
  | fail=>intro acc h;trivial
  | ret hc=>intro acc h;exact hq _ _ h
  | read n k ih=>intro acc h o;exact ih o (h o)
 refine mono (λacc hc hh ho=>?_) (h args);obtain⟨h1,h0,ts,q,val,ho1,hu,A,B,h2⟩:=hh ho;refine⟨h1,Wp.mono (a2H hX _ h2) λe S' hk'=>V3 (λS v hq=>?_) hk'⟩;obtain⟨i,hi,hl,hv⟩:=hq;refine⟨i,hi,[],?_⟩;rw[ho1 i];exact a0S.one (n:=0) (o:=rwO ts (q i)) (o':=rwO ts (q i)) h0 rfl rfl hl trivial b4g hv (hu i hi)
end Go.Sx

namespace Go.Proofs.Tryz.Sx
open Go Go.Sx Go.Proofs
set_option maxRecDepth 100000
def ty2:TI:=⟨.int .i64,1,8, .cells [.int .i64 0],[]⟩
theorem ok2:TOk Tryz.prog 2 ty2:=by refine TOk.mk' ?_ ?_ ?_ ?_ ?_ o8 ?_<;>kernel_rfl
def ty3:TI:=⟨.int .i64,1,8, .cells [.int .i64 0],[]⟩
theorem ok3:TOk Tryz.prog 3 ty3:=by refine TOk.mk' ?_ ?_ ?_ ?_ ?_ o8 ?_<;>kernel_rfl
def ty4:TI:=⟨.bool,1,1, .cells [.ff],[]⟩
theorem ok4:TOk Tryz.prog 4 ty4:=by refine TOk.mk' ?_ ?_ ?_ ?_ ?_ o8 ?_<;>kernel_rfl
def ty5:TI:=⟨.int .u8,1,1, .cells [.int .u8 0],[]⟩
theorem ok5:TOk Tryz.prog 5 ty5:=by refine TOk.mk' ?_ ?_ ?_ ?_ ?_ o8 ?_<;>kernel_rfl
def ty6:TI:=⟨.int .u8,1,1, .cells [.int .u8 0],[]⟩
theorem ok6:TOk Tryz.prog 6 ty6:=by refine TOk.mk' ?_ ?_ ?_ ?_ ?_ o8 ?_<;>kernel_rfl
def ty7:TI:=⟨.struct [(0,2),(1,3),(2,4),(3,6)],4,24, .cells [.int .i64 0, .int .i64 0, .ff, .int .u8 0],[]⟩
theorem ok7:TOk Tryz.prog 7 ty7:=by refine TOk.mk' ?_ ?_ ?_ ?_ ?_ o8 ?_<;>kernel_rfl
def ty8:TI:=⟨.struct [(0,2),(1,3),(2,4),(3,6)],4,24, .cells [.int .i64 0, .int .i64 0, .ff, .int .u8 0],[]⟩
theorem ok8:TOk Tryz.prog 8 ty8:=by refine TOk.mk' ?_ ?_ ?_ ?_ ?_ o8 ?_<;>kernel_rfl
def ty9:TI:=⟨.str,1,16, .cells [.str ⟨#[]⟩],[]⟩
theorem ok9:TOk Tryz.prog 9 ty9:=by refine TOk.mk' ?_ ?_ ?_ ?_ ?_ o8 ?_<;>kernel_rfl
def c6E:TI:=⟨.str,1,16, .cells [.str ⟨#[]⟩],[]⟩
theorem c7J:TOk Tryz.prog 10 c6E:=by refine TOk.mk' ?_ ?_ ?_ ?_ ?_ o8 ?_<;>kernel_rfl
def c4v:TI:=⟨.str,1,16, .cells [.str ⟨#[]⟩],[]⟩
theorem c7t:TOk Tryz.prog 11 c4v:=by refine TOk.mk' ?_ ?_ ?_ ?_ ?_ o8 ?_<;>kernel_rfl
def c6a:TI:=⟨.int .u64,1,8, .cells [.int .u64 0],[]⟩
theorem c7s:TOk Tryz.prog 12 c6a:=by refine TOk.mk' ?_ ?_ ?_ ?_ ?_ o8 ?_<;>kernel_rfl
def c6i:TI:=⟨.struct [(0,9),(1,12)],2,24, .cells [.str ⟨#[]⟩, .int .u64 0],[]⟩
theorem c7K:TOk Tryz.prog 13 c6i:=by refine TOk.mk' ?_ ?_ ?_ ?_ ?_ o8 ?_<;>kernel_rfl
def c4Z:TI:=⟨.struct [(0,9),(1,12)],2,24, .cells [.str ⟨#[]⟩, .int .u64 0],[]⟩
theorem c7f:TOk Tryz.prog 14 c4Z:=by refine TOk.mk' ?_ ?_ ?_ ?_ ?_ o8 ?_<;>kernel_rfl
def c5d:TI:=⟨.ptr 225,1,8, .cells [.nilp],[]⟩
theorem c7i:TOk Tryz.prog 15 c5d:=by refine TOk.mk' ?_ ?_ ?_ ?_ ?_ o8 ?_<;>kernel_rfl
def c4M:TI:=⟨.ptr 228,1,8, .cells [.nilp],[]⟩
theorem c8g:TOk Tryz.prog 16 c4M:=by refine TOk.mk' ?_ ?_ ?_ ?_ ?_ o8 ?_<;>kernel_rfl
def c6p:TI:=⟨.ptr 236,1,8, .cells [.nilp],[]⟩
theorem c6W:TOk Tryz.prog 17 c6p:=by refine TOk.mk' ?_ ?_ ?_ ?_ ?_ o8 ?_<;>kernel_rfl
def c6K:TI:=⟨.struct [(0,17)],1,8, .cells [.nilp],[]⟩
theorem c7w:TOk Tryz.prog 18 c6K:=by refine TOk.mk' ?_ ?_ ?_ ?_ ?_ o8 ?_<;>kernel_rfl
def c4x:TI:=⟨.struct [(0,17)],1,8, .cells [.nilp],[]⟩
theorem c7D:TOk Tryz.prog 19 c4x:=by refine TOk.mk' ?_ ?_ ?_ ?_ ?_ o8 ?_<;>kernel_rfl
def c6L:TI:=⟨.iface,1,16, .cells [.nili],[]⟩
theorem c7H:TOk Tryz.prog 20 c6L:=by refine TOk.mk' ?_ ?_ ?_ ?_ ?_ o8 ?_<;>kernel_rfl
def c6G:TI:=⟨.int .i32,1,4, .cells [.int .i32 0],[]⟩
theorem c8c:TOk Tryz.prog 21 c6G:=by refine TOk.mk' ?_ ?_ ?_ ?_ ?_ o8 ?_<;>kernel_rfl
def c6x:TI:=⟨.struct [(0,2),(1,2)],2,16, .cells [.int .i64 0, .int .i64 0],[]⟩
theorem c7z:TOk Tryz.prog 22 c6x:=by refine TOk.mk' ?_ ?_ ?_ ?_ ?_ o8 ?_<;>kernel_rfl
def c5C:TI:=⟨.struct [(0,2),(1,2)],2,16, .cells [.int .i64 0, .int .i64 0],[]⟩
theorem c8e:TOk Tryz.prog 23 c5C:=by refine TOk.mk' ?_ ?_ ?_ ?_ ?_ o8 ?_<;>kernel_rfl
def c6c:TI:=⟨.array 2 23,4,32, .cells [.int .i64 0, .int .i64 0, .int .i64 0, .int .i64 0],[]⟩
theorem c6V:TOk Tryz.prog 24 c6c:=by refine TOk.mk' ?_ ?_ ?_ ?_ ?_ o8 ?_<;>kernel_rfl
def c5q:TI:=⟨.slice 23,1,24, .cells [.nils],[]⟩
theorem c7q:TOk Tryz.prog 25 c5q:=by refine TOk.mk' ?_ ?_ ?_ ?_ ?_ o8 ?_<;>kernel_rfl
def c6b:TI:=⟨.slice 28,1,24, .cells [.nils],[]⟩
theorem c6X:TOk Tryz.prog 26 c6b:=by refine TOk.mk' ?_ ?_ ?_ ?_ ?_ o8 ?_<;>kernel_rfl
def c5c:TI:=⟨.struct [(0,2),(1,2)],2,16, .cells [.int .i64 0, .int .i64 0],[]⟩
theorem c7e:TOk Tryz.prog 28 c5c:=by refine TOk.mk' ?_ ?_ ?_ ?_ ?_ o8 ?_<;>kernel_rfl
def c4y:TI:=⟨.array 2 28,4,32, .cells [.int .i64 0, .int .i64 0, .int .i64 0, .int .i64 0],[]⟩
theorem c8C:TOk Tryz.prog 29 c4y:=by refine TOk.mk' ?_ ?_ ?_ ?_ ?_ o8 ?_<;>kernel_rfl
def c5Y:TI:=⟨.slice 25,1,24, .cells [.nils],[]⟩
theorem c7P:TOk Tryz.prog 37 c5Y:=by refine TOk.mk' ?_ ?_ ?_ ?_ ?_ o8 ?_<;>kernel_rfl
def c6m:TI:=⟨.struct [(0,2),(1,25),(2,37)],3,56, .cells [.int .i64 0, .nils, .nils],[]⟩
theorem c8h:TOk Tryz.prog 38 c6m:=by refine TOk.mk' ?_ ?_ ?_ ?_ ?_ o8 ?_<;>kernel_rfl
def c4X:TI:=⟨.struct [(0,2),(1,25),(2,37)],3,56, .cells [.int .i64 0, .nils, .nils],[]⟩
theorem c7c:TOk Tryz.prog 39 c4X:=by refine TOk.mk' ?_ ?_ ?_ ?_ ?_ o8 ?_<;>kernel_rfl
def c4s:TI:=⟨.struct [(0,25),(1,4),(2,2),(3,2),(4,2),(5,24)],9,88, .cells [.nils, .ff, .int .i64 0, .int .i64 0, .int .i64 0, .int .i64 0, .int .i64 0, .int .i64 0, .int .i64 0],[]⟩
theorem c8o:TOk Tryz.prog 47 c4s:=by refine TOk.mk' ?_ ?_ ?_ ?_ ?_ o8 ?_<;>kernel_rfl
def c6A:TI:=⟨.struct [(0,25),(1,4),(2,2),(3,2),(4,2),(5,24)],9,88, .cells [.nils, .ff, .int .i64 0, .int .i64 0, .int .i64 0, .int .i64 0, .int .i64 0, .int .i64 0, .int .i64 0],[]⟩
theorem c7b:TOk Tryz.prog 48 c6A:=by refine TOk.mk' ?_ ?_ ?_ ?_ ?_ o8 ?_<;>kernel_rfl
def c5H:TI:=⟨.slice 2,1,24, .cells [.nils],[]⟩
theorem c8z:TOk Tryz.prog 50 c5H:=by refine TOk.mk' ?_ ?_ ?_ ?_ ?_ o8 ?_<;>kernel_rfl
def c4m:TI:=⟨.slice 29,1,24, .cells [.nils],[]⟩
theorem c7M:TOk Tryz.prog 51 c4m:=by refine TOk.mk' ?_ ?_ ?_ ?_ ?_ o8 ?_<;>kernel_rfl
def c6w:TI:=⟨.slice 26,1,24, .cells [.nils],[]⟩
theorem c7B:TOk Tryz.prog 68 c6w:=by refine TOk.mk' ?_ ?_ ?_ ?_ ?_ o8 ?_<;>kernel_rfl
def c6f:TI:=⟨.struct [(0,26),(1,68)],2,48, .cells [.nils, .nils],[]⟩
theorem c7X:TOk Tryz.prog 69 c6f:=by refine TOk.mk' ?_ ?_ ?_ ?_ ?_ o8 ?_<;>kernel_rfl
def c5U:TI:=⟨.struct [(0,26),(1,68)],2,48, .cells [.nils, .nils],[]⟩
theorem c7S:TOk Tryz.prog 70 c5U:=by refine TOk.mk' ?_ ?_ ?_ ?_ ?_ o8 ?_<;>kernel_rfl
def c3D:TI:=⟨.struct [(0,39),(3,29)],7,88, .cells [.int .i64 0, .nils, .nils, .int .i64 0, .int .i64 0, .int .i64 0, .int .i64 0],[]⟩
theorem c6Z:TOk Tryz.prog 75 c3D:=by refine TOk.mk' ?_ ?_ ?_ ?_ ?_ o8 ?_<;>kernel_rfl
def c4T:TI:=⟨.slice 75,1,24, .cells [.nils],[]⟩
theorem c8b:TOk Tryz.prog 76 c4T:=by refine TOk.mk' ?_ ?_ ?_ ?_ ?_ o8 ?_<;>kernel_rfl
def c4o:TI:=⟨.slice 39,1,24, .cells [.nils],[]⟩
theorem c8r:TOk Tryz.prog 79 c4o:=by refine TOk.mk' ?_ ?_ ?_ ?_ ?_ o8 ?_<;>kernel_rfl
def c4e:TI:=⟨.iface,1,16, .cells [.nili],[]⟩
theorem c8a:TOk Tryz.prog 92 c4e:=by refine TOk.mk' ?_ ?_ ?_ ?_ ?_ o8 ?_<;>kernel_rfl
def c6y:TI:=⟨.iface,1,16, .cells [.nili],[]⟩
theorem c7k:TOk Tryz.prog 93 c6y:=by refine TOk.mk' ?_ ?_ ?_ ?_ ?_ o8 ?_<;>kernel_rfl
def c5b:TI:=⟨.ptr 148,1,8, .cells [.nilp],[]⟩
theorem c7l:TOk Tryz.prog 95 c5b:=by refine TOk.mk' ?_ ?_ ?_ ?_ ?_ o8 ?_<;>kernel_rfl
def c5B:TI:=⟨.flt .f64,1,8, .cells [.flt .f64 0],[]⟩
theorem c7A:TOk Tryz.prog 98 c5B:=by refine TOk.mk' ?_ ?_ ?_ ?_ ?_ o8 ?_<;>kernel_rfl
def c5v:TI:=⟨.struct [(0,98),(1,98)],2,16, .cells [.flt .f64 0, .flt .f64 0],[]⟩
theorem c8s:TOk Tryz.prog 99 c5v:=by refine TOk.mk' ?_ ?_ ?_ ?_ ?_ o8 ?_<;>kernel_rfl
def c1x:TI:=⟨.struct [(0,98),(1,98)],2,16, .cells [.flt .f64 0, .flt .f64 0],[⟨ "ContainsLine",152,none⟩,⟨ "ContainsPoint",153,none⟩,⟨ "ContainsPoly",154,none⟩,⟨ "ContainsRect",155,none⟩,⟨ "Empty",156,none⟩,⟨ "IntersectsLine",157,none⟩,⟨ "IntersectsPoint",158,none⟩,⟨ "IntersectsPoly",159,none⟩,⟨ "IntersectsRect",160,none⟩,⟨ "Move",81,none⟩,⟨ "Rect",161,none⟩,⟨ "Valid",162,none⟩]⟩
theorem c5e:TOk Tryz.prog 100 c1x:=by refine TOk.mk' ?_ ?_ ?_ ?_ ?_ (l8 (MOk.of_chk ?_) (l8 (MOk.of_chk ?_) (l8 (MOk.of_chk ?_) (l8 (MOk.of_chk ?_) (l8 (MOk.of_chk ?_) (l8 (MOk.of_chk ?_) (l8 (MOk.of_chk ?_) (l8 (MOk.of_chk ?_) (l8 (MOk.of_chk ?_) (l8 (MOk.of_chk ?_) (l8 (MOk.of_chk ?_) (l8 (MOk.of_chk ?_) o8)))))))))))) ?_<;>kernel_rfl
def c0a:TI:=⟨.struct [(0,100),(2,100)],4,32, .cells [.flt .f64 0, .flt .f64 0, .flt .f64 0, .flt .f64 0],[]⟩
theorem c5Q:TOk Tryz.prog 101 c0a:=by refine TOk.mk' ?_ ?_ ?_ ?_ ?_ o8 ?_<;>kernel_rfl
def c0S:TI:=⟨.struct [(0,100),(2,100)],4,32, .cells [.flt .f64 0, .flt .f64 0, .flt .f64 0, .flt .f64 0],[⟨ "Area",188,none⟩,⟨ "Clockwise",249,none⟩,⟨ "ContainsLine",189,none⟩,⟨ "ContainsPoint",169,none⟩,⟨ "ContainsPoly",190,none⟩,⟨ "ContainsRect",191,none⟩,⟨ "Convex",250,none⟩,⟨ "Empty",192,none⟩,⟨ "Index",251,none⟩,⟨ "IntersectsLine",193,none⟩,⟨ "IntersectsPoint",194,none⟩,⟨ "IntersectsPoly",195,none⟩,⟨ "IntersectsRect",175,none⟩,⟨ "Move",82,none⟩,⟨ "NumPoints",196,none⟩,⟨ "NumSegments",203,none⟩,⟨ "PointAt",197,none⟩,⟨ "Rect",198,none⟩,⟨ "Search",199,none⟩,⟨ "SegmentAt",204,none⟩,⟨ "Valid",200,none⟩]⟩
theorem c4Y:TOk Tryz.prog 102 c0S:=by refine TOk.mk' ?_ ?_ ?_ ?_ ?_ (l8 (MOk.of_chk ?_) (l8 (MOk.of_chk ?_) (l8 (MOk.of_chk ?_) (l8 (MOk.of_chk ?_) (l8 (MOk.of_chk ?_) (l8 (MOk.of_chk ?_) (l8 (MOk.of_chk ?_) (l8 (MOk.of_chk ?_) (l8 (MOk.of_chk ?_) (l8 (MOk.of_chk ?_) (l8 (MOk.of_chk ?_) (l8 (MOk.of_chk ?_) (l8 (MOk.of_chk ?_) (l8 (MOk.of_chk ?_) (l8 (MOk.of_chk ?_) (l8 (MOk.of_chk ?_) (l8 (MOk.of_chk ?_) (l8 (MOk.of_chk ?_) (l8 (MOk.of_chk ?_) (l8 (MOk.of_chk ?_) (l8 (MOk.of_chk ?_) o8))))))))))))))))))))) ?_<;>kernel_rfl
def c1G:TI:=⟨.iface,1,16, .cells [.nili],[]⟩
theorem c5W:TOk Tryz.prog 105 c1G:=by refine TOk.mk' ?_ ?_ ?_ ?_ ?_ o8 ?_<;>kernel_rfl
def c0t:TI:=⟨.iface,1,16, .cells [.nili],[]⟩
theorem c5r:TOk Tryz.prog 106 c0t:=by refine TOk.mk' ?_ ?_ ?_ ?_ ?_ o8 ?_<;>kernel_rfl
def c1g:TI:=⟨.struct [(0,100),(2,100)],4,32, .cells [.flt .f64 0, .flt .f64 0, .flt .f64 0, .flt .f64 0],[]⟩
theorem c4Q:TOk Tryz.prog 110 c1g:=by refine TOk.mk' ?_ ?_ ?_ ?_ ?_ o8 ?_<;>kernel_rfl
def c0y:TI:=⟨.struct [(0,100),(2,100)],4,32, .cells [.flt .f64 0, .flt .f64 0, .flt .f64 0, .flt .f64 0],[]⟩
theorem c3U:TOk Tryz.prog 111 c0y:=by refine TOk.mk' ?_ ?_ ?_ ?_ ?_ o8 ?_<;>kernel_rfl
def c0B:TI:=⟨.ptr 152,1,8, .cells [.nilp],[⟨ "Clockwise",222,some 0⟩,⟨ "ContainsLine",223,none⟩,⟨ "ContainsPoint",170,none⟩,⟨ "ContainsPoly",224,none⟩,⟨ "ContainsRect",225,none⟩,⟨ "Convex",226,some 0⟩,⟨ "Empty",163,some 0⟩,⟨ "Index",105,some 0⟩,⟨ "IntersectsLine",227,none⟩,⟨ "IntersectsPoint",167,none⟩,⟨ "IntersectsPoly",228,none⟩,⟨ "IntersectsRect",229,none⟩,⟨ "Move",84,none⟩,⟨ "NumPoints",205,some 0⟩,⟨ "NumSegments",111,some 0⟩,⟨ "PointAt",206,some 0⟩,⟨ "Rect",164,some 0⟩,⟨ "Search",172,some 0⟩,⟨ "SegmentAt",112,some 0⟩,⟨ "Valid",230,none⟩]⟩
theorem c4C:TOk Tryz.prog 116 c0B:=by refine TOk.mk' ?_ ?_ ?_ ?_ ?_ (l8 (MOk.of_chkO ?_) (l8 (MOk.of_chk ?_) (l8 (MOk.of_chk ?_) (l8 (MOk.of_chk ?_) (l8 (MOk.of_chk ?_) (l8 (MOk.of_chkO ?_) (l8 (MOk.of_chkO ?_) (l8 (MOk.of_chkO ?_) (l8 (MOk.of_chk ?_) (l8 (MOk.of_chk ?_) (l8 (MOk.of_chk ?_) (l8 (MOk.of_chk ?_) (l8 (MOk.of_chk ?_) (l8 (MOk.of_chkO ?_) (l8 (MOk.of_chkO ?_) (l8 (MOk.of_chkO ?_) (l8 (MOk.of_chkO ?_) (l8 (MOk.of_chkO ?_) (l8 (MOk.of_chkO ?_) (l8 (MOk.of_chk ?_) o8)))))))))))))))))))) ?_<;>kernel_rfl
def c1F:TI:=⟨.slice 100,1,24, .cells [.nils],[]⟩
theorem c5x:TOk Tryz.prog 118 c1F:=by refine TOk.mk' ?_ ?_ ?_ ?_ ?_ o8 ?_<;>kernel_rfl
def c0P:TI:=⟨.ptr 137,1,8, .cells [.nilp],[⟨ "Clockwise",236,none⟩,⟨ "ContainsLine",237,none⟩,⟨ "ContainsPoint",171,none⟩,⟨ "ContainsPoly",238,none⟩,⟨ "ContainsRect",239,none⟩,⟨ "Empty",165,none⟩,⟨ "IntersectsLine",233,none⟩,⟨ "IntersectsPoint",168,none⟩,⟨ "IntersectsPoly",208,none⟩,⟨ "IntersectsRect",202,none⟩,⟨ "Move",85,none⟩,⟨ "Rect",166,none⟩,⟨ "Valid",240,none⟩]⟩
theorem c3J:TOk Tryz.prog 121 c0P:=by refine TOk.mk' ?_ ?_ ?_ ?_ ?_ (l8 (MOk.of_chk ?_) (l8 (MOk.of_chk ?_) (l8 (MOk.of_chk ?_) (l8 (MOk.of_chk ?_) (l8 (MOk.of_chk ?_) (l8 (MOk.of_chk ?_) (l8 (MOk.of_chk ?_) (l8 (MOk.of_chk ?_) (l8 (MOk.of_chk ?_) (l8 (MOk.of_chk ?_) (l8 (MOk.of_chk ?_) (l8 (MOk.of_chk ?_) (l8 (MOk.of_chk ?_) o8))))))))))))) ?_<;>kernel_rfl
def c0W:TI:=⟨.slice 106,1,24, .cells [.nils],[]⟩
theorem c6r:TOk Tryz.prog 135 c0W:=by refine TOk.mk' ?_ ?_ ?_ ?_ ?_ o8 ?_<;>kernel_rfl
def c1D:TI:=⟨.struct [(0,106),(1,135)],2,40, .cells [.nili, .nils],[]⟩
theorem c5N:TOk Tryz.prog 136 c1D:=by refine TOk.mk' ?_ ?_ ?_ ?_ ?_ o8 ?_<;>kernel_rfl
def c1f:TI:=⟨.struct [(0,106),(1,135)],2,40, .cells [.nili, .nils],[]⟩
theorem c4p:TOk Tryz.prog 137 c1f:=by refine TOk.mk' ?_ ?_ ?_ ?_ ?_ o8 ?_<;>kernel_rfl
def c1r:TI:=⟨.struct [(0,4),(1,4)],2,2, .cells [.ff, .ff],[]⟩
theorem c4t:TOk Tryz.prog 141 c1r:=by refine TOk.mk' ?_ ?_ ?_ ?_ ?_ o8 ?_<;>kernel_rfl
def c0E:TI:=⟨.struct [(0,4),(1,4)],2,2, .cells [.ff, .ff],[]⟩
theorem c4B:TOk Tryz.prog 142 c0E:=by refine TOk.mk' ?_ ?_ ?_ ?_ ?_ o8 ?_<;>kernel_rfl
def c1e:TI:=⟨.slice 118,1,24, .cells [.nils],[]⟩
theorem c3E:TOk Tryz.prog 144 c1e:=by refine TOk.mk' ?_ ?_ ?_ ?_ ?_ o8 ?_<;>kernel_rfl
def c0f:TI:=⟨.int .u8,1,1, .cells [.int .u8 0],[]⟩
theorem c6l:TOk Tryz.prog 146 c0f:=by refine TOk.mk' ?_ ?_ ?_ ?_ ?_ o8 ?_<;>kernel_rfl
def c0J:TI:=⟨.struct [(0,146),(1,3)],2,16, .cells [.int .u8 0, .int .i64 0],[]⟩
theorem c5P:TOk Tryz.prog 147 c0J:=by refine TOk.mk' ?_ ?_ ?_ ?_ ?_ o8 ?_<;>kernel_rfl
def c0i:TI:=⟨.struct [(0,146),(1,3)],2,16, .cells [.int .u8 0, .int .i64 0],[]⟩
theorem c6g:TOk Tryz.prog 148 c0i:=by refine TOk.mk' ?_ ?_ ?_ ?_ ?_ o8 ?_<;>kernel_rfl
def c1K:TI:=⟨.struct [(0,4),(1,4),(2,4),(3,146),(4,20),(5,102),(9,118)],10,80, .cells [.ff, .ff, .ff, .int .u8 0, .nili, .flt .f64 0, .flt .f64 0, .flt .f64 0, .flt .f64 0, .nils],[]⟩
theorem c4N:TOk Tryz.prog 149 c1K:=by refine TOk.mk' ?_ ?_ ?_ ?_ ?_ o8 ?_<;>kernel_rfl
def b9O:TI:=⟨.struct [(0,4),(1,4),(2,4),(3,146),(4,20),(5,102),(9,118)],10,80, .cells [.ff, .ff, .ff, .int .u8 0, .nili, .flt .f64 0, .flt .f64 0, .flt .f64 0, .flt .f64 0, .nils],[]⟩
theorem c4A:TOk Tryz.prog 150 b9O:=by refine TOk.mk' ?_ ?_ ?_ ?_ ?_ o8 ?_<;>kernel_rfl
def c1n:TI:=⟨.struct [(0,150)],10,80, .cells [.ff, .ff, .ff, .int .u8 0, .nili, .flt .f64 0, .flt .f64 0, .flt .f64 0, .flt .f64 0, .nils],[]⟩
theorem c6j:TOk Tryz.prog 151 c1n:=by refine TOk.mk' ?_ ?_ ?_ ?_ ?_ o8 ?_<;>kernel_rfl
def c1T:TI:=⟨.struct [(0,150)],10,80, .cells [.ff, .ff, .ff, .int .u8 0, .nili, .flt .f64 0, .flt .f64 0, .flt .f64 0, .flt .f64 0, .nils],[]⟩
theorem c3I:TOk Tryz.prog 152 c1T:=by refine TOk.mk' ?_ ?_ ?_ ?_ ?_ o8 ?_<;>kernel_rfl
def c0b:TI:=⟨.ptr 150,1,8, .cells [.nilp],[⟨ "Clockwise",222,none⟩,⟨ "Convex",226,none⟩,⟨ "Empty",163,none⟩,⟨ "Index",105,none⟩,⟨ "Move",95,none⟩,⟨ "NumPoints",205,none⟩,⟨ "NumSegments",111,none⟩,⟨ "PointAt",206,none⟩,⟨ "Rect",164,none⟩,⟨ "Search",172,none⟩,⟨ "SegmentAt",112,none⟩,⟨ "Valid",234,none⟩]⟩
theorem c5T:TOk Tryz.prog 157 c0b:=by refine TOk.mk' ?_ ?_ ?_ ?_ ?_ (l8 (MOk.of_chk ?_) (l8 (MOk.of_chk ?_) (l8 (MOk.of_chk ?_) (l8 (MOk.of_chk ?_) (l8 (MOk.of_chk ?_) (l8 (MOk.of_chk ?_) (l8 (MOk.of_chk ?_) (l8 (MOk.of_chk ?_) (l8 (MOk.of_chk ?_) (l8 (MOk.of_chk ?_) (l8 (MOk.of_chk ?_) (l8 (MOk.of_chk ?_) o8)))))))))))) ?_<;>kernel_rfl
def c0l:TI:=⟨.int .u64,1,8, .cells [.int .u64 0],[]⟩
theorem c4q:TOk Tryz.prog 172 c0l:=by refine TOk.mk' ?_ ?_ ?_ ?_ ?_ o8 ?_<;>kernel_rfl
def c1N:TI:=⟨.ptr 180,1,8, .cells [.nilp],[]⟩
theorem c5a:TOk Tryz.prog 174 c1N:=by refine TOk.mk' ?_ ?_ ?_ ?_ ?_ o8 ?_<;>kernel_rfl
def c0s:TI:=⟨.array 2 98,2,16, .cells [.flt .f64 0, .flt .f64 0],[]⟩
theorem c5G:TOk Tryz.prog 175 c0s:=by refine TOk.mk' ?_ ?_ ?_ ?_ ?_ o8 ?_<;>kernel_rfl
def b9U:TI:=⟨.struct [(0,20),(1,175),(3,175)],5,48, .cells [.nili, .flt .f64 0, .flt .f64 0, .flt .f64 0, .flt .f64 0],[]⟩
theorem c5Z:TOk Tryz.prog 176 b9U:=by refine TOk.mk' ?_ ?_ ?_ ?_ ?_ o8 ?_<;>kernel_rfl
def b6l:TI:=⟨.struct [(0,20),(1,175),(3,175)],5,48, .cells [.nili, .flt .f64 0, .flt .f64 0, .flt .f64 0, .flt .f64 0],[]⟩
theorem c6P:TOk Tryz.prog 177 b6l:=by refine TOk.mk' ?_ ?_ ?_ ?_ ?_ o8 ?_<;>kernel_rfl
def c1s:TI:=⟨.slice 177,1,24, .cells [.nils],[]⟩
theorem c4H:TOk Tryz.prog 178 c1s:=by refine TOk.mk' ?_ ?_ ?_ ?_ ?_ o8 ?_<;>kernel_rfl
def b9R:TI:=⟨.struct [(0,3),(1,177),(6,3),(7,178)],8,88, .cells [.int .i64 0, .nili, .flt .f64 0, .flt .f64 0, .flt .f64 0, .flt .f64 0, .int .i64 0, .nils],[]⟩
theorem c3M:TOk Tryz.prog 179 b9R:=by refine TOk.mk' ?_ ?_ ?_ ?_ ?_ o8 ?_<;>kernel_rfl
def c1R:TI:=⟨.struct [(0,3),(1,177),(6,3),(7,178)],8,88, .cells [.int .i64 0, .nili, .flt .f64 0, .flt .f64 0, .flt .f64 0, .flt .f64 0, .int .i64 0, .nils],[]⟩
theorem c5R:TOk Tryz.prog 180 c1R:=by refine TOk.mk' ?_ ?_ ?_ ?_ ?_ o8 ?_<;>kernel_rfl
def c0L:TI:=⟨.slice 98,1,24, .cells [.nils],[]⟩
theorem c5n:TOk Tryz.prog 183 c0L:=by refine TOk.mk' ?_ ?_ ?_ ?_ ?_ o8 ?_<;>kernel_rfl
def c0Z:TI:=⟨.slice 5,1,24, .cells [.nils],[]⟩
theorem c6J:TOk Tryz.prog 185 c0Z:=by refine TOk.mk' ?_ ?_ ?_ ?_ ?_ o8 ?_<;>kernel_rfl
def b9V:TI:=⟨.ptr 191,1,8, .cells [.nilp],[]⟩
theorem c4c:TOk Tryz.prog 187 b9V:=by refine TOk.mk' ?_ ?_ ?_ ?_ ?_ o8 ?_<;>kernel_rfl
def c1a:TI:=⟨.slice 200,1,24, .cells [.nils],[]⟩
theorem c3G:TOk Tryz.prog 188 c1a:=by refine TOk.mk' ?_ ?_ ?_ ?_ ?_ o8 ?_<;>kernel_rfl
def c0x:TI:=⟨.array 4 187,4,32, .cells [.nilp, .nilp, .nilp, .nilp],[]⟩
theorem c5l:TOk Tryz.prog 189 c0x:=by refine TOk.mk' ?_ ?_ ?_ ?_ ?_ o8 ?_<;>kernel_rfl
def c1t:TI:=⟨.struct [(0,4),(1,188),(2,189)],6,64, .cells [.ff, .nils, .nilp, .nilp, .nilp, .nilp],[]⟩
theorem c5E:TOk Tryz.prog 190 c1t:=by refine TOk.mk' ?_ ?_ ?_ ?_ ?_ o8 ?_<;>kernel_rfl
def b9P:TI:=⟨.struct [(0,4),(1,188),(2,189)],6,64, .cells [.ff, .nils, .nilp, .nilp, .nilp, .nilp],[]⟩
theorem c4U:TOk Tryz.prog 191 b9P:=by refine TOk.mk' ?_ ?_ ?_ ?_ ?_ o8 ?_<;>kernel_rfl
def c1C:TI:=⟨.ptr 177,1,8, .cells [.nilp],[]⟩
theorem c3O:TOk Tryz.prog 195 c1C:=by refine TOk.mk' ?_ ?_ ?_ ?_ ?_ o8 ?_<;>kernel_rfl
def c0G:TI:=⟨.struct [],0,0, .cells [],[]⟩
theorem c6O:TOk Tryz.prog 197 c0G:=by refine TOk.mk' ?_ ?_ ?_ ?_ ?_ o8 ?_<;>kernel_rfl
def c0k:TI:=⟨.struct [],0,0, .cells [],[]⟩
theorem c5X:TOk Tryz.prog 198 c0k:=by refine TOk.mk' ?_ ?_ ?_ ?_ ?_ o8 ?_<;>kernel_rfl
def c0c:TI:=⟨.int .u32,1,4, .cells [.int .u32 0],[]⟩
theorem c5s:TOk Tryz.prog 200 c0c:=by refine TOk.mk' ?_ ?_ ?_ ?_ ?_ o8 ?_<;>kernel_rfl
def c0D:TI:=⟨.array 4 3,4,32, .cells [.int .i64 0, .int .i64 0, .int .i64 0, .int .i64 0],[]⟩
theorem c6n:TOk Tryz.prog 206 c0D:=by refine TOk.mk' ?_ ?_ ?_ ?_ ?_ o8 ?_<;>kernel_rfl
def c1k:TI:=⟨.ptr 210,1,8, .cells [.nilp],[]⟩
theorem c5L:TOk Tryz.prog 207 c1k:=by refine TOk.mk' ?_ ?_ ?_ ?_ ?_ o8 ?_<;>kernel_rfl
def c0z:TI:=⟨.array 17 177,85,816, .cells [.nili, .flt .f64 0, .flt .f64 0, .flt .f64 0, .flt .f64 0, .nili, .flt .f64 0, .flt .f64 0, .flt .f64 0, .flt .f64 0, .nili, .flt .f64 0, .flt .f64 0, .flt .f64 0, .flt .f64 0, .nili, .flt .f64 0, .flt .f64 0, .flt .f64 0, .flt .f64 0, .nili, .flt .f64 0, .flt .f64 0, .flt .f64 0, .flt .f64 0, .nili, .flt .f64 0, .flt .f64 0, .flt .f64 0, .flt .f64 0, .nili, .flt .f64 0, .flt .f64 0, .flt .f64 0, .flt .f64 0, .nili, .flt .f64 0, .flt .f64 0, .flt .f64 0, .flt .f64 0, .nili, .flt .f64 0, .flt .f64 0, .flt .f64 0, .flt .f64 0, .nili, .flt .f64 0, .flt .f64 0, .flt .f64 0, .flt .f64 0, .nili, .flt .f64 0, .flt .f64 0, .flt .f64 0, .flt .f64 0, .nili, .flt .f64 0, .flt .f64 0, .flt .f64 0, .flt .f64 0, .nili, .flt .f64 0, .flt .f64 0, .flt .f64 0, .flt .f64 0, .nili, .flt .f64 0, .flt .f64 0, .flt .f64 0, .flt .f64 0, .nili, .flt .f64 0, .flt .f64 0, .flt .f64 0, .flt .f64 0, .nili, .flt .f64 0, .flt .f64 0, .flt .f64 0, .flt .f64 0, .nili, .flt .f64 0, .flt .f64 0, .flt .f64 0, .flt .f64 0],[]⟩
theorem c4S:TOk Tryz.prog 208 c0z:=by refine TOk.mk' ?_ ?_ ?_ ?_ ?_ o8 ?_<;>kernel_rfl
def c0T:TI:=⟨.struct [(0,3),(1,208)],86,824, .cells [.int .i64 0, .nili, .flt .f64 0, .flt .f64 0, .flt .f64 0, .flt .f64 0, .nili, .flt .f64 0, .flt .f64 0, .flt .f64 0, .flt .f64 0, .nili, .flt .f64 0, .flt .f64 0, .flt .f64 0, .flt .f64 0, .nili, .flt .f64 0, .flt .f64 0, .flt .f64 0, .flt .f64 0, .nili, .flt .f64 0, .flt .f64 0, .flt .f64 0, .flt .f64 0, .nili, .flt .f64 0, .flt .f64 0, .flt .f64 0, .flt .f64 0, .nili, .flt .f64 0, .flt .f64 0, .flt .f64 0, .flt .f64 0, .nili, .flt .f64 0, .flt .f64 0, .flt .f64 0, .flt .f64 0, .nili, .flt .f64 0, .flt .f64 0, .flt .f64 0, .flt .f64 0, .nili, .flt .f64 0, .flt .f64 0, .flt .f64 0, .flt .f64 0, .nili, .flt .f64 0, .flt .f64 0, .flt .f64 0, .flt .f64 0, .nili, .flt .f64 0, .flt .f64 0, .flt .f64 0, .flt .f64 0, .nili, .flt .f64 0, .flt .f64 0, .flt .f64 0, .flt .f64 0, .nili, .flt .f64 0, .flt .f64 0, .flt .f64 0, .flt .f64 0, .nili, .flt .f64 0, .flt .f64 0, .flt .f64 0, .flt .f64 0, .nili, .flt .f64 0, .flt .f64 0, .flt .f64 0, .flt .f64 0, .nili, .flt .f64 0, .flt .f64 0, .flt .f64 0, .flt .f64 0],[]⟩
theorem c4J:TOk Tryz.prog 209 c0T:=by refine TOk.mk' ?_ ?_ ?_ ?_ ?_ o8 ?_<;>kernel_rfl
def b7t:TI:=⟨.struct [(0,3),(1,208)],86,824, .cells [.int .i64 0, .nili, .flt .f64 0, .flt .f64 0, .flt .f64 0, .flt .f64 0, .nili, .flt .f64 0, .flt .f64 0, .flt .f64 0, .flt .f64 0, .nili, .flt .f64 0, .flt .f64 0, .flt .f64 0, .flt .f64 0, .nili, .flt .f64 0, .flt .f64 0, .flt .f64 0, .flt .f64 0, .nili, .flt .f64 0, .flt .f64 0, .flt .f64 0, .flt .f64 0, .nili, .flt .f64 0, .flt .f64 0, .flt .f64 0, .flt .f64 0, .nili, .flt .f64 0, .flt .f64 0, .flt .f64 0, .flt .f64 0, .nili, .flt .f64 0, .flt .f64 0, .flt .f64 0, .flt .f64 0, .nili, .flt .f64 0, .flt .f64 0, .flt .f64 0, .flt .f64 0, .nili, .flt .f64 0, .flt .f64 0, .flt .f64 0, .flt .f64 0, .nili, .flt .f64 0, .flt .f64 0, .flt .f64 0, .flt .f64 0, .nili, .flt .f64 0, .flt .f64 0, .flt .f64 0, .flt .f64 0, .nili, .flt .f64 0, .flt .f64 0, .flt .f64 0, .flt .f64 0, .nili, .flt .f64 0, .flt .f64 0, .flt .f64 0, .flt .f64 0, .nili, .flt .f64 0, .flt .f64 0, .flt .f64 0, .flt .f64 0, .nili, .flt .f64 0, .flt .f64 0, .flt .f64 0, .flt .f64 0, .nili, .flt .f64 0, .flt .f64 0, .flt .f64 0, .flt .f64 0],[]⟩
theorem c6R:TOk Tryz.prog 210 b7t:=by refine TOk.mk' ?_ ?_ ?_ ?_ ?_ o8 ?_<;>kernel_rfl
def c1B:TI:=⟨.int .u64,1,8, .cells [.int .u64 0],[]⟩
theorem c4O:TOk Tryz.prog 212 c1B:=by refine TOk.mk' ?_ ?_ ?_ ?_ ?_ o8 ?_<;>kernel_rfl
def c0F:TI:=⟨.slice 3,1,24, .cells [.nils],[]⟩
theorem c4w:TOk Tryz.prog 214 c0F:=by refine TOk.mk' ?_ ?_ ?_ ?_ ?_ o8 ?_<;>kernel_rfl
def c1j:TI:=⟨.int .u16,1,2, .cells [.int .u16 0],[]⟩
theorem c5g:TOk Tryz.prog 216 c1j:=by refine TOk.mk' ?_ ?_ ?_ ?_ ?_ o8 ?_<;>kernel_rfl
def c1i:TI:=⟨.array 8 5,8,8, .cells [.int .u8 0, .int .u8 0, .int .u8 0, .int .u8 0, .int .u8 0, .int .u8 0, .int .u8 0, .int .u8 0],[]⟩
theorem c5A:TOk Tryz.prog 221 c1i:=by refine TOk.mk' ?_ ?_ ?_ ?_ ?_ o8 ?_<;>kernel_rfl
def c0O:TI:=⟨.struct [(0,17),(1,17),(2,17),(3,9)],4,40, .cells [.nilp, .nilp, .nilp, .str ⟨#[]⟩],[]⟩
theorem c6F:TOk Tryz.prog 224 c0O:=by refine TOk.mk' ?_ ?_ ?_ ?_ ?_ o8 ?_<;>kernel_rfl
def b9Q:TI:=⟨.struct [(0,17),(1,17),(2,17),(3,9)],4,40, .cells [.nilp, .nilp, .nilp, .str ⟨#[]⟩],[]⟩
theorem c6u:TOk Tryz.prog 225 b9Q:=by refine TOk.mk' ?_ ?_ ?_ ?_ ?_ o8 ?_<;>kernel_rfl
def c1w:TI:=⟨.array 0 16,0,0, .cells [],[]⟩
theorem c5I:TOk Tryz.prog 226 c1w:=by refine TOk.mk' ?_ ?_ ?_ ?_ ?_ o8 ?_<;>kernel_rfl
def c0r:TI:=⟨.struct [(0,226)],0,0, .cells [],[]⟩
theorem c5u:TOk Tryz.prog 227 c0r:=by refine TOk.mk' ?_ ?_ ?_ ?_ ?_ o8 ?_<;>kernel_rfl
def c0H:TI:=⟨.struct [(0,226)],0,0, .cells [],[]⟩
theorem c5o:TOk Tryz.prog 228 c0H:=by refine TOk.mk' ?_ ?_ ?_ ?_ ?_ o8 ?_<;>kernel_rfl
def c0e:TI:=⟨.int .u8,1,1, .cells [.int .u8 0],[]⟩
theorem c6M:TOk Tryz.prog 229 c0e:=by refine TOk.mk' ?_ ?_ ?_ ?_ ?_ o8 ?_<;>kernel_rfl
def c0C:TI:=⟨.int .u8,1,1, .cells [.int .u8 0],[]⟩
theorem c3R:TOk Tryz.prog 230 c0C:=by refine TOk.mk' ?_ ?_ ?_ ?_ ?_ o8 ?_<;>kernel_rfl
def c0h:TI:=⟨.ptr 5,1,8, .cells [.nilp],[]⟩
theorem c6Q:TOk Tryz.prog 232 c0h:=by refine TOk.mk' ?_ ?_ ?_ ?_ ?_ o8 ?_<;>kernel_rfl
def c0U:TI:=⟨.int .i32,1,4, .cells [.int .i32 0],[]⟩
theorem c5V:TOk Tryz.prog 233 c0U:=by refine TOk.mk' ?_ ?_ ?_ ?_ ?_ o8 ?_<;>kernel_rfl
def c1l:TI:=⟨.int .i32,1,4, .cells [.int .i32 0],[]⟩
theorem c4n:TOk Tryz.prog 234 c1l:=by refine TOk.mk' ?_ ?_ ?_ ?_ ?_ o8 ?_<;>kernel_rfl
def c0w:TI:=⟨.struct [(0,12),(1,12),(2,200),(3,229),(4,5),(5,5),(6,230),(7,231),(8,232),(9,233),(10,234)],11,48, .cells [.int .u64 0, .int .u64 0, .int .u32 0, .int .u8 0, .int .u8 0, .int .u8 0, .int .u8 0, .nilf, .nilp, .int .i32 0, .int .i32 0],[]⟩
theorem c4i:TOk Tryz.prog 235 c0w:=by refine TOk.mk' ?_ ?_ ?_ ?_ ?_ o8 ?_<;>kernel_rfl
def c1u:TI:=⟨.struct [(0,12),(1,12),(2,200),(3,229),(4,5),(5,5),(6,230),(7,231),(8,232),(9,233),(10,234)],11,48, .cells [.int .u64 0, .int .u64 0, .int .u32 0, .int .u8 0, .int .u8 0, .int .u8 0, .int .u8 0, .nilf, .nilp, .int .i32 0, .int .i32 0],[]⟩
theorem c3V:TOk Tryz.prog 236 c1u:=by refine TOk.mk' ?_ ?_ ?_ ?_ ?_ o8 ?_<;>kernel_rfl
def c1A:TI:=⟨.struct [(0,4),(1,3)],2,16, .cells [.ff, .int .i64 0],[]⟩
theorem c4D:TOk Tryz.prog 237 c1A:=by refine TOk.mk' ?_ ?_ ?_ ?_ ?_ o8 ?_<;>kernel_rfl
def c0d:TI:=⟨.struct [(0,4),(1,3)],2,16, .cells [.ff, .int .i64 0],[]⟩
theorem c3X:TOk Tryz.prog 238 c0d:=by refine TOk.mk' ?_ ?_ ?_ ?_ ?_ o8 ?_<;>kernel_rfl
def c0j:TI:=⟨.ptr 3,1,8, .cells [.nilp],[]⟩
theorem c5t:TOk Tryz.prog 249 c0j:=by refine TOk.mk' ?_ ?_ ?_ ?_ ?_ o8 ?_<;>kernel_rfl
def b9Z:TI:=⟨.ptr 4,1,8, .cells [.nilp],[]⟩
theorem c6d:TOk Tryz.prog 250 b9Z:=by refine TOk.mk' ?_ ?_ ?_ ?_ ?_ o8 ?_<;>kernel_rfl
def c1c:TI:=⟨.slice 111,1,24, .cells [.nils],[]⟩
theorem c4F:TOk Tryz.prog 255 c1c:=by refine TOk.mk' ?_ ?_ ?_ ?_ ?_ o8 ?_<;>kernel_rfl
def c1m:TI:=⟨.array 5 100,10,80, .cells [.flt .f64 0, .flt .f64 0, .flt .f64 0, .flt .f64 0, .flt .f64 0, .flt .f64 0, .flt .f64 0, .flt .f64 0, .flt .f64 0, .flt .f64 0],[]⟩
theorem c4r:TOk Tryz.prog 258 c1m:=by refine TOk.mk' ?_ ?_ ?_ ?_ ?_ o8 ?_<;>kernel_rfl
def b9Y:TI:=⟨.array 2 100,4,32, .cells [.flt .f64 0, .flt .f64 0, .flt .f64 0, .flt .f64 0],[]⟩
theorem c4d:TOk Tryz.prog 259 b9Y:=by refine TOk.mk' ?_ ?_ ?_ ?_ ?_ o8 ?_<;>kernel_rfl
def tys:Tys:=[(2,ty2),(3,ty3),(4,ty4),(5,ty5),(6,ty6),(7,ty7),(8,ty8),(9,ty9),(10,c6E),(11,c4v),(12,c6a),(13,c6i),(14,c4Z),(15,c5d),(16,c4M),(17,c6p),(18,c6K),(19,c4x),(20,c6L),(21,c6G),(22,c6x),(23,c5C),(24,c6c),(25,c5q),(26,c6b),(28,c5c),(29,c4y),(37,c5Y),(38,c6m),(39,c4X),(47,c4s),(48,c6A),(50,c5H),(51,c4m),(68,c6w),(69,c6f),(70,c5U),(75,c3D),(76,c4T),(79,c4o),(92,c4e),(93,c6y),(95,c5b),(98,c5B),(99,c5v),(100,c1x),(101,c0a),(102,c0S),(105,c1G),(106,c0t),(110,c1g),(111,c0y),(116,c0B),(118,c1F),(121,c0P),(135,c0W),(136,c1D),(137,c1f),(141,c1r),(142,c0E),(144,c1e),(146,c0f),(147,c0J),(148,c0i),(149,c1K),(150,b9O),(151,c1n),(152,c1T),(157,c0b),(172,c0l),(174,c1N),(175,c0s),(176,b9U),(177,b6l),(178,c1s),(179,b9R),(180,c1R),(183,c0L),(185,c0Z),(187,b9V),(188,c1a),(189,c0x),(190,c1t),(191,b9P),(195,c1C),(197,c0G),(198,c0k),(200,c0c),(206,c0D),(207,c1k),(208,c0z),(209,c0T),(210,b7t),(212,c1B),(214,c0F),(216,c1j),(221,c1i),(224,c0O),(225,b9Q),(226,c1w),(227,c0r),(228,c0H),(229,c0e),(230,c0C),(232,c0h),(233,c0U),(234,c1l),(235,c0w),(236,c1u),(237,c1A),(238,c0d),(249,c0j),(250,b9Z),(255,c1c),(258,c1m),(259,b9Y)]
theorem E1:TysOk Tryz.prog tys:=by
 unfold tys;refine TysOk.cons ok2 ?_;refine TysOk.cons ok3 ?_;refine TysOk.cons ok4 ?_;refine TysOk.cons ok5 ?_;refine TysOk.cons ok6 ?_;refine TysOk.cons ok7 ?_;refine TysOk.cons ok8 ?_;refine TysOk.cons ok9 ?_;refine TysOk.cons c7J ?_;refine TysOk.cons c7t ?_;refine TysOk.cons c7s ?_;refine TysOk.cons c7K ?_;refine TysOk.cons c7f ?_;refine TysOk.cons c7i ?_;refine TysOk.cons c8g ?_;refine TysOk.cons c6W ?_;refine TysOk.cons c7w ?_;refine TysOk.cons c7D ?_;refine TysOk.cons c7H ?_;refine TysOk.cons c8c ?_;refine TysOk.cons c7z ?_;refine TysOk.cons c8e ?_;refine TysOk.cons c6V ?_
 refine TysOk.cons c7q ?_;refine TysOk.cons c6X ?_;refine TysOk.cons c7e ?_;refine TysOk.cons c8C ?_;refine TysOk.cons c7P ?_;refine TysOk.cons c8h ?_;refine TysOk.cons c7c ?_;refine TysOk.cons c8o ?_;refine TysOk.cons c7b ?_;refine TysOk.cons c8z ?_;refine TysOk.cons c7M ?_;refine TysOk.cons c7B ?_;refine TysOk.cons c7X ?_;refine TysOk.cons c7S ?_;refine TysOk.cons c6Z ?_;refine TysOk.cons c8b ?_;refine TysOk.cons c8r ?_;refine TysOk.cons c8a ?_;refine TysOk.cons c7k ?_;refine TysOk.cons c7l ?_;refine TysOk.cons c7A ?_;refine TysOk.cons c8s ?_;refine TysOk.cons c5e ?_
 refine TysOk.cons c5Q ?_;refine TysOk.cons c4Y ?_;refine TysOk.cons c5W ?_;refine TysOk.cons c5r ?_;refine TysOk.cons c4Q ?_;refine TysOk.cons c3U ?_;refine TysOk.cons c4C ?_;refine TysOk.cons c5x ?_;refine TysOk.cons c3J ?_;refine TysOk.cons c6r ?_;refine TysOk.cons c5N ?_;refine TysOk.cons c4p ?_;refine TysOk.cons c4t ?_;refine TysOk.cons c4B ?_;refine TysOk.cons c3E ?_;refine TysOk.cons c6l ?_;refine TysOk.cons c5P ?_;refine TysOk.cons c6g ?_;refine TysOk.cons c4N ?_;refine TysOk.cons c4A ?_;refine TysOk.cons c6j ?_;refine TysOk.cons c3I ?_
 refine TysOk.cons c5T ?_;refine TysOk.cons c4q ?_;refine TysOk.cons c5a ?_;refine TysOk.cons c5G ?_;refine TysOk.cons c5Z ?_;refine TysOk.cons c6P ?_;refine TysOk.cons c4H ?_;refine TysOk.cons c3M ?_;refine TysOk.cons c5R ?_;refine TysOk.cons c5n ?_;refine TysOk.cons c6J ?_;refine TysOk.cons c4c ?_;refine TysOk.cons c3G ?_;refine TysOk.cons c5l ?_;refine TysOk.cons c5E ?_;refine TysOk.cons c4U ?_;refine TysOk.cons c3O ?_;refine TysOk.cons c6O ?_;refine TysOk.cons c5X ?_;refine TysOk.cons c5s ?_;refine TysOk.cons c6n ?_;refine TysOk.cons c5L ?_
 refine TysOk.cons c4S ?_;refine TysOk.cons c4J ?_;refine TysOk.cons c6R ?_;refine TysOk.cons c4O ?_;refine TysOk.cons c4w ?_;refine TysOk.cons c5g ?_;refine TysOk.cons c5A ?_;refine TysOk.cons c6F ?_;refine TysOk.cons c6u ?_;refine TysOk.cons c5I ?_;refine TysOk.cons c5u ?_;refine TysOk.cons c5o ?_;refine TysOk.cons c6M ?_;refine TysOk.cons c3R ?_;refine TysOk.cons c6Q ?_;refine TysOk.cons c5V ?_;refine TysOk.cons c4n ?_;refine TysOk.cons c4i ?_;refine TysOk.cons c3V ?_;refine TysOk.cons c4D ?_;refine TysOk.cons c3X ?_;refine TysOk.cons c5t ?_
 refine TysOk.cons c6d ?_;refine TysOk.cons c4F ?_;refine TysOk.cons c4r ?_;refine TysOk.cons c4d ?_;exact TysOk.nil
end Go.Proofs.Tryz.Sx

namespace Go.Fl
open Ieee
theorem lp:double.leastPlace = -1074:=by decide
theorem bnd:double.binade=2 ^ 52:=by decide
theorem c4W:double.infRung=2047*2 ^ 52:=by decide
theorem sgw:double.signWeight=2 ^ 63:=by decide
theorem frb:double.fractionBits=52:=rfl
def Fin(x:Nat):Prop:=x<2 ^ 64/\x % 2 ^ 63<2047*2 ^ 52
def Z9(r:Nat):Nat:=if r<2 ^ 52 then r else(2 ^ 52+r % 2 ^ 52)*2 ^ (r / 2 ^ 52-1)
def V(x:Nat):Int:=if x / 2 ^ 63 % 2=1 then -(Z9 (x % 2 ^ 63):Int)else(Z9 (x % 2 ^ 63):Int)
theorem L0(s:Bool)(m u v:Nat):signed s m (u+v)=signed s m u*2 ^ v:=by
 unfold signed
 have:((m <<< (u+v):Nat):Int)=(m <<< u:Nat)*2 ^ v:=by
  rw[Nat.shiftLeft_eq,Nat.shiftLeft_eq,Nat.pow_add];push_cast;rw[Int.mul_assoc]
 split
 ·rw[this,Int.neg_mul]
 ·exact this
theorem J6(s:Bool)(m u:Nat):signed s m u=if s then -((m*2 ^ u:Nat):Int)else((m*2 ^ u:Nat):Int):=by
 unfold signed;rw[Nat.shiftLeft_eq]
theorem B6{x:Nat}(h:Fin x):∃ s m i,double.read x=.number s m i/\-1074<=i/\signed s m (i+1074).toNat=V x/\m<2 ^ 53:=by
 obtain⟨h1,h2⟩:=h;unfold Format.read;simp only[sgw,bnd,c4W,lp];by_cases hs:x % 2 ^ 63<2 ^ 52
 ·refine⟨x / 2 ^ 63 % 2==1,x % 2 ^ 63,-1074,by simp[hs],by omega,?_,by omega⟩;rw[J6,V,Z9,if_pos hs];simp
 ·refine⟨x / 2 ^ 63 % 2==1,2 ^ 52+x % 2 ^ 63 % 2 ^ 52,-1074+(x % 2 ^ 63 / 2 ^ 52-1:Nat),by simp[hs,h2],by omega,?_,by omega⟩;rw[J6,V,Z9,if_neg hs];have:(-1074+((x % 2 ^ 63 / 2 ^ 52-1:Nat):Int)+1074).toNat=x % 2 ^ 63 / 2 ^ 52-1:=by omega
  rw[this];simp
theorem N7(a b:Int):compare a b=if a<b then .lt else if a=b then .eq else .gt:=rfl
theorem G1(k:Nat):(0:Int)<2 ^ k:=Int.pow_pos (by decide)
theorem b1R{a b k:Int}(hk:0<k):a*k<b*k↔a<b :=
 ⟨λh=>Int.lt_of_mul_lt_mul_right h (Int.le_of_lt hk),λh=>Int.mul_lt_mul_of_pos_right h hk⟩
theorem a2B(a b:Int)(k:Nat):compare (a*2 ^ k) (b*2 ^ k)=compare a b:=by
 have hp:=G1 k;rw[N7,N7];have h1:(a*2 ^ k<b*2 ^ k)=(a<b):=propext (b1R hp);have h2:(a*2 ^ k=b*2 ^ k)=(a=b):=propext ⟨λh=>Int.eq_of_mul_eq_mul_right (by omega) h,λh=>by rw[h]⟩;simp only[h1,h2]
theorem a7C{x y:Nat}(hx:Fin x)(hy:Fin y):double.order x y=some (compare (V x) (V y)):=by
 obtain⟨s,m,i,h1,h2,h3,_⟩:=B6 hx;obtain⟨t,n,j,h4,h5,h6,_⟩:=B6 hy;unfold Format.order;rw[h1,h4];simp only[Datum.order];congr 1;rw[<-h3,<-h6];have e1:(i+1074).toNat=(i-min i j).toNat+(min i j+1074).toNat:=by omega
 have e2:(j+1074).toNat=(j-min i j).toNat+(min i j+1074).toNat:=by omega
 rw[e1,e2,L0,L0,a2B]
theorem a3G(neg:Bool)(n drop:Nat):2*(Toward.even.cut neg n drop*2 ^ drop)<=2*n+2 ^ drop/\2*n<=2*(Toward.even.cut neg n drop*2 ^ drop)+2 ^ drop:=by
 unfold Toward.cut;simp only[Nat.shiftLeft_eq,Nat.one_mul];by_cases hd:drop<=n.log2+2
 ·rw[Nat.min_eq_left hd];have hg:0<2 ^ drop:=Nat.two_pow_pos _;have hdm:=Nat.div_add_mod n (2 ^ drop);have hlt:=Nat.mod_lt n hg;generalize 2 ^ drop=g at *;have hm:g*(n / g)=n / g*g:=Nat.mul_comm _ _;rw[hm]at hdm;generalize n / g=q at *;generalize n % g=r at *;by_cases h1:g<2*r
  ·simp only[h1,decide_true,Bool.true_or,Bool.toNat_true,Nat.add_mul,Nat.one_mul];omega
  ·by_cases h2:g=2*r
   ·by_cases h3:q % 2=1
    ·have e1:(decide (g<2*r))=false:=by simp[h1]
     have e2:(g==2*r)=true:=by simp[h2]
     have e3:(q % 2==1)=true:=by simp[h3]
     simp only[e1,e2,e3,Bool.false_or,Bool.true_and,Bool.toNat_true,Nat.add_mul,Nat.one_mul];omega
    ·have h3':(q % 2==1)=false:=by simp[h3]
     simp only[h1,h3',decide_false,Bool.and_false,Bool.or_false,Bool.toNat_false,Nat.add_zero];omega
   ·have h2':(g==2*r)=false:=by simp[h2]
    simp only[h1,h2',decide_false,Bool.false_and,Bool.or_false,Bool.toNat_false,Nat.add_zero];omega
 ·have hd':n.log2+2<drop:=by omega
  rw[Nat.min_eq_right (by omega)];have h1:n<2 ^ (n.log2+1):=Nat.lt_log2_self;have h2:2 ^ (n.log2+2)=2*2 ^ (n.log2+1):=by rw[Nat.pow_succ];omega
  have h3:2 ^ (n.log2+2)<=2 ^ drop:=Nat.pow_le_pow_right (by decide) (by omega);have h4:n / 2 ^ (n.log2+2)=0:=Nat.div_eq_of_lt (by omega);have h5:n % 2 ^ (n.log2+2)=n:=Nat.mod_eq_of_lt (by omega);rw[h4,h5];have h6:¬2 ^ (n.log2+2)<2*n:=by omega
  have h7:(2 ^ (n.log2+2)==2*n)=false:=by simp;omega
  simp only[h6,h7,decide_false,Bool.false_and,Bool.or_false,Bool.toNat_false,Nat.add_zero,Nat.zero_mul];omega
theorem a7A(neg:Bool)(k drop:Nat):Toward.even.cut neg (k*2 ^ drop) drop=k:=by
 obtain⟨h1,h2⟩:=a3G neg (k*2 ^ drop) drop;have hg:0<2 ^ drop:=Nat.two_pow_pos _;generalize Toward.even.cut neg (k*2 ^ drop) drop=c at *;generalize 2 ^ drop=g at *;rcases Nat.lt_trichotomy c k with h|h|h
 ·exfalso
  have:c*g+g<=k*g:=by
   calc c*g+g=(c+1)*g:=by rw[Nat.add_mul,Nat.one_mul]
    _<=k*g:=Nat.mul_le_mul_right _ h
  omega
 ·exact h
 ·exfalso
  have:k*g+g<=c*g:=by
   calc k*g+g=(k+1)*g:=by rw[Nat.add_mul,Nat.one_mul]
    _<=c*g:=Nat.mul_le_mul_right _ h
  omega
theorem a2S{r:Nat}(h:r<2 ^ 52):Z9 r=r:=by simp[Z9,h]
theorem a0v(E f:Nat)(hf:f<2 ^ 52):Z9 ((E+1)*2 ^ 52+f)=(2 ^ 52+f)*2 ^ E:=by
 have h1:¬(E+1)*2 ^ 52+f<2 ^ 52:=by omega
 have h2:((E+1)*2 ^ 52+f) / 2 ^ 52=E+1:=by omega
 have h3:((E+1)*2 ^ 52+f) % 2 ^ 52=f:=by omega
 rw[Z9,if_neg h1,h2,h3];rfl
theorem b4q(E kept:Nat)(h1:kept<=2 ^ 53)(h2:E=0∨2 ^ 52<=kept):Z9 (E*2 ^ 52+kept)=kept*2 ^ E:=by
 rcases Nat.lt_or_ge kept (2 ^ 52)with h|h
 ·have:E=0:=by omega
  subst this;simp[a2S (r:=kept) h]
 ·rcases Nat.lt_or_ge kept (2 ^ 53)with h3|h3
  ·have:=a0v E (kept-2 ^ 52) (by omega);rw[show E*2 ^ 52+kept=(E+1)*2 ^ 52+(kept-2 ^ 52) by omega,this,Nat.add_sub_of_le h]
  ·have hk:kept=2 ^ 53:=Nat.le_antisymm h1 h3;subst hk;have h4:=a0v (E+1) 0 (by decide);have h5:E*2 ^ 52+2 ^ 53=(E+1+1)*2 ^ 52+0:=by omega
   rw[h5,h4,Nat.pow_succ 2 E];have h6:(2:Nat) ^ 53=(2 ^ 52+0)*2:=by decide
   rw[h6,Nat.mul_comm (2 ^ E) 2,<-Nat.mul_assoc]
theorem b5K(s:Bool)(r:Nat)(hr:r<2047*2 ^ 52):Fin (double.word s r)/\V (double.word s r)=if s then -(Z9 r:Int)else(Z9 r:Int):=by
 unfold Format.word V Fin;rw[sgw];cases s
 ·have h1:r / 2 ^ 63 % 2=0:=by omega
  have h2:r % 2 ^ 63=r:=by omega
  simp only[Bool.false_eq_true,if_false,h1,h2];refine⟨⟨by omega,hr⟩,by simp⟩
 ·have h1:(2 ^ 63+r) / 2 ^ 63 % 2=1:=by omega
  have h2:(2 ^ 63+r) % 2 ^ 63=r:=by omega
  simp only[if_true,h1,h2];exact⟨⟨by omega,hr⟩,trivial⟩
def C5(mag:Nat)(place:Int):Int:=max (place+mag.log2-52) (-1074)
def I9(neg:Bool)(mag:Nat)(place:Int):Nat:=Toward.even.cut neg (mag <<< (place-C5 mag place).toNat) (C5 mag place-place).toNat
theorem Z2(neg:Bool){mag:Nat}(hm:mag≠0)(place:Int):I9 neg mag place<=2 ^ 53/\(C5 mag place = -1074∨2 ^ 52<=I9 neg mag place):=by
 have hl1:=Nat.log2_self_le hm;have hl2:mag<2 ^ (mag.log2+1):=Nat.lt_log2_self;obtain⟨e1,e2⟩:=a3G neg (mag <<< (place-C5 mag place).toNat) (C5 mag place-place).toNat;unfold I9;generalize Toward.even.cut neg (mag <<< (place-C5 mag place).toNat) (C5 mag place-place).toNat=k at *;rw[Nat.shiftLeft_eq]at e1 e2;generalize hL:mag.log2=L at *;by_cases hs:C5 mag place<=place
 ·
  have h0:(C5 mag place-place).toNat=0:=by omega
  rw[h0]at e1 e2;simp only[Nat.pow_zero,Nat.mul_one]at e1 e2;have hk:k=mag*2 ^ (place-C5 mag place).toNat:=by omega
  generalize hu:(place-C5 mag place).toNat=u at *;have hle:L+u<=52:=by unfold C5 at hu hs;rw[hL]at hu hs;omega
  constructor
  ·have:mag*2 ^ u<2 ^ (L+1)*2 ^ u:=Nat.mul_lt_mul_of_pos_right hl2 (Nat.two_pow_pos _);rw[<-Nat.pow_add]at this;have h3:2 ^ (L+1+u)<=2 ^ 53:=Nat.pow_le_pow_right (by decide) (by omega);omega
  ·by_cases hlast:C5 mag place = -1074
   ·exact .inl hlast
   ·right
    have hu2:L+u=52:=by unfold C5 at hu hlast;rw[hL]at hu hlast;omega
    have:2 ^ L*2 ^ u<=mag*2 ^ u:=Nat.mul_le_mul_right _ hl1;rw[<-Nat.pow_add,hu2]at this;omega
 ·have h0:(place-C5 mag place).toNat=0:=by omega
  rw[h0]at e1 e2;simp only[Nat.pow_zero,Nat.mul_one]at e1 e2;generalize hu:(C5 mag place-place).toNat=u at *;have hge:L<=52+u:=by unfold C5 at hu;rw[hL]at hu;omega
  have hup:2 ^ (L+1)<=2 ^ (53+u):=Nat.pow_le_pow_right (by decide) (by omega);have hg:0<2 ^ u:=Nat.two_pow_pos _;constructor
  ·rw[Nat.pow_add 2 53 u]at hup;generalize 2 ^ u=g at *;have h4:2*(k*g)<2*(2 ^ 53*g)+g+g:=by omega
   have h5:k*g<(2 ^ 53+1)*g:=by rw[Nat.add_mul,Nat.one_mul];omega
   have:=Nat.lt_of_mul_lt_mul_right h5;omega
  ·by_cases hlast:C5 mag place = -1074
   ·exact .inl hlast
   ·right
    have hu2:L=52+u:=by unfold C5 at hu hlast hs;rw[hL]at hu hlast hs;omega
    rw[hu2,Nat.pow_add 2 52 u]at hl1;clear hup hl2;generalize 2 ^ u=g at *;have h5:2 ^ 52*g<(k+1)*g:=by rw[Nat.add_mul,Nat.one_mul];omega
    have:=Nat.lt_of_mul_lt_mul_right h5;omega
theorem a2r(neg:Bool){mag:Nat}(hm:mag≠0){place:Int}(hb:place+mag.log2<=1022) :
  Fin (double.nearest neg mag place)/\V (double.nearest neg mag place)=(if neg then -((I9 neg mag place*2 ^ (C5 mag place+1074).toNat:Nat):Int)else((I9 neg mag place*2 ^ (C5 mag place+1074).toNat:Nat):Int)):=by
 obtain⟨h1,h2⟩:=Z2 neg hm place;have hlast : -1074<=C5 mag place/\C5 mag place<=970:=by unfold C5;omega
 have hE:(C5 mag place-double.leastPlace).toNat=(C5 mag place+1074).toNat:=by rw[lp];omega
 have hn:double.nearest neg mag place=double.word neg ((C5 mag place+1074).toNat*2 ^ 52+I9 neg mag place):=by
  unfold Format.nearest;rw[if_neg hm];simp only[frb];have e1:max (place+(mag.log2:Int)-(52:Nat)) double.leastPlace=C5 mag place:=by rw[lp];rfl
  rw[e1,hE,bnd,c4W];congr 1
  apply Nat.min_eq_left
  show _*_+I9 neg mag place<=_;have:(C5 mag place+1074).toNat<=2044:=by omega
  have:(C5 mag place+1074).toNat*2 ^ 52<=2044*2 ^ 52:=Nat.mul_le_mul_right _ this;exact Nat.le_trans (Nat.add_le_add this h1) (by decide)
 have hr:(C5 mag place+1074).toNat*2 ^ 52+I9 neg mag place<2047*2 ^ 52:=by
  have:(C5 mag place+1074).toNat<=2044:=by omega
  have:(C5 mag place+1074).toNat*2 ^ 52<=2044*2 ^ 52:=Nat.mul_le_mul_right _ this;exact Nat.lt_of_le_of_lt (Nat.add_le_add this h1) (by decide)
 rw[hn];obtain⟨h3,h4⟩:=b5K neg _ hr;refine⟨h3,?_⟩;rw[h4,b4q _ _ h1 (h2.imp (λh=>by omega) id)]
def U1:Nat:=1074
def FI(x:Nat)(n:Int):Prop:=Fin x/\V x=n*2 ^ U1
theorem a0w{k:Nat}(hk:k≠0)(sh:Nat):(k*2 ^ sh).log2=k.log2+sh:=by
 have hm:k*2 ^ sh≠0:=Nat.mul_ne_zero hk (Nat.ne_of_gt (Nat.two_pow_pos _))
 apply Nat.le_antisymm
 ·apply Nat.le_of_lt_succ
  rw[Nat.log2_lt hm,Nat.succ_eq_add_one,show k.log2+sh+1=k.log2+1+sh by omega,Nat.pow_add];exact Nat.mul_lt_mul_of_pos_right Nat.lt_log2_self (Nat.two_pow_pos _)
 ·rw[Nat.le_log2 hm,Nat.pow_add];exact Nat.mul_le_mul_right _ (Nat.log2_self_le hk)
theorem N6(neg:Bool){k:Nat}(hk:k≠0)(hk2:k<2 ^ 53){sh:Nat}{place:Int}(hp : -1074<=place+sh)(hlow:place+sh+k.log2<=1022) :
  Fin (double.nearest neg (k*2 ^ sh) place)/\V (double.nearest neg (k*2 ^ sh) place)=(if neg then -((k*2 ^ (place+sh+1074).toNat:Nat):Int)else((k*2 ^ (place+sh+1074).toNat:Nat):Int)):=by
 have hm:k*2 ^ sh≠0:=Nat.mul_ne_zero hk (Nat.ne_of_gt (Nat.two_pow_pos _));have hlog:(k*2 ^ sh).log2=k.log2+sh:=a0w hk sh
 have hkl:k.log2<=52:=by
  have:=(Nat.log2_lt hk).2 hk2;omega
 obtain⟨h1,h2⟩:=a2r neg hm (place:=place) (by rw[hlog];omega);refine⟨h1,?_⟩;rw[h2]
 have key:I9 neg (k*2 ^ sh) place*2 ^ (C5 (k*2 ^ sh) place+1074).toNat=k*2 ^ (place+sh+1074).toNat:=by
  unfold I9;by_cases hs:C5 (k*2 ^ sh) place<=place
  ·have e1:(C5 (k*2 ^ sh) place-place).toNat=0:=by omega
   rw[e1,Nat.shiftLeft_eq];have:=a7A neg (k*2 ^ sh*2 ^ (place-C5 (k*2 ^ sh) place).toNat) 0;rw[Nat.pow_zero,Nat.mul_one]at this;rw[this,Nat.mul_assoc,Nat.mul_assoc,<-Nat.pow_add,<-Nat.pow_add];congr 2;unfold C5 at hs ⊢;omega
  ·have e1:(place-C5 (k*2 ^ sh) place).toNat=0:=by omega
   rw[e1,Nat.shiftLeft_eq,Nat.pow_zero,Nat.mul_one];have hle:(C5 (k*2 ^ sh) place-place).toNat<=sh:=by unfold C5;rw[hlog];omega
   have e2:k*2 ^ sh=(k*2 ^ (sh-(C5 (k*2 ^ sh) place-place).toNat))*2 ^ (C5 (k*2 ^ sh) place-place).toNat:=by
    rw[Nat.mul_assoc,<-Nat.pow_add];congr 2;omega
   generalize hL:C5 (k*2 ^ sh) place=L at *;rw[e2,a7A,Nat.mul_assoc,<-Nat.pow_add];congr 2;have : -1074<=L:=by rw[<-hL];unfold C5;omega
   omega
 rw[key]
theorem Q8{n:Int}(h:n.natAbs<2 ^ 53):FI (FloatKind.f64.nearest n) n:=by
 unfold FloatKind.nearest FloatKind.encode;show FI (double.write (.number (decide (n<0)) n.natAbs 0)) n;show FI (double.nearest (decide (n<0)) n.natAbs 0) n;by_cases h0:n.natAbs=0
 ·have:n=0:=by omega
  subst this;have e:double.nearest (decide ((0:Int)<0)) (Int.natAbs 0) 0=0:=by decide
  rw[e];exact⟨⟨by decide,by decide⟩,by simp[V,Z9]⟩
 ·have hkl:n.natAbs.log2<=52:=by
   have:=(Nat.log2_lt h0).2 h;omega
  obtain⟨h1,h2⟩:=N6 (decide (n<0)) h0 h (sh:=0) (place:=0) (by decide) (by omega);rw[Nat.pow_zero,Nat.mul_one]at h1 h2;refine⟨h1,?_⟩;rw[h2];have e:((0:Int)+(0:Nat)+1074).toNat=U1:=by decide
  rw[e];generalize U1=u;rw[Int.natCast_mul,Int.natCast_pow];show (if _ then -((n.natAbs:Nat)*(2:Int) ^ u)else((n.natAbs:Nat)*(2:Int) ^ u))=_;by_cases hn:n<0
  ·simp only[hn,decide_true,if_true];have:((n.natAbs:Nat):Int) = -n:=by omega
   rw[this,Int.neg_mul,Int.neg_neg]
  ·simp only[hn,decide_false,Bool.false_eq_true,if_false];have:((n.natAbs:Nat):Int)=n:=by omega
   rw[this]
theorem FI.order{x y:Nat}{a b:Int}(hx:FI x a)(hy:FI y b):double.order x y=some (compare a b):=by
 rw[a7C hx.1 hy.1,hx.2,hy.2,a2B]
theorem P0(s:Bool):FI (double.word s 0) 0:=by
 obtain⟨h1,h2⟩:=b5K s 0 (by decide);refine⟨h1,?_⟩;rw[h2];cases s <;> simp[Z9]
theorem a4H(neg:Bool){mag k:Nat}{place:Int}(hp : -1074<=place)(hk0:k≠0)(hk:k<2 ^ 53)(h:mag*2 ^ (place+1074).toNat=k*2 ^ U1) :
  FI (double.nearest neg mag place) (if neg then -(k:Int)else(k:Int)):=by
 have hkl:k.log2<=52:=by
  have:=(Nat.log2_lt hk0).2 hk;omega
 have hU:U1=1074:=rfl;by_cases hs:place<=0
 ·have e:mag=k*2 ^ (-place).toNat:=by
   have e1:U1=(-place).toNat+(place+1074).toNat:=by rw[hU];omega
   rw[e1,Nat.pow_add,<-Nat.mul_assoc]at h;exact Nat.eq_of_mul_eq_mul_right (Nat.two_pow_pos _) h
  subst e;obtain⟨h1,h2⟩:=N6 neg hk0 hk (sh:=(-place).toNat) (place:=place) (by omega) (by omega);refine⟨h1,?_⟩;rw[h2];have e2:(place+((-place).toNat:Int)+1074).toNat=U1:=by rw[hU];omega
  rw[e2];generalize U1=u;rw[Int.natCast_mul,Int.natCast_pow];cases neg <;> simp[Int.neg_mul]
 ·have e:k=mag*2 ^ place.toNat:=by
   have e1:(place+1074).toNat=place.toNat+U1:=by rw[hU];omega
   rw[e1,Nat.pow_add,<-Nat.mul_assoc]at h;exact(Nat.eq_of_mul_eq_mul_right (Nat.two_pow_pos _) h).symm
  have hm0:mag≠0:=λe0=>hk0 (by rw[e,e0,Nat.zero_mul])
  have hle:mag<=k:=by rw[e];exact Nat.le_mul_of_pos_right _ (Nat.two_pow_pos _)
  have hlog:k.log2=mag.log2+place.toNat:=by rw[e,a0w hm0]
  obtain⟨h1,h2⟩:=N6 neg hm0 (Nat.lt_of_le_of_lt hle hk) (sh:=0) (place:=place) (by omega) (by omega);rw[Nat.pow_zero,Nat.mul_one]at h1 h2;refine⟨h1,?_⟩;rw[h2];have e2:(place+(0:Nat)+1074).toNat=place.toNat+U1:=by rw[hU];omega
  rw[e2,Nat.pow_add,<-Nat.mul_assoc,<-e];generalize U1=u;rw[Int.natCast_mul,Int.natCast_pow];cases neg <;> simp[Int.neg_mul]
theorem C7(k:Nat):((2:Int) ^ k).natAbs=2 ^ k:=by rw[Int.natAbs_pow];rfl
theorem C9(s:Bool)(m u:Nat):(signed s m u).natAbs=m*2 ^ u:=by
 rw[J6];cases s
 ·exact Int.natAbs_natCast _
 ·exact(Int.natAbs_neg _).trans (Int.natAbs_natCast _)
theorem b7F{s t:Bool}{m n:Nat}{i j:Int}{a b:Int}(hi : -1074<=i)(hj : -1074<=j)(h1:signed s m (i+1074).toNat=a*2 ^ U1)(h2:signed t n (j+1074).toNat=b*2 ^ U1)
  (hab:(a+b).natAbs<2 ^ 53):∃ d,Datum.sum (.number s m i) (.number t n j)=some d/\FI (double.write d) (a+b):=by
 refine⟨_,rfl,?_⟩;simp only[Format.write];generalize htot:signed s m (i-min i j).toNat+signed t n (j-min i j).toNat=tot;have e1:(i+1074).toNat=(i-min i j).toNat+(min i j+1074).toNat:=by omega
 have e2:(j+1074).toNat=(j-min i j).toNat+(min i j+1074).toNat:=by omega
 have hkey:tot*2 ^ (min i j+1074).toNat=(a+b)*2 ^ U1:=by
  rw[Int.add_mul,<-h1,<-h2,e1,e2,L0,L0,<-Int.add_mul,htot]
 have hpos:∀ k:Nat,(2:Int) ^ k≠0:=λk=>Int.ne_of_gt (G1 k)
 by_cases h0:tot=0
 ·have:a+b=0:=by
   rw[h0,Int.zero_mul]at hkey;rcases Int.mul_eq_zero.1 hkey.symm with h|h
   ·exact h
   ·exact absurd h (hpos _)
  rw[this];have hz:tot.natAbs=0:=by rw[h0];rfl
  unfold Format.nearest;rw[if_pos hz];exact P0 _
 ·have hab0:a+b≠0:=by
   intro e;rw[e,Int.zero_mul]at hkey;rcases Int.mul_eq_zero.1 hkey with h|h
   ·exact h0 h
   ·exact absurd h (hpos _)
  have hk:tot.natAbs*2 ^ (min i j+1074).toNat=(a+b).natAbs*2 ^ U1:=by
   have:=congrArg Int.natAbs hkey;rw[Int.natAbs_mul,Int.natAbs_mul,C7,C7]at this;exact this
  rw[if_neg h0];have:=a4H (decide (tot<0)) (by omega) (by omega:(a+b).natAbs≠0) hab hk
  have hsign:tot<0↔a+b<0:=by
   have hp1:=G1 (min i j+1074).toNat;have hp2:=G1 U1;constructor
   ·intro h;have h3:tot*2 ^ (min i j+1074).toNat<0:=Int.mul_neg_of_neg_of_pos h hp1;rw[hkey]at h3;rcases Int.lt_or_le (a+b) 0 with h4|h4
    ·exact h4
    ·have:=Int.mul_nonneg h4 (Int.le_of_lt hp2);omega
   ·intro h;have h3:(a+b)*2 ^ U1<0:=Int.mul_neg_of_neg_of_pos h hp2;rw[<-hkey]at h3;rcases Int.lt_or_le tot 0 with h4|h4
    ·exact h4
    ·have:=Int.mul_nonneg h4 (Int.le_of_lt hp1);omega
  have hval:(if decide (tot<0)then -((a+b).natAbs:Int)else((a+b).natAbs:Int))=a+b:=by
   by_cases h:tot<0
   ·simp only[h,decide_true,if_true];have:=hsign.1 h;omega
   ·simp only[h,decide_false,Bool.false_eq_true,if_false];have:=mt hsign.2 h;omega
  rw[hval]at this;exact this
theorem c2W{x y:Nat}{a b:Int}(hx:FI x a)(hy:FI y b)(h:(a+b).natAbs<2 ^ 53):∃ r,double.add x y=some r/\FI r (a+b):=by
 obtain⟨s,m,i,h1,h2,h3,_⟩:=B6 hx.1;obtain⟨t,n,j,h4,h5,h6,_⟩:=B6 hy.1;rw[hx.2]at h3;rw[hy.2]at h6;obtain⟨d,hd,hr⟩:=b7F h2 h5 h3 h6 h;refine⟨_,?_,hr⟩;unfold Format.add;rw[h1,h4,hd];rfl
theorem a5V(s:Bool)(m u:Nat):signed (!s) m u = -signed s m u:=by
 unfold signed;cases s <;> simp
theorem b7P{x y:Nat}{a b:Int}(hx:FI x a)(hy:FI y b)(h:(a-b).natAbs<2 ^ 53):∃ r,double.sub x y=some r/\FI r (a-b):=by
 obtain⟨s,m,i,h1,h2,h3,_⟩:=B6 hx.1;obtain⟨t,n,j,h4,h5,h6,_⟩:=B6 hy.1;rw[hx.2]at h3;rw[hy.2]at h6;have h7:signed (!t) n (j+1074).toNat = -b*2 ^ U1:=by rw[a5V,h6,Int.neg_mul]
 rw[Int.sub_eq_add_neg]at h ⊢;obtain⟨d,hd,hr⟩:=b7F h2 h5 h3 h7 h;refine⟨_,?_,hr⟩;unfold Format.sub;rw[h1,h4];show Option.map double.write (Datum.sum (.number s m i) (.number (!t) n j))=_;rw[hd];rfl
theorem a1S{m:Nat}{i:Int}{k:Nat}(hi : -1074<=i)(hm:m<2 ^ 53)(hk:k≠0)(h:m*2 ^ (i+1074).toNat=k*2 ^ U1) : -53<i:=by
 have hU:U1=1074:=rfl;rcases Int.lt_or_le (-53) i with h1|h1
 ·exact h1
 ·exfalso;obtain⟨c,hc⟩:∃ c:Nat,c=1021:=⟨_,rfl⟩;have h2:(i+1074).toNat<=c:=by omega
  have h3:m*2 ^ (i+1074).toNat<2 ^ 53*2 ^ c:=by
   apply Nat.lt_of_lt_of_le (Nat.mul_lt_mul_of_pos_right hm (Nat.two_pow_pos _))
   exact Nat.mul_le_mul_left _ (Nat.pow_le_pow_right (by decide) h2)
  rw[<-Nat.pow_add,h]at h3;have h4:2 ^ U1<=k*2 ^ U1:=Nat.le_mul_of_pos_left _ (Nat.pos_of_ne_zero hk);have h5:53+c=U1:=by rw[hU,hc]
  rw[h5]at h3;exact absurd h3 (Nat.not_lt.2 h4)
theorem c2D{x y:Nat}{a b:Int}(hx:FI x a)(hy:FI y b)(h:(a*b).natAbs<2 ^ 53):∃ r,double.mul x y=some r/\FI r (a*b):=by
 obtain⟨s,m,i,h1,h2,h3,hm⟩:=B6 hx.1;obtain⟨t,n,j,h4,h5,h6,hn⟩:=B6 hy.1;rw[hx.2]at h3;rw[hy.2]at h6
 have hma:m*2 ^ (i+1074).toNat=a.natAbs*2 ^ U1:=by
  have:=congrArg Int.natAbs h3;rw[C9,Int.natAbs_mul,C7]at this;exact this
 have hnb:n*2 ^ (j+1074).toNat=b.natAbs*2 ^ U1:=by
  have:=congrArg Int.natAbs h6;rw[C9,Int.natAbs_mul,C7]at this;exact this
 refine⟨double.nearest (s ^^ t) (m*n) (i+j),?_,?_⟩
 ·unfold Format.mul;rw[h1,h4];rfl
 ·by_cases h0:m*n=0
  ·have:a*b=0:=by
    rcases Nat.mul_eq_zero.1 h0 with h7|h7
    ·rw[h7,Nat.zero_mul]at hma;rcases Nat.mul_eq_zero.1 hma.symm with h8|h8
     ·rw[Int.natAbs_eq_zero.1 h8,Int.zero_mul]
     ·exact absurd h8 (Nat.ne_of_gt (Nat.two_pow_pos _))
    ·rw[h7,Nat.zero_mul]at hnb;rcases Nat.mul_eq_zero.1 hnb.symm with h8|h8
     ·rw[Int.natAbs_eq_zero.1 h8,Int.mul_zero]
     ·exact absurd h8 (Nat.ne_of_gt (Nat.two_pow_pos _))
   rw[this];unfold Format.nearest;rw[if_pos h0];exact P0 _
  ·have ha:a.natAbs≠0:=by
    intro e;rw[e,Nat.zero_mul]at hma;rcases Nat.mul_eq_zero.1 hma with h8|h8
    ·exact h0 (by rw[h8,Nat.zero_mul])
    ·exact absurd h8 (Nat.ne_of_gt (Nat.two_pow_pos _))
   have hb:b.natAbs≠0:=by
    intro e;rw[e,Nat.zero_mul]at hnb;rcases Nat.mul_eq_zero.1 hnb with h8|h8
    ·exact h0 (by rw[h8,Nat.mul_zero])
    ·exact absurd h8 (Nat.ne_of_gt (Nat.two_pow_pos _))
   have hi:=a1S h2 hm ha hma;have hj:=a1S h5 hn hb hnb;have hU:U1=1074:=rfl
   have hkey:m*n*2 ^ (i+j+1074).toNat=(a.natAbs*b.natAbs)*2 ^ U1:=by
    have e1:(i+1074).toNat+(j+1074).toNat=(i+j+1074).toNat+U1:=by rw[hU];omega
    have e2:(m*n*2 ^ (i+j+1074).toNat)*2 ^ U1=(a.natAbs*b.natAbs*2 ^ U1)*2 ^ U1:=by
     calc (m*n*2 ^ (i+j+1074).toNat)*2 ^ U1=m*n*2 ^ ((i+j+1074).toNat+U1):=by rw[Nat.pow_add,Nat.mul_assoc]
      _=m*n*2 ^ ((i+1074).toNat+(j+1074).toNat):=by rw[e1]
      _=(m*2 ^ (i+1074).toNat)*(n*2 ^ (j+1074).toNat):=by rw[Nat.pow_add];ac_rfl
      _=(a.natAbs*2 ^ U1)*(b.natAbs*2 ^ U1):=by rw[hma,hnb]
      _=_:=by generalize (2:Nat) ^ U1=u;ac_rfl
    exact Nat.eq_of_mul_eq_mul_right (Nat.two_pow_pos _) e2
   have hk0:a.natAbs*b.natAbs≠0:=Nat.mul_ne_zero ha hb;have hk:a.natAbs*b.natAbs<2 ^ 53:=by rw[<-Int.natAbs_mul];exact h
   have:=a4H (s ^^ t) (by omega) hk0 hk hkey
   have hsa:s=decide (a<0):=by
    have hp:=G1 U1;rw[J6]at h3;cases s
    ·have:0<=a*2 ^ U1:=by rw[<-h3];exact Int.natCast_nonneg _
     have:¬a<0:=λhneg=>by have:=Int.mul_neg_of_neg_of_pos hneg hp;omega
     exact(decide_eq_false this).symm
    ·have h9:a*2 ^ U1<=0:=by rw[<-h3];exact Int.neg_nonpos_of_nonneg (Int.natCast_nonneg _)
     have:a<0:=by
      rcases Int.lt_or_le a 0 with h10|h10
      ·exact h10
      ·have:0<a:=by omega
       have:=Int.mul_pos this hp;omega
     exact(decide_eq_true this).symm
   have hsb:t=decide (b<0):=by
    have hp:=G1 U1;rw[J6]at h6;cases t
    ·have:0<=b*2 ^ U1:=by rw[<-h6];exact Int.natCast_nonneg _
     have:¬b<0:=λhneg=>by have:=Int.mul_neg_of_neg_of_pos hneg hp;omega
     exact(decide_eq_false this).symm
    ·have h9:b*2 ^ U1<=0:=by rw[<-h6];exact Int.neg_nonpos_of_nonneg (Int.natCast_nonneg _)
     have:b<0:=by
      rcases Int.lt_or_le b 0 with h10|h10
      ·exact h10
      ·have:0<b:=by omega
       have:=Int.mul_pos this hp;omega
     exact(decide_eq_true this).symm
   have hval:(if (s ^^ t)then -((a.natAbs*b.natAbs:Nat):Int)else((a.natAbs*b.natAbs:Nat):Int))=a*b:=by
    rw[hsa,hsb,Int.natCast_mul];by_cases hA:a<0 <;> by_cases hB:b<0
    ·have e1:(a.natAbs:Int) = -a:=by omega
     have e2:(b.natAbs:Int) = -b:=by omega
     simp only[hA,hB,decide_true,Bool.xor_self,Bool.false_eq_true,if_false,e1,e2,Int.neg_mul_neg]
    ·have e1:(a.natAbs:Int) = -a:=by omega
     have e2:(b.natAbs:Int)=b:=by omega
     simp only[hA,hB,decide_true,decide_false,Bool.xor_false,if_true,e1,e2,Int.neg_mul,Int.neg_neg]
    ·have e1:(a.natAbs:Int)=a:=by omega
     have e2:(b.natAbs:Int) = -b:=by omega
     simp only[hA,hB,decide_true,decide_false,Bool.false_xor,if_true,e1,e2,Int.mul_neg,Int.neg_neg]
    ·have e1:(a.natAbs:Int)=a:=by omega
     have e2:(b.natAbs:Int)=b:=by omega
     simp only[hA,hB,decide_false,Bool.xor_self,Bool.false_eq_true,if_false,e1,e2]
   rw[hval]at this;exact this
end Go.Fl
