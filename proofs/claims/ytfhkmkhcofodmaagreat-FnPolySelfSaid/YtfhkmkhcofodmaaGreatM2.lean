/- Parts of a proof, in order: what each says stands at its head. No conditions. -/
import Derived.Orders
import Derived.RegionTactic
import Derived.Test.YtfhkmkhcofodmaaGreatProg
import Derived.KernelRfl
import Derived.Laws.FloatArith
import Derived.Test.YtfhkmkhcofodmaaGreatM1
namespace Go.Sx
open Go.RowKit
section
variable {G:Ctx} {E:Env} {ev ev':Operand->Option SV} {rd rd':Nm->Option Ob} {nm:Nm} {e:Eff}
theorem I0:∀ {xs:List Operand},(∀ x∈xs,ev' x=ev x)->evL ev' xs=evL ev xs
 | [],_=>rfl
 | x :: r,h=>by
  simp only[evL,h x (by simp),I0 (xs:=r) λy hy=>h y (by simp[hy])]
theorem U2:∀ {xs:List (Nat×Operand)},(∀ p∈xs,ev' p.2=ev p.2)->U4 ev' xs=U4 ev xs
 | [],_=>rfl
 | (i,x) :: r,h=>by
  have h1:ev' x=ev x:=h (i,x) (by simp);simp only[U4,h1,U2 (xs:=r) λy hy=>h y (by simp[hy])]
theorem Y3{x:Option Operand}(h:∀ y,x=some y->ev' y=ev y):evO ev' x=evO ev x:=by
 cases x with
 | none=>rfl
 | some y=>simp only[evO,h y rfl]
theorem b6t{T:Tys}{t:Nat}{x:SV}(h:b4B T rd t x=some e)(hr:∀ n∈e.rds,rd' n=rd n):b4B T rd' t x=some e:=by
 unfold b4B at *;split at h
 ·rename_i n i;split at h
  ·rename_i ti hti;split at h
   ·rename_i hs;split at h
    ·rename_i ob hob;split at h
     ·rename_i v p hv;simp only[oI9]at h;subst h;simp only[hr n (by simp),hob,hv]
     ·cases h
    ·cases h
   ·cases h
  ·cases h
 ·cases h
theorem b7g{T:Tys}{t:Nat}{x v:SV}(h:b4K T rd t x v=some e)(hr:∀ n∈e.rds,rd' n=rd n):b4K T rd' t x v=some e:=by
 unfold b4K at *;split at h
 ·rename_i n i;split at h
  ·rename_i ti hti;split at h
   ·rename_i hs;split at h
    ·rename_i hs2;split at h
     ·rename_i el c hob;split at h
      ·rename_i c' hc';simp only[oI9]at h;subst h;simp only[hr n (by simp),hob,hc']
      ·cases h
     ·cases h
    ·cases h
   ·cases h
  ·cases h
 ·cases h
theorem a5h{T:Tys}{s:Nat}{x:SV}{i:Nat}(h:O6 T rd s x i=some e)(hr:∀ n∈e.rds,rd' n=rd n):O6 T rd' s x i=some e:=by
 unfold O6 at *;split at h
 ·rename_i n off;split at h
  ·rename_i hti;split at h
   ·rename_i hf;split at h
    ·rename_i hte;split at h
     ·rename_i hs;split at h
      ·rename_i ob hob;simp only[oI9]at h;subst h;simp only[hr n (by simp),hob]
      ·cases h
     ·cases h
    ·cases h
   ·cases h
  ·cases h
 ·cases h
theorem a3n{T:Tys}{t:Nat}{x:SV}{lo hi mx:Option SV}(h:a0t T rd t x lo hi mx=some e)(hr:∀ n∈e.rds,rd' n=rd n):a0t T rd' t x lo hi mx=some e:=by
 unfold a0t at *;split at h
 ·rename_i n len k i;split at h
  ·split at h
   ·split at h
    ·rename_i ob hob;split at h
     ·rename_i hf;simp only[oI9]at h;subst h;simp only[hr n (by simp),hob,hf]
     ·cases h
    ·cases h
   ·cases h
  ·cases h
 ·rename_i n off;split at h
  ·split at h
   ·split at h
    ·rename_i ob hob;simp only[oI9]at h;subst h;simp only[hr n (by simp),hob]
    ·cases h
   ·cases h
  ·cases h
 ·cases h
theorem a5f{T:Tys}{t:Nat}{x ix:SV}(h:O8 T rd t x ix=some e)(hr:∀ n∈e.rds,rd' n=rd n):O8 T rd' t x ix=some e:=by
 unfold O8 at *;split at h
 ·split at h
  ·rename_i n off;split at h
   ·rename_i hti;split at h
    ·rename_i hte;split at h
     ·rename_i ob hob;simp only[oI9]at h;subst h;simp only[hr n (by simp),hob]
     ·cases h
    ·cases h
   ·cases h
  ·rename_i n off len cap;split at h
   ·rename_i hti;split at h
    ·rename_i hte;split at h
     ·rename_i ob hob;simp only[oI9]at h;subst h;simp only[hr n (by simp),hob]
     ·cases h
    ·cases h
   ·cases h
  ·rename_i n len;split at h
   ·rename_i hti;split at h
    ·rename_i hte;split at h
     ·rename_i ob hob;simp only[oI9]at h;subst h;simp only[hr n (by simp),hob]
     ·cases h
    ·cases h
   ·cases h
  ·cases h
 ·cases h
theorem a4o{sz:Nat}{x:SV}{m:Nat}{vs:List SV}{mn:Nm}{p:Option Prop}(h:a4Z rd sz x=some (m,vs,mn,p))(hr:rd' mn=rd mn):a4Z rd' sz x=some (m,vs,mn,p):=by
 unfold a4Z at *;split at h
 ·split at h
  ·rename_i ob hob;split at h
   ·rename_i us hus;have hm:=h;simp only[oI9,pI9]at hm;obtain⟨_,_,rfl,_⟩:=hm;simp only[hr,hob,hus];exact h
   ·cases h
  ·cases h
 ·split at h
  ·rename_i ob hob;split at h
   ·rename_i us hus;have hm:=h;simp only[oI9,pI9]at hm;obtain⟨_,_,rfl,_⟩:=hm;simp only[hr,hob,hus];exact h
   ·cases h
  ·cases h
 ·cases h
theorem a8I{T:Tys}{t:Nat}{s x:SV}(h:a0l T rd nm t s x=some e)(hr:∀ n∈e.rds,rd' n=rd n):a0l T rd' nm t s x=some e:=by
 unfold a0l at *;split at h
 ·split at h
  ·rename_i te hte;split at h
   ·rename_i m vs mn p hsrc;split at h
    ·rename_i hb;split at h
     ·split at h
      ·rename_i hf;have hm:=h;simp only[oI9]at hm;subst hm;simp only[a4o hsrc (hr mn (by simp)),hb,hf]
      ·cases h
     ·rename_i n len;split at h
      ·rename_i el c es hob;split at h
       ·rename_i hbe;split at h
        ·rename_i c' hc';have hm:=h;simp only[oI9]at hm;subst hm;simp only[a4o hsrc (hr mn (by simp)),hb,hr n (by simp),hob,hbe,hc']
        ·cases h
       ·cases h
      ·cases h
     ·cases h
    ·cases h
   ·cases h
  ·cases h
 ·cases h
theorem a6F{T:Tys}{x:SV}(h:S6 T rd x=some e)(hr:∀ n∈e.rds,rd' n=rd n):S6 T rd' x=some e:=by
 unfold S6 at *;split at h
 ·split at h
  ·rename_i ob hob;simp only[oI9]at h;subst h;simp only[hr _ (List.mem_singleton_self _),hob]
  ·cases h
 ·exact h
 ·exact h
 ·cases h
theorem a9x{T:Tys}{op:BinOp}{t:Nat}{x y:SV}(h:a0s T rd op t x y=some e)(hr:∀ n∈e.rds,rd' n=rd n):a0s T rd' op t x y=some e:=by
 unfold a0s at *;split at h
 ·split at h
  ·split at h
   ·rename_i ob hob;split at h
    ·rename_i hl;simp only[oI9]at h;subst h;simp only[hr _ (List.mem_singleton_self _),hob]
    ·cases h
   ·cases h
  ·exact h
  ·cases h
 ·cases h
theorem b3a{T:Tys}{t:Nat}{d s:SV}(h:a4z T rd t d s=some e)(hr:∀ n∈e.rds,rd' n=rd n):a4z T rd' t d s=some e:=by
 unfold a4z at *;split at h
 ·split at h
  ·split at h
   ·split at h
    ·rename_i hdn;split at h
     ·rename_i hsn;split at h
      ·rename_i hk;simp only[oI9]at h;subst h;simp only[hr _ (List.mem_cons_self),hr _ (List.mem_cons_of_mem _ (List.mem_singleton_self _)),hdn,hsn,hk]
      ·cases h
     ·cases h
    ·cases h
   ·cases h
  ·cases h
 ·cases h
theorem b0j{o:Op}(h:R3 E ev rd nm o=some e)(hv:∀ x∈o.operands,ev' x=ev x)(hr:∀ n∈e.rds,rd' n=rd n):R3 E ev' rd' nm o=some e:=by
 cases o <;> simp only[R3,reduceCtorEq]at h
 case move x=>simp only[R3,hv x (by simp[Op.operands])];exact h
 case assign x=>simp only[R3,hv x (by simp[Op.operands])];exact h
 case pick c a b=>simp only[R3,hv c (by simp[Op.operands]),hv a (by simp[Op.operands]),hv b (by simp[Op.operands])];exact h
 case alloc t=>exact h
 case box t x=>simp only[R3,hv x (by simp[Op.operands])];exact h
 case load t x =>
  simp only[R3,hv x (by simp[Op.operands])];split at h
  ·exact b6t h hr
  ·exact h
 case store t x y =>
  simp only[R3,hv x (by simp[Op.operands]),hv y (by simp[Op.operands])];split at h
  ·exact b7g h hr
  ·cases h
 case binOp op t x y yt =>
  simp only[R3,hv x (by simp[Op.operands]),hv y (by simp[Op.operands])];split at h
  ·split at h
   ·exact h
   ·exact a9x h hr
  ·cases h
 case nilCheck x =>
  simp only[R3,hv x (by simp[Op.operands])];split at h
  ·exact a6F h hr
  ·cases h
 case makeSlice t l c=>simp only[R3,hv l (by simp[Op.operands]),hv c (by simp[Op.operands])];exact h
 case unOp op t x=>simp only[R3,hv x (by simp[Op.operands])];exact h
 case convert s d x=>simp only[R3,hv x (by simp[Op.operands])];exact h
 case makeInterface t x=>simp only[R3,hv x (by simp[Op.operands])];exact h
 case makeFunc fn first captured =>
  simp only[R3];rw[I0 (ev:=ev) (ev':=ev') λx hx=>hv x (by simp[Op.operands];exact .inl (by simpa using hx)),I0 (ev:=ev) (ev':=ev') λx hx=>hv x (by simp[Op.operands];exact .inr (by simpa using hx))];exact h
 case slice t x lo hi mx =>
  simp only[R3,hv x (by simp[Op.operands])];rw[Y3 (ev:=ev) (ev':=ev') (x:=lo) λy hy=>hv y (by simp[Op.operands,hy]),Y3 (ev:=ev) (ev':=ev') (x:=hi) λy hy=>hv y (by simp[Op.operands,hy]),Y3 (ev:=ev) (ev':=ev') (x:=mx) λy hy=>hv y (by simp[Op.operands,hy])];split at h
  ·split at h
   ·rename_i hs
    first|exact h|(simp only[hs];exact h)
   ·rename_i hs
    first|exact a3n h hr|(simp only[hs];exact a3n h hr)
  ·cases h
 case fieldAddr s x i =>
  simp only[R3,hv x (by simp[Op.operands])];split at h
  ·exact a5h h hr
  ·cases h
 case field s x i=>simp only[R3,hv x (by simp[Op.operands])];exact h
 case indexAddr t x i =>
  simp only[R3,hv x (by simp[Op.operands]),hv i (by simp[Op.operands])];split at h
  ·exact a5f h hr
  ·cases h
 case build t parts =>
  simp only[R3];rw[U2 (ev:=ev) (ev':=ev') λp hp=>hv p.2 (by simp only[Op.operands,List.mem_toArray,List.mem_map];exact⟨p,hp,rfl⟩)];exact h
 case buildSlice t len parts =>
  simp only[R3];rw[U2 (ev:=ev) (ev':=ev') λp hp=>hv p.2 (by simp only[Op.operands,List.mem_toArray,List.mem_map];exact⟨p,hp,rfl⟩)];exact h
 case typeAssert x t asserted ok=>simp only[R3,hv x (by simp[Op.operands])];exact h
 case extract x i=>simp only[R3,hv x (by simp[Op.operands])];exact h
 case call c =>
  simp only[R3];unfold a5l at *;split at h
  ·split at h
   ·split at h
    ·rw[I0 (ev:=ev) (ev':=ev') λx hx=>hv x (by simp[Op.operands,Call.operands];exact .inr (by simpa using hx))];split at h
     ·exact a8I h hr
     ·cases h
    ·cases h
   ·cases h
  ·split at h
   ·split at h
    ·rw[I0 (ev:=ev) (ev':=ev') λx hx=>hv x (by simp[Op.operands,Call.operands];exact .inr (by simpa using hx))];split at h
     ·exact b3a h hr
     ·cases h
    ·cases h
   ·cases h
  ·rw[I0 (ev:=ev) (ev':=ev') λx hx=>hv x (by simp[Op.operands,Call.operands];exact .inr (by simpa using hx))];exact h
  ·cases h
theorem b3b{m:Mth}{v v':SV}{rs:List Nm}(h:a5M rd m v=some (v',rs))(hr:∀ n∈rs,rd' n=rd n):a5M rd' m v=some (v',rs):=by
 unfold a5M at *;split at h
 ·exact h
 ·split at h
  ·split at h
   ·rename_i hob;simp only[oI9,pI9]at h;obtain⟨rfl,rfl⟩:=h;simp only[hr _ (List.mem_singleton_self _),hob]
   ·cases h
  ·cases h
theorem b4q{P:Program}{T:Tys}(hG:j8 P G.Γ){name:String}{x:SV}{vs:List SV}(h:b0z T G.Γ rd nm name x vs=some e)(hr:∀ n∈e.rds,rd' n=rd n):b0z T G.Γ rd' nm name x vs=some e:=by
 unfold b0z at *;split at h
 ·split at h
  ·split at h
   ·split at h
    ·rename_i hrv;split at h
     ·rename_i k hk;split at h
      ·rename_i e' he';simp only[oI9]at h;subst h;simp only[b3b hrv (λn hn=>hr n (by simp[hn])),(hG _ k hk).loc he' (λn hn=>hr n (by simp[hn]))]
      ·cases h
     ·cases h
    ·cases h
   ·cases h
  ·cases h
 ·cases h
theorem a8q{P:Program}(hG:j8 P G.Γ){o:Op}(h:a1n G ev rd nm o=some e)(hv:∀ x∈o.operands,ev' x=ev x)(hr:∀ n∈e.rds,rd' n=rd n):a1n G ev' rd' nm o=some e:=by
 unfold a1n at h;split at h
 ·rename_i c;simp only[a1n];split at h
  ·exact b0j (nm:=nm) (rd:=rd) (rd':=rd') (o:=.call c) h hv hr
  ·unfold a9K at *;split at h
   ·rename_i x name hx;have h1:ev' x=ev x:=hv x (by simp[Op.operands,Call.operands,hx]);have h2:evL ev' c.args.toList=evL ev c.args.toList:=I0 λy hy=>hv y (by simp[Op.operands,Call.operands];exact .inr (by simpa using hy))
    simp only[h1,h2];split at h
    ·split at h
     ·exact b4q hG h hr
     ·cases h
    ·cases h
   ·rename_i x hx;have h1:ev' x=ev x:=hv x (by simp[Op.operands,Call.operands,hx]);have h2:evL ev' c.args.toList=evL ev c.args.toList:=I0 λy hy=>hv y (by simp[Op.operands,Call.operands];exact .inr (by simpa using hy))
    simp only[h1,h2];split at h
    ·split at h
     ·split at h
      ·rename_i k hk;exact(hG _ k hk).loc h hr
      ·cases h
     ·cases h
    ·cases h
   ·cases h
 ·rename_i hno;unfold a1n;split
  ·rename_i c;exact absurd rfl (hno c)
  ·exact b0j h hv hr
end
def V2(S:St)(d:Nat)(v:SV):St:={S with sl:=(d,v) :: S.sl}
def St.app(S:St)(dst:Option Nat)(e:Eff):St :=
 {nt:=S.nt
  sl:=match dst with
   | some d=>match e.val with
    | some v=>(d,v) :: S.sl
    | none=>(d, .tup []) :: S.sl
   | none=>S.sl
  H:=e.wr++(e.news++S.H)
  N:=S.N+24}
def okK:Option Prop->Prop->Prop
 | none,q=>q
 | some p,q=>p/\q
theorem W2{p:Option Prop}{q:Prop}(h:okK p q):okP p/\q:=by
 cases p with
 | none=>exact⟨trivial,h⟩
 | some p=>exact h
def a2y(S:St):Option Nat->Bool
 | none=>true
 | some d=>Nat.blt d S.nt
def C6(k:FloatKind)(a b r:Nat):Prop :=
 match floatBits .quo k a b with
 | some v=>r=v
 | none=>(k.decode r).isNaN=true
def c3R(S:St)(o:Op):Option (FloatKind×Nat×Nat) :=
 match o with
 | .binOp .quo _ x y _=>match opr S.sl x,opr S.sl y with
  | some (.flt k a),some (.flt k' b)=>match a4u k k' with
   | true=>some (k,a,b)
   | false=>none
  | _,_=>none
 | _=>none
def a4N(G:Ctx)(o:Oper)(S:St)(K:St->Prop):Prop :=
 match a2y S o.dst with
 | true=>match c3R S o.op with
  | some (k,a,b)=>∀ r,C6 k a b r->K (S.app o.dst (Eff.pure (.flt k r)))
  | none=>match a1n G (opr S.sl) (look S.H) S.N o.op with
   | some e=>okK e.obl (K (S.app o.dst e))
   | none=>False
 | false=>False
def a1b(o:Oper)(S:St)(K:St->Prop):Prop :=
 match a2y S o.dst with
 | true=>match o.dst with
  | some d=>K (V2 S d (.tup []))
  | none=>K S
 | false=>False
def a5c(ops:List Oper)(j:Nat):Option Nat :=
 match nth ops j with
 | some o=>o.dst
 | none=>none
def b5O(G:Ctx)(ops:List Oper)(o:Oper)(S:St)(K:St->Prop):Prop :=
 match o.guard with
 | none=>a4N G o S K
 | some (j,want)=>match a5c ops j with
  | none=>False
  | some d=>match slot S.sl d with
   | some .tt=>match want with
    | true=>a4N G o S K
    | false=>a1b o S K
   | some .ff=>match want with
    | true=>a1b o S K
    | false=>a4N G o S K
   | some (.tup [])=>a1b o S K
   | some (.bool b) =>
    (b=true->match want with
     | true=>a4N G o (V2 S d .tt) K
     | false=>a1b o (V2 S d .tt) K)/\
    (b=false->match want with
     | true=>a1b o (V2 S d .ff) K
     | false=>a4N G o (V2 S d .ff) K)
   | _=>False
def a9k(G:Ctx)(ops:List Oper):List Oper->St->(St->Prop)->Prop
 | [],S,K=>K S
 | o :: r,S,K=>b5O G ops o S (λS'=>a9k G ops r S' K)
section
variable {P:Program} {W0:World} {Fr:Nat->Prop} {G:Ctx} {S:St} {ρ:Rho} {a:Act} {w:World}
def a1U(W0:World)(Fr:Nat->Prop)(N0:Nat)(ρ0:Rho)(K:St->Prop)(Q:Act->World->Prop):Prop :=
 ∀ S' ρ' a' w',K S'->Sat W0 Fr S' ρ' a' w'->N0<=S'.N->(∀ n,n<N0->ρ' n=ρ0 n)->Q a' w'
theorem a2h{sl:Slots}{c:Value}{v:SV}(h:opr sl (.const c)=some v)(ρ:Rho):c=v.den ρ:=((a9s (v:=c) (s:=v) h ρ (λ_=>True)).1).symm
theorem Sat.put(h:Sat W0 Fr S ρ a w){d:Nat}(hd:d<S.nt){v:SV}(hv:v.bd (·< S.N)):Sat W0 Fr (V2 S d v) ρ (a.put (some d) (v.den ρ)) w :=
 ⟨h.h,h.s.put hd hv⟩
theorem Sat.set(h:Sat W0 Fr S ρ a w){d:Nat}{v u:SV}(hu:slot S.sl d=some u)(he:u.den ρ=v.den ρ)(hv:v.bd (·< S.N)):Sat W0 Fr (V2 S d v) ρ a w :=
 ⟨h.h,{h.s with
  bd:=λt x hx=>by
   simp only[V2,G4]at hx;split at hx
   ·cases hx;exact hv
   ·exact h.s.bd t x hx
  val:=λt x hx=>by
   simp only[V2,G4]at hx;split at hx
   ·rename_i e;subst e;cases hx;rw[<-he];exact h.s.val _ u hu
   ·exact h.s.val t x hx}⟩
theorem b0A(f:Ieee.Format)(b:Nat)(h1:¬b % f.signWeight<f.binade)(h2:¬b % f.signWeight<f.infRung)(h3:¬b % f.signWeight=f.infRung):(f.read b).isNaN=true:=by
 simp[Ieee.Format.read,h1,h2,h3,Ieee.Datum.isNaN]
theorem b9A(k:FloatKind)(x y t:Nat):(k.decode ((Question.nanBits k x y).cut t)).isNaN=true:=by
 cases k
 ·have hs:(t / 2) % (2 ^ 23-1)<2 ^ 23-1:=Nat.mod_lt _ (by decide);simp only[Question.cut];generalize (t / 2) % (2 ^ 23-1)=s at hs
  have hm:((t % 2)*2 ^ 31+0x7f800000+1+s) % Ieee.single.signWeight=0x7f800000+1+s:=by
   rw[show Ieee.single.signWeight=2 ^ 31 by decide];omega
  refine b0A Ieee.single _ ?_ ?_ ?_ <;> rw[hm]
  ·rw[show Ieee.single.binade=2 ^ 23 by decide];omega
  ·rw[show Ieee.single.infRung=0x7f800000 by decide];omega
  ·rw[show Ieee.single.infRung=0x7f800000 by decide];omega
 ·have hs:(t / 2) % (2 ^ 52-1)<2 ^ 52-1:=Nat.mod_lt _ (by decide);simp only[Question.cut];generalize (t / 2) % (2 ^ 52-1)=s at hs
  have hm:((t % 2)*2 ^ 63+0x7ff0000000000000+1+s) % Ieee.double.signWeight=0x7ff0000000000000+1+s:=by
   rw[show Ieee.double.signWeight=2 ^ 63 by decide];omega
  refine b0A Ieee.double _ ?_ ?_ ?_ <;> rw[hm]
  ·rw[show Ieee.double.binade=2 ^ 52 by decide];omega
  ·rw[show Ieee.double.infRung=0x7ff0000000000000 by decide];omega
  ·rw[show Ieee.double.infRung=0x7ff0000000000000 by decide];omega
theorem b8V{P:Program}(w:World)(t:TypeId)(k:FloatKind)(a b:Nat):∃ r w',(binOp .quo t (.float k a) (.float k b)).run P w=.ok (.float k r) w'/\C6 k a b r/\(w'=w∨w'=w.drew):=by
 unfold C6
 cases hq:floatBits .quo k a b with
 | some v=>exact⟨v,w,run_float_arith w .quo t k a b v hq,rfl, .inl rfl⟩
 | none =>
  have hd:k.format.div a b=none:=hq;refine⟨(Question.nanBits k a b).cut (w.tape w.drawn (.nanBits k a b)),w.drew,?_,b9A k a b _, .inr rfl⟩;simp[binOp,Op.floatArith,hd,Question.forced]
theorem O5(hG:A5 P G){N0:Nat}{ρ0:Rho}{o:Oper}{K:St->Prop}(h:a4N G o S K)(hS:Sat W0 Fr S ρ a w)(hN:N0<=S.N)(hρ:∀ n,n<N0->ρ n=ρ0 n)
  {next:Act->World->Prop} {Q:Exit->Act->World->Prop} (hK:a1U W0 Fr N0 ρ0 K next):o.wp P a w next Q:=by
 unfold a4N at h;split at h
 ·rename_i hd;split at h
  ·rename_i k x y hq;unfold c3R at hq;split at hq
   ·rename_i t xo yo yt hop;split at hq
    ·rename_i k1 a1 k2 b1 hx hy;split at hq
     ·rename_i hk;have:=Q5 hk;subst this;simp only[oI9,pI9]at hq;obtain⟨rfl,rfl,rfl⟩:=hq;obtain⟨r,w',hrun,hrel,hw'⟩:=b8V (P:=P) w t k1 a1 b1;have e1:=(I2 hS.s hx).1;have e2:=(I2 hS.s hy).1;simp only[SV.den]at e1 e2
      have hexec:(execOp a.eval o).run P w=.ok (.value (.float k1 r)) w':=by
       simp only[execOp,hop,e1,e2,eqGuard_quo,Sem.run_bind,Sem.run_pure,Result.andThen_ok,hrun]
      have hS':Sat W0 Fr S ρ a w':=by
       rcases hw' with rfl|rfl
       ·exact hS
       ·exact⟨hS.h.drew,hS.s⟩
      unfold Oper.wp;rw[hexec];have hH':=hS'.h.mono (U':=(·< S.N+24)) (λn hn=>Nat.lt_of_lt_of_le hn (Nat.le_add_right _ _));have hs':=hS'.s.mono (U':=(·< S.N+24)) (λn hn=>Nat.lt_of_lt_of_le hn (Nat.le_add_right _ _)) (λ_ _=>rfl);refine hK (S.app o.dst (Eff.pure (.flt k1 r))) ρ _ _ (h r hrel) ⟨hH',?_⟩ (Nat.le_trans hN (Nat.le_add_right _ _)) hρ
      cases hdst:o.dst with
      | none=>simpa [St.app,Act.put]using hs'
      | some d =>
       have hd':d<S.nt:=by rw[hdst]at hd;simpa [a2y]using hd
       exact hs'.put (v:=.flt k1 r) hd' trivial
     ·cases hq
    ·cases hq
   ·cases hq
  split at h
  ·rename_i e he;obtain⟨h1,h2⟩:=W2 h;refine a1i hG hS.h (λj _=>by simp) (λx v hx=>I2 hS.s hx) (λc v hc=>a2h hc ρ) he h1 (λρ' w' hr hH=>?_)
   have hU:∀ n,UU (·< S.N) S.N n->n<S.N+24:=by
    intro n hn;rcases hn with hn|hn
    ·exact Nat.lt_of_lt_of_le hn (Nat.le_add_right _ _)
    ·exact hn.2
   have hH':=hH.mono (U':=(·< S.N+24)) hU;have hs':=hS.s.mono (U':=(·< S.N+24)) (λn hn=>Nat.lt_of_lt_of_le hn (Nat.le_add_right _ _)) hr;have hρ':∀ n,n<N0->ρ' n=ρ0 n:=λn hn=>(hr n (Nat.lt_of_lt_of_le hn hN)).trans (hρ n hn)
   have hN':N0<=S.N+24:=Nat.le_trans hN (Nat.le_add_right _ _);split
   ·rename_i v hv;intro hb;refine hK (S.app o.dst e) ρ' _ _ h2 ⟨hH',?_⟩ hN' hρ'
    cases hdst:o.dst with
    | none=>simpa [St.app,Act.put]using hs'
    | some d =>
     have hd':d<S.nt:=by rw[hdst]at hd;simpa [a2y]using hd
     simp only[St.app,hv];exact hs'.put hd' (SV.bd_mono hU v hb)
   ·rename_i hv;refine hK (S.app o.dst e) ρ' _ _ h2 ⟨hH',?_⟩ hN' hρ'
    cases hdst:o.dst with
    | none=>simpa [St.app,Act.put]using hs'
    | some d =>
     have hd':d<S.nt:=by rw[hdst]at hd;simpa [a2y]using hd
     simp only[St.app,hv];exact hs'.put (v:=.tup []) hd' (by simp[SV.bd,bdL])
  ·exact h.elim
 ·exact h.elim
theorem G8{N0:Nat}{ρ0:Rho}{o:Oper}{K:St->Prop}(h:a1b o S K)(hS:Sat W0 Fr S ρ a w)(hN:N0<=S.N)(hρ:∀ n,n<N0->ρ n=ρ0 n)
  {next:Act->World->Prop} (hK:a1U W0 Fr N0 ρ0 K next):next (a.put o.dst undef) w:=by
 unfold a1b at h;split at h
 ·rename_i hd;split at h
  ·rename_i d hdst;rw[hdst]at hd ⊢;have hd':d<S.nt:=by simpa [a2y]using hd
   exact hK _ ρ _ _ h (hS.put (v:=.tup []) hd' (by simp[SV.bd,bdL])) hN hρ
  ·rename_i hdst;rw[hdst];exact hK _ ρ _ _ h hS hN hρ
 ·exact h.elim
def a7n(P:Program)(ops:Array Oper)(o:Oper)(a:Act)(w:World)(next:Act->World->Prop)(Q:Exit->Act->World->Prop):Prop :=
 if Region.wanted o (yielded ops a.tmps)then o.wp P a w next Q∨(o.asks P a w/\LetsOut Q)else next (a.put o.dst undef) w
theorem b1e(hG:A5 P G){N0:Nat}{ρ0:Rho}{ops:List Oper}{o:Oper}{K:St->Prop}(h:b5O G ops o S K)(hS:Sat W0 Fr S ρ a w)(hN:N0<=S.N)(hρ:∀ n,n<N0->ρ n=ρ0 n)
  {next:Act->World->Prop} {Q:Exit->Act->World->Prop} (hK:a1U W0 Fr N0 ρ0 K next):a7n P ops.toArray o a w next Q:=by
 unfold b5O at h;unfold a7n;split at h
 ·rename_i hg;rw[if_pos (by simp[Region.wanted,hg])];exact .inl (O5 hG h hS hN hρ hK)
 ·rename_i j want hg;split at h
  ·exact h.elim
  ·rename_i d hd
   have hdst:(ops.toArray[j]?).bind (·.dst)=some d:=by
    unfold a5c at hd;rw[V5]at hd;split at hd
    ·rename_i o' ho';simp[ho',hd]
    ·cases hd
   have wantedIs:∀(v:Value),a.tmps[d]? = some v->Region.wanted o (yielded ops.toArray a.tmps)=((match v with | .bool b=>some b|_=>none)==some want):=by
    intro v hv;simp only[Region.wanted,hg,yielded,hdst,Option.bind_some,hv];cases v <;> rfl
   split at h
   ·rename_i hv;have hw:=wantedIs _ (hS.s.val _ _ hv);simp only[SV.den]at hw;split at h
    ·rw[hw];exact .inl (O5 hG h hS hN hρ hK)
    ·rw[hw];exact G8 h hS hN hρ hK
   ·rename_i hv;have hw:=wantedIs _ (hS.s.val _ _ hv);simp only[SV.den]at hw;split at h
    ·rw[hw];exact G8 h hS hN hρ hK
    ·rw[hw];exact .inl (O5 hG h hS hN hρ hK)
   ·rename_i hv;have hw:=wantedIs _ (hS.s.val _ _ hv);simp only[SV.den]at hw;rw[hw];exact G8 h hS hN hρ hK
   ·rename_i b hv;have hw:=wantedIs _ (hS.s.val _ _ hv);simp only[SV.den]at hw;rw[hw];cases b
    ·have h2:=h.2 rfl;have hS':Sat W0 Fr (V2 S d .ff) ρ a w:=hS.set hv rfl trivial;split at h2
     ·exact G8 h2 hS' hN hρ hK
     ·exact .inl (O5 hG h2 hS' hN hρ hK)
    ·have h1:=h.1 rfl;have hS':Sat W0 Fr (V2 S d .tt) ρ a w:=hS.set hv rfl trivial;split at h1
     ·exact .inl (O5 hG h1 hS' hN hρ hK)
     ·exact G8 h1 hS' hN hρ hK
   ·exact h.elim
theorem a3h(hG:A5 P G){N0:Nat}{ρ0:Rho}{ops:List Oper}{Q:Exit->Act->World->Prop}:∀(l:List Oper)(k:Nat) {S:St} {ρ:Rho} {a:Act} {w:World} {K:St->Prop},(∀ j,l[j]? = ops[k+j]?)->
  a9k G ops l S K->Sat W0 Fr S ρ a w->N0<=S.N->(∀ n,n<N0->ρ n=ρ0 n)->a1U W0 Fr N0 ρ0 K (Q .normal)->wpOps P ops.toArray Q (List.range' k l.length) a w
 | [],k,S,ρ,a,w,K,_,h,hS,hN,hρ,hK=>hK S ρ a w h hS hN hρ
 | o :: r,k,S,ρ,a,w,K,hl,h,hS,hN,hρ,hK=>by
  have ho:ops[k]? = some o:=by simpa using (hl 0).symm
  simp only[List.length_cons,List.range'_succ];unfold wpOps;simp only[List.getElem?_toArray,ho];refine b1e hG h hS hN hρ λS' ρ' a' w' h' hS' hN' hρ'=>?_
  refine a3h hG r (k+1) (λj=>?_) h' hS' hN' hρ' hK;have:=hl (j+1);simp only[List.getElem?_cons_succ]at this;rw[this];congr 1;omega
end
abbrev AS:=Slots×z7
abbrev Ent:=Nat×Oper×Eff
def a2w:Eff:=⟨some (.tup []),[],[],[],none⟩
def c1u:List (Nat×Bool)->Nat->Option Bool
 | [],_=>none
 | (m,v) :: r,n=>match Nat.beq m n with
  | true=>some v
  | false=>c1u r n
def c5a:Bool->SV
 | true=>.tt
 | false=>.ff
def c8H(p:Option Prop)(q:Prop):Option Prop :=
 match p with
 | none=>some q
 | some p=>some (p/\q)
def a3D(dec:List (Nat×Bool))(i:Nat)(e:Eff):Eff :=
 match c1u dec i with
 | none=>e
 | some c=>match e with
  | ⟨some (.bool b),wr,news,rds,obl⟩=>⟨some (c5a c),wr,news,rds,c8H obl (b=c)⟩
  | e=>e
def b0V(G:Ctx)(N:Nat)(dec:List (Nat×Bool))(i:Nat)(o:Oper)(s:AS):Option Eff :=
 match a1n G (opr s.1) (look s.2) (N+24*i) o.op with
 | some e=>some (a3D dec i e)
 | none=>none
def a1d(G:Ctx)(nt N:Nat)(ops:List Oper)(dec:List (Nat×Bool))(i:Nat)(o:Oper)(s:AS):Option Eff :=
 match (match o.dst with|none=>true|some d=>Nat.blt d nt)with
 | false=>none
 | true=>match o.guard with
  | none=>b0V G N dec i o s
  | some (j,want)=>match a5c ops j with
   | none=>none
   | some d=>match slot s.1 d with
    | some .tt=>match want with
     | true=>b0V G N dec i o s
     | false=>some a2w
    | some .ff=>match want with
     | true=>some a2w
     | false=>b0V G N dec i o s
    | some (.tup [])=>some a2w
    | _=>none
def E6(o:Oper)(e:Eff)(s:AS):AS :=
 (match o.dst with
  | some d=>match e.val with
   | some v=>(d,v) :: s.1
   | none=>(d, .tup []) :: s.1
  | none=>s.1,e.wr++(e.news++s.2))
def a9X:z7->List Nm
 | []=>[]
 | (n,_) :: r=>n :: a9X r
def a2Q(e:Eff):List Nm:=a9X e.wr++a9X e.news
theorem C7(n:Nm):∀(a b:z7),look (a++b) n=match look a n with|some o=>some o|none=>look b n
 | [],b=>by simp[look]
 | (m,o) :: r,b=>by
  simp only[List.cons_append,g8,C7 n r b];split <;> rfl
theorem H4{n:Nm}:∀ {a:z7},n∉a9X a->look a n=none
 | [],_=>rfl
 | (m,o) :: r,h=>by
  simp only[a9X,List.mem_cons,not_or]at h;rw[g8,if_neg (λe=>h.1 e.symm),H4 h.2]
theorem O7{o:Oper}{e:Eff}{s:AS}{n:Nm}(h:n∉a2Q e):look (E6 o e s).2 n=look s.2 n:=by
 simp only[a2Q,List.mem_append,not_or]at h;simp only[E6,C7,H4 h.1,H4 h.2]
theorem F7{o:Oper}{e:Eff}{s:AS}{t:Nat}(h:o.dst≠some t):slot (E6 o e s).1 t=slot s.1 t:=by
 simp only[E6]
 cases hd:o.dst with
 | none=>rfl
 | some d =>
  have:d≠t:=λe=>h (by rw[hd,e])
  cases e.val <;> simp[G4,this]
def S5(s s':AS):Prop:=(∀ t,slot s'.1 t=slot s.1 t)/\∀ n,look s'.2 n=look s.2 n
theorem S5.refl(s:AS):S5 s s:=⟨λ_=>rfl,λ_=>rfl⟩
theorem S5.trans{a b c:AS}(h:S5 a b)(h':S5 b c):S5 a c:=⟨λt=>(h'.1 t).trans (h.1 t),λn=>(h'.2 n).trans (h.2 n)⟩
theorem S5.app{s s':AS}(h:S5 s s')(o:Oper)(e:Eff):S5 (E6 o e s) (E6 o e s'):=by
 refine⟨λt=>?_,λn=>?_⟩
 ·simp only[E6]
  cases o.dst with
  | none=>exact h.1 t
  | some d=>cases e.val <;> simp[G4,h.1 t]
 ·simp only[E6,C7,h.2 n]
section
variable {P:Program} {G:Ctx} {nt N:Nat} {ops:List Oper} {dec:List (Nat×Bool)}
theorem a5y(hG:j8 P G.Γ){i:Nat}{o:Oper}{s s':AS}{e:Eff}(h:b0V G N dec i o s=some e)(hs:∀ t,Operand.tmp t∈o.op.operands->slot s'.1 t=slot s.1 t)(hr:∀ n∈e.rds,look s'.2 n=look s.2 n) :
  b0V G N dec i o s'=some e:=by
 unfold b0V at *;split at h
 ·rename_i e1 h1;simp only[oI9]at h
  have hrd:e.rds=e1.rds:=by
   rw[<-h];unfold a3D;split
   ·rfl
   ·split <;> rfl
  rw[hrd]at hr;have:=a8q hG (ev':=opr s'.1) (rd':=look s'.2) h1 (λx hx=>by cases x <;> first|exact hs _ hx|rfl) hr;rw[this,<-h]
 ·cases h
theorem a4b(hG:j8 P G.Γ){i:Nat}{o:Oper}{s s':AS}{e:Eff}(h:a1d G nt N ops dec i o s=some e)(hs:∀ t∈o.looksAt ops.toArray,slot s'.1 t=slot s.1 t)(hr:∀ n∈e.rds,look s'.2 n=look s.2 n) :
  a1d G nt N ops dec i o s'=some e:=by
 have hop:∀ t,Operand.tmp t∈o.op.operands->slot s'.1 t=slot s.1 t:=λt ht=>hs t (by
  simp only[Oper.looksAt,List.mem_append,List.mem_filterMap]
  exact .inl ⟨.tmp t,by simpa using ht,rfl⟩)
 unfold a1d at *;split at h
 ·cases h
 ·split at h
  ·exact a5y hG h hop hr
  ·rename_i j want hg;split at h
   ·cases h
   ·rename_i d hgd
    have hdst:(ops.toArray[j]?).bind (·.dst)=some d:=by
     unfold a5c at hgd;rw[V5]at hgd;split at hgd
     ·rename_i o' ho';simp[ho',hgd]
     ·cases hgd
    have hsd:slot s'.1 d=slot s.1 d:=hs d (by
     simp only[Oper.looksAt,hg,List.mem_append];refine .inr ?_
     rw[hdst];simp)
    rw[hsd];split at h
    ·split at h
     ·exact a5y hG h hop hr
     ·exact h
    ·split at h
     ·exact h
     ·exact a5y hG h hop hr
    ·exact h
    ·cases h
structure a4M (ops:List Oper) (oi oj:Oper) (ei ej:Eff):Prop where
 ap:oi.apart ops.toArray oj=true
 rd:∀ n∈ej.rds,n∉a2Q ei
 dr:∀ n∈ei.rds,n∉a2Q ej
 wr:∀ n∈a2Q ei,n∉a2Q ej
theorem swap(hG:j8 P G.Γ){i j:Nat}{oi oj:Oper}{s:AS}{ei ej:Eff}(hi:a1d G nt N ops dec i oi s=some ei)(hj:a1d G nt N ops dec j oj (E6 oi ei s)=some ej)(h:a4M ops oi oj ei ej) :
  a1d G nt N ops dec j oj s=some ej/\a1d G nt N ops dec i oi (E6 oj ej s)=some ei/\S5 (E6 oj ej (E6 oi ei s)) (E6 oi ei (E6 oj ej s)):=by
 obtain⟨h1,h2,h3⟩:=Oper.apart_spec h.ap;refine⟨?_,?_,?_,?_⟩
 ·exact a4b hG hj (λt ht=>(F7 (λhd=>h1 t hd ht)).symm) (λn hn=>(O7 (h.rd n hn)).symm)
 ·exact a4b hG hi (λt ht=>F7 (λhd=>h3 t hd ht)) (λn hn=>O7 (h.dr n hn))
 ·intro t;by_cases ht:oi.dst=some t
  ·have hne:oj.dst≠some t:=h2 t ht;rw[F7 hne];simp only[E6,ht];cases ei.val <;> simp[G4]
  ·rw[F7 ht];by_cases ht2:oj.dst=some t
   ·simp only[E6,ht2];cases ej.val <;> simp[G4]
   ·rw[F7 ht2,F7 ht2,F7 ht]
 ·intro n;by_cases hn:n∈a2Q ei
  ·have hn2:=h.wr n hn;rw[O7 hn2];simp only[E6,C7];simp only[a2Q,List.mem_append,not_or]at hn hn2
   cases hw:look ei.wr n with
   | some x=>rfl
   | none =>
    cases hw2:look ei.news n with
    | some x=>rfl
    | none=>simp[H4 hn2.1,H4 hn2.2]
  ·rw[O7 hn];simp only[E6,C7];simp only[a2Q,List.mem_append,not_or]at hn;simp[H4 hn.1,H4 hn.2]
def a7c(G:Ctx)(nt N:Nat)(ops:List Oper)(dec:List (Nat×Bool)):List Ent->AS->Prop
 | [],_=>True
 | (i,o,e) :: r,s=>a1d G nt N ops dec i o s=some e/\a7c G nt N ops dec r (E6 o e s)
def fin:List Ent->AS->AS
 | [],s=>s
 | (_,o,e) :: r,s=>fin r (E6 o e s)
theorem a7c.same(hG:j8 P G.Γ):∀ {l:List Ent} {s s':AS},S5 s s'->a7c G nt N ops dec l s->a7c G nt N ops dec l s'/\S5 (fin l s) (fin l s')
 | [],s,s',h,_=>⟨trivial,h⟩
 | (i,o,e) :: r,s,s',h,hr=>by
  obtain⟨h1,h2⟩:=hr;have h3:=a4b hG h1 (s':=s') (λt _=>h.1 t) (λn _=>h.2 n);obtain⟨h4,h5⟩:=a7c.same hG (h.app o e) h2;exact⟨⟨h3,h4⟩,h5⟩
theorem b7W(hG:j8 P G.Γ){i:Nat}{o:Oper}{e:Eff}{post:List Ent}:∀ {pre:List Ent} {s:AS},a7c G nt N ops dec (pre++(i,o,e) :: post) s->(∀ x∈pre,a4M ops x.2.1 o x.2.2 e)->
  a1d G nt N ops dec i o s=some e/\a7c G nt N ops dec (pre++post) (E6 o e s)/\S5 (fin (pre++(i,o,e) :: post) s) (fin (pre++post) (E6 o e s))
 | [],s,h,_=>⟨h.1,h.2,S5.refl _⟩
 | (k,ok,ek) :: pre,s,h,hi=>by
  obtain⟨h1,h2⟩:=h;obtain⟨h3,h4,h5⟩:=b7W hG h2 (λx hx=>hi x (by simp[hx]));obtain⟨h6,h7,h8⟩:=swap hG h1 h3 (hi (k,ok,ek) (by simp));obtain⟨h9,h10⟩:=a7c.same hG h8 h4;exact⟨h6,⟨h7,h9⟩,h5.trans h10⟩
end
def R5(acc:List Nat)(o:Oper):Nat :=
 o.after.toList.foldl (λs e=>match Region.binds .any e with
  | true=>(s ||| 2 ^ e.on) ||| ((nth acc e.on).getD 0)
  | false=>s) 0
def J2:List Oper->List Nat->List Nat
 | [],acc=>acc
 | o :: r,acc=>J2 r (acc++[R5 acc o])
theorem a2V:∀(l:List Oper)(acc:List Nat),(J2 l acc).take acc.length=acc
 | [],acc=>by simp[J2]
 | o :: r,acc=>by
  have h:=a2V r (acc++[R5 acc o]);simp only[J2]
  have h2:(J2 r (acc++[R5 acc o])).take acc.length=((J2 r (acc++[R5 acc o])).take (acc++[R5 acc o]).length).take acc.length:=by
   rw[List.take_take];congr 1;simp
  rw[h2,h];simp
theorem a7M:∀(l:List Oper)(acc:List Nat)(i:Nat)(o:Oper),l[i]? = some o->(J2 l acc)[acc.length+i]? = some (R5 ((J2 l acc).take (acc.length+i)) o)
 | [],acc,i,o,h=>by simp at h
 | x :: r,acc,0,o,h=>by
  simp only[List.getElem?_cons_zero,oI9]at h;subst h;simp only[J2,Nat.add_zero];have h1:=a2V r (acc++[R5 acc x])
  have h2:(J2 r (acc++[R5 acc x]))[acc.length]? = ((J2 r (acc++[R5 acc x])).take (acc++[R5 acc x]).length)[acc.length]? := by
   rw[List.getElem?_take,if_pos (by simp)]
  have h3:(J2 r (acc++[R5 acc x])).take acc.length=acc:=by
   have:=a2V (x :: r) acc;simpa [J2]using this
  rw[h2,h1,h3];simp
 | x :: r,acc,i+1,o,h=>by
  have:=a7M r (acc++[R5 acc x]) i o (by simpa using h);simp only[J2];rw[show (acc++[R5 acc x]).length+i=acc.length+(i+1) by simp;omega]at this;exact this
theorem a7V{acc:List Nat}{k:Nat}:∀(es:List Edge)(s:Nat),(es.foldl (λs e=>match Region.binds .any e with
  | true=>(s ||| 2 ^ e.on) ||| ((nth acc e.on).getD 0)
  | false=>s) s).testBit k=true->s.testBit k=true∨∃ e∈es,Region.binds .any e=true/\(k=e.on∨((acc[e.on]?).getD 0).testBit k=true)
 | [],s,h=>.inl h
 | e :: r,s,h=>by
  simp only[List.foldl_cons]at h;rcases a7V r _ h with h1|⟨e',he',h2⟩
  ·split at h1
   ·rename_i hb;simp only[Nat.testBit_or,Bool.or_eq_true,V5]at h1;rcases h1 with(h1|h1)|h1
    ·exact .inl h1
    ·rw[Nat.testBit_two_pow]at h1;exact .inr ⟨e,by simp,hb, .inl (oT9 h1).symm⟩
    ·exact .inr ⟨e,by simp,hb, .inr h1⟩
   ·exact .inl h1
  ·exact .inr ⟨e',by simp[he'],h2⟩
theorem a3J{ops:List Oper}{L:Nat->Prop}(hL:∀ i o,ops[i]? = some o->L i->∀ e∈o.after,Region.binds .any e=true->L e.on):∀(i:Nat)(o:Oper),ops[i]? = some o->(∀ e∈o.after,Region.binds .any e=true->L e.on)->
  ∀ k,(((J2 ops [])[i]?).getD 0).testBit k=true->L k:=by
 intro i
 induction i using Nat.strongRecOn with
 | _ i ih =>
  intro o ho hr k hk;have hg:=a7M ops [] i o ho;simp only[List.length_nil,Nat.zero_add]at hg;rw[hg,Option.getD_some,R5]at hk;rcases a7V _ _ hk with h0|⟨e,he,hb,h1⟩
  ·simp at h0
  ·have hle:L e.on:=hr e (by simpa using he) hb;rcases h1 with rfl|h1
   ·exact hle
   ·rw[List.getElem?_take]at h1;split at h1
    ·rename_i hlt
     cases hoe:ops[e.on]? with
     | none =>
      have hlen:∀(l:List Oper)(acc:List Nat),(J2 l acc).length=acc.length+l.length:=by
       intro l
       induction l with
       | nil=>intro acc;simp[J2]
       | cons x r ihr=>intro acc;simp[J2,ihr];omega
      have:ops.length<=e.on:=List.getElem?_eq_none_iff.1 hoe;rw[List.getElem?_eq_none (by rw[hlen];simpa using this)]at h1;simp at h1
     | some oe=>exact ih e.on hlt oe hoe (λe' he' hb'=>hL e.on oe hoe hle e' he' hb') k h1
    ·simp at h1
def a2m(ops:List Oper):Bool:=go ops 0
 where
 go:List Oper->Nat->Bool
  | [],_=>true
  | o :: r,i=>(o.after.toList.all λe=>match Region.binds .any e with
   | true=>Nat.blt e.on i
   | false=>true)&&go r (i+1)
theorem a2F:∀(l:List Oper)(k:Nat),a2m.go l k=true->∀ i o,l[i]? = some o->∀ e∈o.after,Region.binds .any e=true->e.on<k+i
 | [],_,_,i,o,h=>by simp at h
 | x :: r,k,h,i,o,ho=>by
  simp only[a2m.go,bA9]at h
  cases i with
  | zero =>
   simp only[List.getElem?_cons_zero,oI9]at ho;subst ho;intro e he hb;have:=List.all_eq_true.1 h.1 e (by simpa using he);rw[hb]at this;simpa using this
  | succ i =>
   intro e he hb;have:=a2F r (k+1) h.2 i o (by simpa using ho) e he hb;omega
def b6D(a b:List Nm):Bool:=a.all λx=>b.all λy => !(Nat.beq x y)
theorem a5X{a b:List Nm}(h:b6D a b=true):∀ x∈a,x∉b:=by
 intro x hx hb;have:=List.all_eq_true.1 (List.all_eq_true.1 h x hx) x hb;simp at this
def b2Z(ops:List Oper)(x y:Ent):Bool :=
 x.2.1.apart ops.toArray y.2.1&&(b6D (a2Q x.2.2) (y.2.2.rds++a2Q y.2.2)&&b6D (a2Q y.2.2) x.2.2.rds)
theorem b0D{ops:List Oper}{x y:Ent}(h:b2Z ops x y=true):a4M ops x.2.1 y.2.1 x.2.2 y.2.2:=by
 simp only[b2Z,bA9]at h;obtain⟨h1,h2,h3⟩:=h;have h4:=a5X h2;have h5:=a5X h3;exact⟨h1,λn hn hf=>h4 n hf (by simp[hn]),λn hn hf=>h5 n hf hn,λn hn hf=>h4 n hn (by simp[hf])⟩
def a1O(ops:List Oper)(ms:List Nat):List Ent->Bool
 | []=>true
 | x :: r=>(r.all λy=>((nth ms y.1).getD 0).testBit x.1||b2Z ops x y)&&a1O ops ms r
def chk(ops:List Oper)(log:List Ent):Bool:=a2m ops&&a1O ops (J2 ops []) log
def c3u(ops:List Oper)(x y:Ent):Prop:=(((J2 ops [])[y.1]?).getD 0).testBit x.1=true∨a4M ops x.2.1 y.2.1 x.2.2 y.2.2
theorem S8{ops:List Oper}:∀ {l:List Ent},a1O ops (J2 ops []) l=true->l.Pairwise (c3u ops)
 | [],_=>.nil
 | x :: r,h=>by
  simp only[a1O,bA9]at h;refine .cons (λy hy=>?_) (S8 h.2);have:=List.all_eq_true.1 h.1 y hy;simp only[Bool.or_eq_true,V5]at this;exact this.imp id b0D
def UD(N M:Nat)(l:List Ent):Nm->Prop:=λ(n:Nat)=>n<N+24*M/\∀ x∈l,¬(N+24*x.1<=n/\n<N+24*x.1+24)
section
variable {P:Program} {W0:World} {Fr:Nat->Prop} {G:Ctx} {nt N:Nat} {ops:List Oper} {dec:List (Nat×Bool)}
theorem a7S{i : Nat}{e : Eff}(h : okP (a3D dec i e).obl) : okP e.obl /\ (a3D dec i e).wr = e.wr /\ (a3D dec i e).news = e.news /\
   (match e.val with
    | some v => ∃ v', (a3D dec i e).val = some v' /\ (∀ ρ : Rho, v'.den ρ = v.den ρ) /\ ∀ U : Nm -> Prop, v.bd U -> v'.bd U
    | none => (a3D dec i e).val = none) := by
 unfold a3D at h ⊢;split
 · refine ⟨by simpa [*] using h, rfl, rfl, ?_⟩
   cases e.val with
   | none => rfl
   | some v => exact ⟨v, rfl, λ_ => rfl, λ_ h => h⟩
 · rename_i c hc
   simp only [hc] at h;split at h
   · rename_i b wr news rds obl
     have h2 : okP obl /\ b = c := by
       cases obl with
       | none => exact ⟨trivial, h⟩
       | some p => exact h
     refine ⟨h2.1, rfl, rfl, c5a c, rfl, λρ => ?_, λU _ => ?_⟩
     · rw [h2.2]; cases c <;> rfl
     · cases c <;> trivial
   · refine ⟨h, rfl, rfl, ?_⟩
     cases e.val with
     | none => rfl
     | some v => exact ⟨v, rfl, λ_ => rfl, λ_ h => h⟩
structure a6K (W0:World) (Fr:Nat->Prop) (nt:Nat) (U:Nm->Prop) (s:AS) (ρ:Rho) (a:Act) (w:World):Prop where
 h:HSat W0 Fr U s.2 ρ w
 s:SSat U nt s.1 ρ a
theorem c5w(hG:A5 P G){M:Nat}{l l':List Ent}{i:Nat}{o:Oper}{e:Eff}{s:AS}{ρ:Rho}{a:Act}{w:World}
  (h:a1d G nt N ops dec i o s=some e) (ho:okP e.obl) (hS:a6K W0 Fr nt (UD N M l) s ρ a w) (hin:(i,o,e)∈l) (hiM:i<M) (hsub:∀ x∈l',x∈l) (hne:∀ x∈l',x.1≠i)
  {next:Act->World->Prop} {Q:Exit->Act->World->Prop}
  (hk:∀ ρ' a' w',a6K W0 Fr nt (UD N M l') (E6 o e s) ρ' a' w'->(∀ n,UD N M l n->ρ' n=ρ n)->next a' w'):a7n P ops.toArray o a w next Q:=by
 have hmono:∀ n,UD N M l n->UD N M l' n:=λn hn=>⟨hn.1,λx hx=>hn.2 x (hsub x hx)⟩
 have hU:∀ n,UU (UD N M l) (N+24*i) n->UD N M l' n:=by
  intro n hn;rcases hn with hn|hn
  ·exact hmono n hn
  ·refine⟨?_,λx hx hx2=>?_⟩
   ·have h1:n<N+24*i+24:=hn.2;omega
   ·have h1:N+24*i<=n/\n<N+24*i+24:=hn;have:=hne x hx;omega
 have hn4:∀ j:Nat,j<24->¬UD N M l (N+24*i+j):=by
  intro j hj hu;exact hu.2 (i,o,e) hin ⟨Nat.le_add_right _ _,by show N+24*i+j<N+24*i+24;omega⟩
 have skip:e=a2w->(∀ d,o.dst=some d->d<nt)->next (a.put o.dst undef) w:=by
  intro he hd;subst he;refine hk ρ _ w ⟨?_,?_⟩ (λ_ _=>rfl)
  ·exact hS.h.mono hmono
  ·have hs:=hS.s.mono hmono (λ_ _=>rfl);simp only[E6,a2w]
   cases hdst:o.dst with
   | none=>simpa [Act.put]using hs
   | some d=>exact hs.put (v:=.tup []) (hd d hdst) (by simp[SV.bd,bdL])
 have run:b0V G N dec i o s=some e->(∀ d,o.dst=some d->d<nt)->o.wp P a w next Q:=by
  intro hr hd;unfold b0V at hr;split at hr
  ·rename_i e1 h1;simp only[oI9]at hr;subst hr;obtain⟨h2,h3,h4,h5⟩:=a7S ho;refine a1i hG hS.h hn4 (λx v hx=>I2 hS.s hx) (λc v hc=>a2h hc ρ) h1 h2 (λρ' w' hr' hH=>?_)
   have hH':HSat W0 Fr (UD N M l') ((a3D dec i e1).wr++((a3D dec i e1).news++s.2)) ρ' w':=by
    rw[h3,h4];exact hH.mono hU
   have hs:=hS.s.mono hmono hr';split
   ·rename_i v hv;intro hb;rw[hv]at h5;obtain⟨v',h6,h7,h8⟩:=h5;refine hk ρ' _ w' ⟨hH',?_⟩ hr';rw[<-h7 ρ'];simp only[E6,h6]
    cases hdst:o.dst with
    | none=>simpa [Act.put]using hs
    | some d=>exact hs.put (hd d hdst) (h8 _ (SV.bd_mono hU v hb))
   ·rename_i hv;rw[hv]at h5;refine hk ρ' _ w' ⟨hH',?_⟩ hr';simp only[E6,h5]
    cases hdst:o.dst with
    | none=>simpa [Act.put]using hs
    | some d=>exact hs.put (v:=.tup []) (hd d hdst) (by simp[SV.bd,bdL])
  ·cases hr
 unfold a1d at h;split at h
 ·cases h
 ·rename_i hd0
  have hd:∀ d,o.dst=some d->d<nt:=by
   intro d hd;rw[hd]at hd0;simpa using hd0
  unfold a7n;split at h
  ·rename_i hg;rw[if_pos (by simp[Region.wanted,hg])];exact .inl (run h hd)
  ·rename_i j want hg;split at h
   ·cases h
   ·rename_i d hgd
    have hdst:(ops.toArray[j]?).bind (·.dst)=some d:=by
     unfold a5c at hgd;rw[V5]at hgd;split at hgd
     ·rename_i o' ho';simp[ho',hgd]
     ·cases hgd
    have wantedIs:∀(v:Value),a.tmps[d]? = some v->Region.wanted o (yielded ops.toArray a.tmps)=((match v with | .bool b=>some b|_=>none)==some want):=by
     intro v hv;simp only[Region.wanted,hg,yielded,hdst,Option.bind_some,hv];cases v <;> rfl
    split at h
    ·rename_i hv;have hw:=wantedIs _ (hS.s.val _ _ hv);simp only[SV.den]at hw;split at h
     ·rw[hw];exact .inl (run h hd)
     ·rw[hw];exact skip (by simpa using h.symm) hd
    ·rename_i hv;have hw:=wantedIs _ (hS.s.val _ _ hv);simp only[SV.den]at hw;split at h
     ·rw[hw];exact skip (by simpa using h.symm) hd
     ·rw[hw];exact .inl (run h hd)
    ·rename_i hv;have hw:=wantedIs _ (hS.s.val _ _ hv);simp only[SV.den]at hw;rw[hw];exact skip (by simpa using h.symm) hd
    ·cases h
end
def b2I:List Ent->Prop
 | []=>True
 | (_,_,e) :: r=>okP e.obl/\b2I r
theorem S0:∀ {l:List Ent},b2I l->∀ x∈l,okP x.2.2.obl
 | [],_,x,hx=>by simp at hx
 | (i,o,e) :: r,h,x,hx=>by
  rcases List.mem_cons.1 hx with rfl|hx
  ·exact h.1
  ·exact S0 h.2 x hx
section
variable {P:Program} {W0:World} {Fr:Nat->Prop} {G:Ctx} {nt N:Nat} {ops:List Oper} {dec:List (Nat×Bool)}
theorem a8p(hG:A5 P G)(hback:a2m ops=true){F:AS}{ρ0:Rho}{N0:Nat}(hN0:N0<=N){Q:Exit->Act->World->Prop}
  (hQ:∀ ρ a w,a6K W0 Fr nt (UD N ops.length []) F ρ a w->(∀ n,n<N0->ρ n=ρ0 n)->Q .normal a w) :
  ∀(fuel:Nat)(l:List Ent)(listed:Array Bool)(s:AS)(ρ:Rho)(a:Act)(w:World),l.length=fuel->listed.size=ops.length->
   (∀ j,j<ops.length->listed[j]? = some (!decide (∃ x∈l,x.1=j)))->
   (∀ x∈l,ops[x.1]? = some x.2.1)->l.Pairwise (λx y=>x.1<y.1)->l.Pairwise (c3u ops)->(∀ x∈l,okP x.2.2.obl)->
   (∀ i o,ops[i]? = some o->listed.getD i false=true->∀ e∈o.after,Region.binds .any e=true->listed.getD e.on false=true)->
   a7c G nt N ops dec l s->S5 F (fin l s)->a6K W0 Fr nt (UD N ops.length l) s ρ a w->(∀ n,n<N0->ρ n=ρ0 n)->
   wpAny P .any ops.toArray Q fuel listed a w:=by
 have hb:=a2F ops 0 hback;intro fuel
 induction fuel with
 | zero =>
  intro l listed s ρ a w hl hsz hli hops hsort hpair hobl hcl hruns hF hS hρ;have hl0:l=[]:=List.length_eq_zero_iff.1 hl;subst hl0;refine⟨?_,hQ ρ a w ?_ hρ⟩
  ·refine List.eq_nil_iff_forall_not_mem.2 λj hj=>?_
   rw[mem_ready]at hj;obtain⟨h1,o,ho,_⟩:=hj
   have hlt:j<ops.length:=by
    have:=(Array.getElem?_eq_some_iff.1 ho).1;simpa using this
   have:=hli j hlt;simp[Array.getD_eq_getD_getElem?,this]at h1
  ·exact⟨hS.h.lookEq λn=>(hF.2 n).symm,{hS.s with
    bd:=λt v hv=>hS.s.bd t v (by rw[<-hv];exact hF.1 t)
    val:=λt v hv=>hS.s.val t v (by rw[<-hv];exact hF.1 t)}⟩
 | succ fuel ih =>
  intro l listed s ρ a w hl hsz hli hops hsort hpair hobl hcl hruns hF hS hρ
  have pend:∀ j,j<ops.length->(listed.getD j true=false↔∃ x∈l,x.1=j):=by
   intro j hj;simp[Array.getD_eq_getD_getElem?,hli j hj]
  have isl:∀ j,listed.getD j false=true↔(j<ops.length/\¬∃ x∈l,x.1=j):=by
   intro j;by_cases hj:j<ops.length
   ·simp[Array.getD_eq_getD_getElem?,hli j hj,hj]
   ·have:listed[j]? = none:=Array.getElem?_eq_none (by omega);simp[Array.getD_eq_getD_getElem?,this,hj]
  refine⟨λhre=>?_,λi hi=>?_⟩
  ·exfalso
   match l,hl with
   | x :: r,hl =>
    have hox:=hops x (by simp);have hlt:x.1<ops.length:=(List.getElem?_eq_some_iff.1 hox).1
    have hmem:x.1∈Region.ready .any ops.toArray listed:=by
     rw[mem_ready];refine⟨(pend x.1 hlt).2 ⟨x,by simp,rfl⟩,x.2.1,by simpa using hox,λe he hbe=>?_⟩;have h1:=hb x.1 x.2.1 hox e he hbe;rw[isl];refine⟨by omega,λ⟨y,hy,hye⟩=>?_⟩;rcases List.mem_cons.1 hy with rfl|hy
     ·omega
     ·have:=(List.pairwise_cons.1 hsort).1 y hy;omega
    rw[hre]at hmem;cases hmem
  ·rw[mem_ready]at hi;obtain⟨h1,o',ho',hedges⟩:=hi
   have hlt:i<ops.length:=by
    have:=(Array.getElem?_eq_some_iff.1 ho').1;simpa using this
   obtain⟨x,hx,hxi⟩:=(pend i hlt).1 h1;have hox:=hops x hx;rw[hxi]at hox;have ho2:ops[i]? = some o':=by simpa using ho'
   rw[ho2]at hox;injection hox with hox
   obtain⟨i',o,e⟩:=x;simp only at hxi hox;subst hxi hox;obtain⟨pre,post,rfl⟩:=List.append_of_mem hx
   have hind:∀ y∈pre,a4M ops y.2.1 o' y.2.2 e:=by
    intro y hy;have hp:=(List.pairwise_append.1 hpair).2.2 y hy (i',o',e) (by simp);rcases hp with hp|hp
    ·exfalso;have:=a3J (ops:=ops) (L:=λj=>listed.getD j false=true) hcl i' o' ho2 hedges y.1 hp;rw[isl]at this;exact this.2 ⟨y,by simp[hy],rfl⟩
    ·exact hp
   obtain⟨h2,h3,h4⟩:=b7W hG.Γ hruns hind
   have hsub:∀ y∈pre++post,y∈pre++(i',o',e) :: post:=by
    intro y hy;rcases List.mem_append.1 hy with hy|hy <;> simp[hy]
   have hne:∀ y∈pre++post,y.1≠i':=by
    intro y hy;have hs:=List.pairwise_append.1 hsort;rcases List.mem_append.1 hy with hy|hy
    ·exact Nat.ne_of_lt (hs.2.2 y hy (i',o',e) (by simp))
    ·exact Nat.ne_of_gt ((List.pairwise_cons.1 hs.2.1).1 y hy)
   have hsublist:(pre++post).Sublist (pre++(i',o',e) :: post):=by
    refine List.Sublist.append (List.Sublist.refl _) (List.sublist_cons_self _ _)
   unfold wpOp;rw[ho'];refine c5w hG (l:=pre++(i',o',e) :: post) (l':=pre++post) (M:=ops.length) h2 (hobl _ hx) hS hx hlt hsub hne λρ' a' w' hS' hρ'=>?_
   refine ih (pre++post) _ _ ρ' a' w' ?_ ?_ ?_ (λy hy=>hops y (hsub y hy)) (hsort.sublist hsublist) (hpair.sublist hsublist) (λy hy=>hobl y (hsub y hy)) ?_ h3 (hF.trans h4) hS' ?_
   ·simp only[List.length_append,List.length_cons]at hl ⊢;omega
   ·simpa using hsz
   ·intro j hj;by_cases hji:i'=j
    ·subst hji;rw[Array.getElem?_setIfInBounds_self_of_lt (by omega)];congr 1;have:¬∃ y∈pre++post,y.1=i':=λ⟨y,hy,hye⟩=>hne y hy hye
     rw[decide_eq_false this];rfl
    ·rw[Array.getElem?_setIfInBounds_ne hji,hli j hj];congr 2
     apply decide_eq_decide.2
     constructor
     ·rintro⟨y,hy,hye⟩;rcases List.mem_append.1 hy with hy|hy
      ·exact⟨y,by simp[hy],hye⟩
      ·rcases List.mem_cons.1 hy with rfl|hy
       ·exact absurd hye hji
       ·exact⟨y,by simp[hy],hye⟩
     ·rintro⟨y,hy,hye⟩;exact⟨y,hsub y hy,hye⟩
   ·intro k ok hok hk e' he' hb';by_cases hki:i'=k
    ·subst hki;rw[ho2]at hok;injection hok with hok
     subst hok;exact getD_set_true (hedges e' he' hb')
    ·rw[getD_set_ne false hki]at hk;exact getD_set_true (hcl k ok hok hk e' he' hb')
   ·intro n hn
    have hu:UD N ops.length (pre++(i',o',e) :: post) n:=by
     have hnN:n<N:=Nat.lt_of_lt_of_le hn hN0;refine⟨Nat.lt_of_lt_of_le hnN (Nat.le_add_right _ _),λy _ hy=>?_⟩;have h5:N+24*y.1<=n:=hy.1;have h6:N<=n:=Nat.le_trans (Nat.le_add_right _ _) h5;exact absurd hnN (Nat.not_lt.2 h6)
    exact(hρ' n hu).trans (hρ n hn)
end
inductive DR where
 | done (s:AS) (log:List Ent)
 | need (j:Nat) (b:Bool)
 | fail
def c4Y(ops:List Oper)(o:Oper)(s:AS):DR :=
 match o.guard with
 | some (j,_)=>match a5c ops j with
  | some d=>match slot s.1 d with
   | some (.bool b)=>.need j b
   | _=>.fail
  | none=>.fail
 | none=>.fail
def b4C(G:Ctx)(nt N:Nat)(ops:List Oper)(dec:List (Nat×Bool)):List Oper->Nat->AS->DR
 | [],_,s=>.done s []
 | o :: r,i,s=>match a1d G nt N ops dec i o s with
  | some e=>match b4C G nt N ops dec r (i+1) (E6 o e s)with
   | .done s' log=>.done s' ((i,o,e) :: log)
   | x=>x
  | none=>c4Y ops o s
def b1a:List Ent->Prop->Prop
 | [],q=>q
 | (_,_,e) :: r,q=>okK e.obl (b1a r q)
theorem F8:∀ {l:List Ent} {q:Prop},b1a l q->b2I l/\q
 | [],_,h=>⟨trivial,h⟩
 | (_,_,_) :: _,_,h=>⟨⟨(W2 h).1,(F8 (W2 h).2).1⟩,(F8 (W2 h).2).2⟩
def b2e(G:Ctx)(ops:List Oper)(S:St)(K:St->Prop):Nat->List (Nat×Bool)->Prop
 | fuel,dec=>match b4C G S.nt S.N ops dec ops 0 (S.sl,S.H)with
  | .done s log=>b1a log (chk ops log=true/\K {nt:=S.nt,sl:=s.1,H:=s.2,N:=S.N+24*ops.length})
  | .need j b=>match fuel with
   | 0=>False
   | f+1=>(b=true->b2e G ops S K f ((j,true) :: dec))/\(b=false->b2e G ops S K f ((j,false) :: dec))
  | .fail=>False
section
variable {P:Program} {W0:World} {Fr:Nat->Prop} {G:Ctx}
theorem a4j{nt N:Nat}{ops:List Oper}{dec:List (Nat×Bool)}:∀(l:List Oper)(k:Nat)(s s':AS)(log:List Ent),(∀ j,l[j]? = ops[k+j]?)->b4C G nt N ops dec l k s=.done s' log->
  a7c G nt N ops dec log s/\fin log s=s'/\(∀ x∈log,ops[x.1]? = some x.2.1/\k<=x.1/\x.1<k+l.length)/\log.Pairwise (λx y=>x.1<y.1)/\(∀ j,k<=j->j<k+l.length->∃ x∈log,x.1=j)/\log.length=l.length
 | [],k,s,s',log,_,h=>by
  simp only[b4C,DR.done.injEq]at h;obtain⟨rfl,rfl⟩:=h;exact⟨trivial,rfl,by simp, .nil,λj h1 h2=>by simp at h2;omega,rfl⟩
 | o :: r,k,s,s',log,hl,h=>by
  have ho:ops[k]? = some o:=by simpa using (hl 0).symm
  simp only[b4C]at h;split at h
  ·rename_i e he;split at h
   ·rename_i s1 log1 h1;simp only[DR.done.injEq]at h;obtain⟨rfl,rfl⟩:=h
    obtain⟨h2,h3,h4,h5,h6,h7⟩:=a4j r (k+1) _ _ _ (λj=>by
     have:=hl (j+1);simp only[List.getElem?_cons_succ]at this
     rw[this];congr 1;omega) h1
    refine⟨⟨he,h2⟩,h3,?_,?_,?_,by simp[h7]⟩
    ·intro x hx;rcases List.mem_cons.1 hx with rfl|hx
     ·exact⟨ho,Nat.le_refl _,by simp⟩
     ·obtain⟨h8,h9,h10⟩:=h4 x hx;exact⟨h8,by omega,by simp;omega⟩
    ·refine .cons (λx hx=>?_) h5;have:=(h4 x hx).2.1;show k<x.1;omega
    ·intro j hj1 hj2;by_cases hjk:j=k
     ·exact⟨(k,o,e),by simp,hjk.symm⟩
     ·obtain⟨x,hx,hxj⟩:=h6 j (by omega) (by simp at hj2;omega);exact⟨x,by simp[hx],hxj⟩
   ·rename_i x hno
    cases hx:b4C G nt N ops dec r (k+1) (E6 o e s)with
    | done s1 log1=>exact absurd hx (hno s1 log1)
    | need j b=>rw[hx]at h;cases h
    | fail=>rw[hx]at h;cases h
  ·unfold c4Y at h;split at h
   ·split at h
    ·split at h <;> cases h
    ·cases h
   ·cases h
theorem b1y(hG:A5 P G)(hm:P.follows .mixedOrders=true){N0:Nat}{ρ0:Rho}{id:Nat}{ops:Array Oper}{S:St}{K:St->Prop}{Q:Exit->Act->World->Prop}:∀(fuel:Nat)(dec:List (Nat×Bool)),b2e G ops.toList S K fuel dec->
  ∀ {ρ:Rho} {a:Act} {w:World},Sat W0 Fr S ρ a w->N0<=S.N->(∀ n,n<N0->ρ n=ρ0 n)->a1U W0 Fr N0 ρ0 K (Q .normal)->(Code.region id ops true).wp P Q a w:=by
 intro fuel
 induction fuel with
 | zero =>
  intro dec h;unfold b2e at h;split at h
  ·rename_i s log hrun;intro ρ a w hS hN hρ hK;obtain⟨hobl,hchk,hq⟩:=F8 h;simp only[chk,bA9]at hchk;obtain⟨h2,h3,h4,h5,h6,h7⟩:=a4j ops.toList 0 _ _ _ (λj=>by simp) hrun;refine wp_region_any hm ?_;have:=a8p (Q:=Q) (W0:=W0) (Fr:=Fr) (F:=s) (ρ0:=ρ0) hG hchk.1 hN (λρ' a' w' hS' hρ'=>?_) log.length log (Array.replicate ops.size false) (S.sl,S.H) ρ a {w with drawn:=w.drawn+1} rfl (by simp) ?_ (λx hx=>(h4 x hx).1) h5 (S8 hchk.2) (S0 hobl) ?_ h2 ?_ ?_ hρ
   ·rw[h7]at this;simpa using this
   ·refine hK _ ρ' a' w' hq ⟨?_,?_⟩ ?_ hρ'
    ·exact hS'.h.mono λn hn=>hn.1
    ·exact hS'.s.mono (λn hn=>hn.1) (λ_ _=>rfl)
    ·exact Nat.le_trans hN (Nat.le_add_right _ _)
   ·intro j hj;have hj':j<ops.size:=by simpa using hj
    obtain⟨x,hx,hxj⟩:=h6 j (Nat.zero_le _) (by simpa using hj);have:∃ x∈log,x.1=j:=⟨x,hx,hxj⟩;simp[hj',this]
   ·intro i o _ hl;rw[Array.getD_eq_getD_getElem?,Array.getElem?_replicate]at hl;split at hl <;> simp at hl
   ·rw[h3];exact S5.refl _
   ·have hU:∀ n,n<S.N->UD S.N ops.toList.length log n:=λn hn=>⟨Nat.lt_of_lt_of_le hn (Nat.le_add_right _ _),λx _ hx=>absurd (Nat.lt_of_lt_of_le hn (Nat.le_trans (Nat.le_add_right _ _) hx.1)) (Nat.lt_irrefl _)⟩
    exact⟨(hS.h.mono hU).drew,hS.s.mono hU (λ_ _=>rfl)⟩
  ·exact h.elim
  ·exact h.elim
 | succ fuel ih =>
  intro dec h;unfold b2e at h;split at h
  ·rename_i s log hrun;intro ρ a w hS hN hρ hK;obtain⟨hobl,hchk,hq⟩:=F8 h;simp only[chk,bA9]at hchk;obtain⟨h2,h3,h4,h5,h6,h7⟩:=a4j ops.toList 0 _ _ _ (λj=>by simp) hrun;refine wp_region_any hm ?_;have:=a8p (Q:=Q) (W0:=W0) (Fr:=Fr) (F:=s) (ρ0:=ρ0) hG hchk.1 hN (λρ' a' w' hS' hρ'=>?_) log.length log (Array.replicate ops.size false) (S.sl,S.H) ρ a {w with drawn:=w.drawn+1} rfl (by simp) ?_ (λx hx=>(h4 x hx).1) h5 (S8 hchk.2) (S0 hobl) ?_ h2 ?_ ?_ hρ
   ·rw[h7]at this;simpa using this
   ·refine hK _ ρ' a' w' hq ⟨?_,?_⟩ ?_ hρ'
    ·exact hS'.h.mono λn hn=>hn.1
    ·exact hS'.s.mono (λn hn=>hn.1) (λ_ _=>rfl)
    ·exact Nat.le_trans hN (Nat.le_add_right _ _)
   ·intro j hj;have hj':j<ops.size:=by simpa using hj
    obtain⟨x,hx,hxj⟩:=h6 j (Nat.zero_le _) (by simpa using hj);have:∃ x∈log,x.1=j:=⟨x,hx,hxj⟩;simp[hj',this]
   ·intro i o _ hl;rw[Array.getD_eq_getD_getElem?,Array.getElem?_replicate]at hl;split at hl <;> simp at hl
   ·rw[h3];exact S5.refl _
   ·have hU:∀ n,n<S.N->UD S.N ops.toList.length log n:=λn hn=>⟨Nat.lt_of_lt_of_le hn (Nat.le_add_right _ _),λx _ hx=>absurd (Nat.lt_of_lt_of_le hn (Nat.le_trans (Nat.le_add_right _ _) hx.1)) (Nat.lt_irrefl _)⟩
    exact⟨(hS.h.mono hU).drew,hS.s.mono hU (λ_ _=>rfl)⟩
  ·rename_i j b hrun;intro ρ a w hS hN hρ hK
   cases b with
   | true=>exact ih _ (h.1 rfl) hS hN hρ hK
   | false=>exact ih _ (h.2 rfl) hS hN hρ hK
  ·exact h.elim
end
inductive Xt where
 | normal
 | exit (id:Nat)
 | ret
def B6(N0:Nat)(S S':St):Prop :=
 N0<=S'.N/\∀ W0 Fr ρ a w,Sat W0 Fr S ρ a w->∃ ρ',Sat W0 Fr S' ρ' a w/\∀ n,n<N0->ρ' n=ρ n
structure b6a (N0:Nat) (body:St->(Xt->St->Prop)->Prop) (S:St) (K:Xt->St->Prop):Prop where
 ex:∃(ι:Type)(I:ι->St)(μ:ι->Nat)(i0:ι),B6 N0 S (I i0)/\
  ∀ i,body (I i) (λe S'=>match e with
   | .normal=>∃ i',μ i'<μ i/\B6 N0 S' (I i')
   | e=>K e S')
def a0Q(G:Ctx)(N0:Nat):Code->St->(Xt->St->Prop)->Prop
 | .skip,S,K=>K .normal S
 | .region _ ops draw,S,K=>match draw with
  | false=>a9k G ops.toList ops.toList S (K .normal)
  | true=>b2e G ops.toList S (K .normal) 20 []
 | .seq x y,S,K=>a0Q G N0 x S (λe S'=>match e with
  | .normal=>a0Q G N0 y S' K
  | e=>K e S')
 | .cond c x y,S,K=>match opr S.sl c with
  | some .tt=>a0Q G N0 x S K
  | some .ff=>a0Q G N0 y S K
  | some (.bool b)=>(b=true->a0Q G N0 x S K)/\(b=false->a0Q G N0 y S K)
  | _=>False
 | .block id x,S,K=>a0Q G N0 x S (λe S'=>match e with
  | .exit j=>match Nat.beq j id with
   | true=>K .normal S'
   | false=>K (.exit j) S'
  | e=>K e S')
 | .exit id,S,K=>K (.exit id) S
 | .ret,S,K=>K .ret S
 | .loop x,S,K=>b6a N0 (a0Q G N0 x) S K
 | _,_,_=>False
section
variable {P:Program} {W0:World} {Fr:Nat->Prop} {G:Ctx}
def b7O(W0:World)(Fr:Nat->Prop)(N0:Nat)(ρ0:Rho)(K:Xt->St->Prop)(Q:Exit->Act->World->Prop):Prop :=
 ∀ e S' ρ' a' w',K e S'->Sat W0 Fr S' ρ' a' w'->N0<=S'.N->(∀ n,n<N0->ρ' n=ρ0 n)->
  match e with
  | .normal=>Q .normal a' w'
  | .exit id=>Q (.exit id) a' w'
  | .ret=>Q .ret a' w'
theorem a0g{Q:Exit->Act->World->Prop}{c:Code}{ι:Type}(J:ι->Act->World->Prop)(μ:ι->Nat)
  (round:∀ i a w,J i a w->c.wp P (Exit.then (λa' w'=>∃ i',J i' a' w'/\μ i'<μ i) Q) a w) {i0:ι} {a:Act} {w:World} (h0:J i0 a w):(Code.loop c).wp P Q a w:=by
 classical
 have least:∀ a w,(∃ i,J i a w)->∃ i,J i a w/\∀ j,J j a w->μ i<=μ j:=by
  intro a w ⟨i,hi⟩
  have key:∀ n (i:ι),J i a w->μ i=n->∃ i,J i a w/\∀ j,J j a w->μ i<=μ j:=by
   intro n
   induction n using Nat.strongRecOn with
   | _ n ih =>
    intro i hi hn;by_cases h:∃ j,J j a w/\μ j<μ i
    ·obtain⟨j,hj,hlt⟩:=h;exact ih (μ j) (hn▸hlt) j hj rfl
    ·exact⟨i,hi,λj hj=>Nat.le_of_not_lt λhlt=>h ⟨j,hj,hlt⟩⟩
  exact key _ i hi rfl
 let m:Act->World->Nat:=λa w=>if h:∃ i,J i a w then μ (Classical.choose (least a w h))else 0
 refine wp_loop (λa w=>∃ i,J i a w) m ⟨i0,h0⟩ λa w hI=>?_
 obtain⟨h1,h2⟩:=Classical.choose_spec (least a w hI);refine wp_mono (round _ a w h1) λe a' w' hq=>?_
 cases e with
 | normal =>
  obtain⟨i',hi',hlt⟩:=hq;refine⟨⟨i',hi'⟩,?_⟩;have hI':∃ i,J i a' w':=⟨i',hi'⟩;obtain⟨h3,h4⟩:=Classical.choose_spec (least a' w' hI');show m a' w'<m a w;simp only[m,dif_pos hI',dif_pos hI];exact Nat.lt_of_le_of_lt (h4 i' hi') hlt
 | exit id=>exact hq
 | goto l=>exact hq
 | ret=>exact hq
 | panic ch=>exact hq
 | outgrown=>exact hq
theorem a6j(hG:A5 P G){N0:Nat}{ρ0:Rho}:∀(c:Code) {S:St} {ρ:Rho} {a:Act} {w:World} {K:Xt->St->Prop} {Q:Exit->Act->World->Prop},a0Q G N0 c S K->Sat W0 Fr S ρ a w->N0<=S.N->
  (∀ n,n<N0->ρ n=ρ0 n)->b7O W0 Fr N0 ρ0 K Q->c.wp P Q a w:=by
 intro c
 induction c with
 | skip=>intro S ρ a w K Q h hS hN hρ hK;exact wp_skip (hK .normal S ρ a w h hS hN hρ)
 | region id ops draw =>
  intro S ρ a w K Q h hS hN hρ hK
  cases draw with
  | false =>
   simp only[a0Q]at h;refine wp_region ?_;have:=a3h hG (Q:=Q) ops.toList 0 (λj=>by simp) h hS hN hρ (λS' ρ' a' w' h' hS' hN' hρ'=>hK .normal S' ρ' a' w' h' hS' hN' hρ');rw[List.range_eq_range'];simpa using this
  | true =>
   simp only[a0Q]at h;exact b1y hG hG.mix 20 [] h hS hN hρ (λS' ρ' a' w' h' hS' hN' hρ'=>hK .normal S' ρ' a' w' h' hS' hN' hρ')
 | seq x y ihx ihy =>
  intro S ρ a w K Q h hS hN hρ hK;simp only[a0Q]at h;refine wp_seq (ihx h hS hN hρ λe S' ρ' a' w' h' hS' hN' hρ'=>?_)
  cases e with
  | normal=>exact ihy h' hS' hN' hρ' hK
  | exit id=>exact hK (.exit id) S' ρ' a' w' h' hS' hN' hρ'
  | ret=>exact hK .ret S' ρ' a' w' h' hS' hN' hρ'
 | cond c x y ihx ihy =>
  intro S ρ a w K Q h hS hN hρ hK;simp only[a0Q]at h;split at h
  ·rename_i hv;exact wp_cond_true (by simpa [SV.den]using (I2 hS.s hv).1) (ihx h hS hN hρ hK)
  ·rename_i hv;exact wp_cond_false (by simpa [SV.den]using (I2 hS.s hv).1) (ihy h hS hN hρ hK)
  ·rename_i b hv;have hb:=(I2 hS.s hv).1;simp only[SV.den]at hb;exact wp_cond_split hb (λe=>ihx (h.1 e) hS hN hρ hK) (λe=>ihy (h.2 e) hS hN hρ hK)
  ·exact h.elim
 | block id x ih =>
  intro S ρ a w K Q h hS hN hρ hK;simp only[a0Q]at h;refine wp_block (ih h hS hN hρ λe S' ρ' a' w' h' hS' hN' hρ'=>?_)
  cases e with
  | normal=>exact hK .normal S' ρ' a' w' h' hS' hN' hρ'
  | ret=>exact hK .ret S' ρ' a' w' h' hS' hN' hρ'
  | exit j =>
   simp only at h';simp only[Exit.inBlock];split at h'
   ·rename_i hj;rw[if_pos (eB9 hj)];exact hK .normal S' ρ' a' w' h' hS' hN' hρ'
   ·rename_i hj;rw[if_neg (λe=>by subst e;simp at hj)];exact hK (.exit j) S' ρ' a' w' h' hS' hN' hρ'
 | exit id=>intro S ρ a w K Q h hS hN hρ hK;exact wp_exit (hK (.exit id) S ρ a w h hS hN hρ)
 | ret=>intro S ρ a w K Q h hS hN hρ hK;exact wp_ret (hK .ret S ρ a w h hS hN hρ)
 | loop x ih =>
  intro S ρ a w K Q h hS hN hρ hK;simp only[a0Q]at h;obtain⟨ι,I,μ,i0,h0,hr⟩:=h.ex
  have a7b:∀ {S1:St} {i:ι},B6 N0 S1 (I i)->∀ {ρ1 a1 w1},Sat W0 Fr S1 ρ1 a1 w1->(∀ n,n<N0->ρ1 n=ρ0 n)->
    ∃ ρ',Sat W0 Fr (I i) ρ' a1 w1/\N0<=(I i).N/\∀ n,n<N0->ρ' n=ρ0 n:=by
   intro S1 i hR ρ1 a1 w1 hS1 hρ1;obtain⟨ρ',h1,h2⟩:=hR.2 W0 Fr ρ1 a1 w1 hS1;exact⟨ρ',h1,hR.1,λn hn=>(h2 n hn).trans (hρ1 n hn)⟩
  refine a0g (λi a w=>∃ ρ',Sat W0 Fr (I i) ρ' a w/\N0<=(I i).N/\∀ n,n<N0->ρ' n=ρ0 n) μ ?_ (a7b h0 hS hρ);rintro i a1 w1 ⟨ρ1,hS1,hN1,hρ1⟩;refine ih (hr i) hS1 hN1 hρ1 λe S' ρ' a' w' h' hS' hN' hρ'=>?_
  cases e with
  | normal =>
   obtain⟨i',hlt,hR⟩:=h';exact⟨i',a7b hR hS' hρ',hlt⟩
  | exit id=>exact hK (.exit id) S' ρ' a' w' h' hS' hN' hρ'
  | ret=>exact hK .ret S' ρ' a' w' h' hS' hN' hρ'
 | _=>intro S ρ a w K Q h;exact(h:False).elim
def b9j(T:Tys)(S:St):ResultVar->Option (SV×Option Prop)
 | .tmp t=>match slot S.sl t with
  | some v=>some (v,none)
  | none=>none
 | .cell a t=>match slot S.sl a with
  | some (.ptr n i)=>match ty T t with
   | some ti=>match Nat.ble 1 ti.size with
    | true=>match look S.H n with
     | some ob=>a9n ti ob.c i
     | none=>none
    | false=>none
   | none=>none
  | _=>none
def b4E(T:Tys)(S:St):List ResultVar->Option (List SV×Option Prop)
 | []=>some ([],none)
 | x :: r=>match b9j T S x with
  | some (v,p)=>match b4E T S r with
   | some (vs,q)=>some (v :: vs,match p,q with
    | none,q=>q
    | p,none=>p
    | some p,some q=>some (p/\q))
   | none=>none
  | none=>none
def a9G(vs:List SV):SV :=
 match vs with
 | [v]=>v
 | vs=>.tup vs
def a7z(a:Array Value):ResultVar->Sem Value
 | .tmp t=>pure (a.getD t undef)
 | .cell a' t=>do loadVar t (<-asAddr (a.getD a' undef))
theorem b2C(fn:Func)(a:Array Value):results fn a=(do
  let vs <-fn.results.mapM (a7z a)
  pure (if h:vs.size=1 then vs[0]else .tuple vs)):=by
 unfold results;congr 1
theorem b2J{T:Tys}(hT:TysOk P T){S:St}{ρ:Rho}{a:Act}{w:World}(hS:Sat W0 Fr S ρ a w){x:ResultVar}{v:SV}{p:Option Prop}(h:b9j T S x=some (v,p))(hp:okP p) :
  (a7z a.tmps x).run P w=.ok (v.den ρ) w/\v.bd (·< S.N):=by
 cases x with
 | tmp t =>
  simp only[b9j]at h;split at h
  ·rename_i u hu;simp only[oI9,pI9]at h;obtain⟨rfl,rfl⟩:=h;have:=hS.s.val _ _ hu;exact⟨by simp[a7z,Array.getD_eq_getD_getElem?,this],hS.s.bd _ _ hu⟩
  ·cases h
 | cell a' t =>
  simp only[b9j]at h;split at h
  ·rename_i n i hn;split at h
   ·rename_i ti hti;split at h
    ·rename_i hsz;split at h
     ·rename_i ob hob;obtain⟨h1,h2⟩:=a3a (hT t ti hti) hS.h hob h hp (λ_=>Nat.le_of_ble_eq_true hsz);refine⟨?_,h2⟩;have hv:=hS.s.val _ _ hn;simp only[SV.den]at hv;simp only[a7z,Array.getD_eq_getD_getElem?,hv,Option.getD_some];simp only[Instr.loadAt]at h1;rw[<-h1]
      cases ha:ρ.addr n i with
      | none=>rw[ha]at h1;simp[Instr.sureAddr]at h1
      | some ad=>simp[Instr.sureAddr,asAddr]
     ·cases h
    ·cases h
   ·cases h
  ·cases h
theorem a6z{T:Tys}(hT:TysOk P T){S:St}{ρ:Rho}{a:Act}{w:World}(hS:Sat W0 Fr S ρ a w):∀ {xs:List ResultVar} {vs:List SV} {p:Option Prop},b4E T S xs=some (vs,p)->okP p->
  (xs.mapM (a7z a.tmps)).run P w=.ok (w5 ρ vs) w/\bdL (·< S.N) vs
 | [],vs,p,h,hp=>by
  simp only[b4E,oI9,pI9]at h;obtain⟨rfl,rfl⟩:=h;simp[w5,bdL]
 | x :: r,vs,p,h,hp=>by
  simp only[b4E]at h;split at h
  ·rename_i v p1 h1;split at h
   ·rename_i us q h2;simp only[oI9,pI9]at h;obtain⟨rfl,rfl⟩:=h
    have hpq:okP p1/\okP q:=by
     cases p1 <;> cases q <;> first|exact⟨trivial,trivial⟩|exact⟨trivial,hp⟩|exact⟨hp,trivial⟩|exact hp
    obtain⟨h3,h4⟩:=b2J hT hS h1 hpq.1;obtain⟨h5,h6⟩:=a6z hT hS h2 hpq.2;refine⟨?_,h4,h6⟩;simp only[List.mapM_cons,Sem.run_bind,h3,h5,Result.andThen_ok,Sem.run_pure,w5]
   ·cases h
  ·cases h
theorem a2K{T:Tys}(hT:TysOk P T){S:St}{ρ:Rho}{a:Act}{w:World}(hS:Sat W0 Fr S ρ a w){fn:Func}{vs:List SV}{p:Option Prop}(h:b4E T S fn.results.toList=some (vs,p))(hp:okP p) :
  (results fn a.tmps).run P w=.ok ((a9G vs).den ρ) w/\(a9G vs).bd (·< S.N):=by
 obtain⟨h1,h2⟩:=a6z hT hS h hp
 have h3:(fn.results.mapM (a7z a.tmps)).run P w=.ok (w5 ρ vs).toArray w:=by
  rw[<-Array.toArray_toList (xs:=fn.results),List.mapM_toArray];simp only[Sem.run_map,h1,Result.andThen_ok]
 rw[b2C];simp only[Sem.run_bind];rw[h3];simp only[Result.andThen_ok,Sem.run_pure]
 match vs with
 | [v]=>exact⟨by simp[w5,a9G],by simpa [a9G,bdL]using h2⟩
 | []=>exact⟨by simp[w5,a9G,SV.den],by simp[a9G,SV.bd,bdL]⟩
 | v :: u :: r=>exact⟨by simp[w5,a9G,SV.den],by simpa [a9G,SV.bd]using h2⟩
end
mutual
def eqv:SV->SV->Prop
 | .tt, .tt=>True
 | .ff, .ff=>True
 | .tt, .bool b=>b=true
 | .ff, .bool b=>b=false
 | .bool b, .tt=>b=true
 | .bool b, .ff=>b=false
 | .bool a, .bool b=>a=b
 | .int k a, .int k' b=>match kEq k k' with
  | true=>a=b
  | false=>False
 | .flt k a, .flt k' b=>match a4u k k' with
  | true=>a=b
  | false=>False
 | .str a, .str b=>a=b
 | .ptr n o, .ptr n' o'=>match Nat.beq n n' with
  | true=>o=o'
  | false=>False
 | .nilp, .nilp=>True
 | .slc n o l c, .slc n' o' l' c'=>match Nat.beq n n' with
  | true=>o=o'/\l=l'/\c=c'
  | false=>False
 | .nils, .nils=>True
 | .slcc n l, .slcc n' l'=>match Nat.beq n n' with
  | true=>l=l'
  | false=>False
 | .agg a, .agg b=>a2J a b
 | .tup a, .tup b=>a2J a b
 | .ifc t v, .ifc t' v'=>match Nat.beq t t' with
  | true=>eqv v v'
  | false=>False
 | .nili, .nili=>True
 | .fn f a c, .fn f' a' c'=>f=f'/\a2J a a'/\a2J c c'
 | .nilf, .nilf=>True
 | _,_=>False
def a2J:List SV->List SV->Prop
 | [],[]=>True
 | x :: xs,y :: ys=>eqv x y/\a2J xs ys
 | _,_=>False
end
mutual
theorem a5u(ρ:Rho):∀(x y:SV),eqv x y->x.den ρ=y.den ρ
 | .slcc n l,y,h=>by
  cases y <;> simp only[eqv]at h
  split at h
  ·rename_i ht;have:=eB9 ht;subst this;simp[SV.den,h]
  ·exact h.elim
 | .agg a,y,h=>by cases y <;> simp only[eqv]at h;simp[SV.den,a1V ρ a _ h]
 | .tup a,y,h=>by cases y <;> simp only[eqv]at h;simp[SV.den,a1V ρ a _ h]
 | .ifc t v,y,h=>by
  cases y <;> simp only[eqv]at h
  split at h
  ·rename_i ht;have:=eB9 ht;subst this;simp[SV.den,a5u ρ v _ h]
  ·exact h.elim
 | .fn f a c,y,h=>by
  cases y <;> simp only[eqv]at h
  obtain⟨rfl,h1,h2⟩:=h;simp[SV.den,a1V ρ a _ h1,a1V ρ c _ h2]
 | .int k a,y,h=>by
  cases y <;> simp only[eqv]at h
  split at h
  ·rename_i ht;have:=a0j ht;subst this;simp[SV.den,h]
  ·exact h.elim
 | .flt k a,y,h=>by
  cases y <;> simp only[eqv]at h
  split at h
  ·rename_i ht;have:=Q5 ht;subst this;simp[SV.den,h]
  ·exact h.elim
 | .ptr n o,y,h=>by
  cases y <;> simp only[eqv]at h
  split at h
  ·rename_i ht;have:=eB9 ht;subst this;simp[SV.den,h]
  ·exact h.elim
 | .slc n o l c,y,h=>by
  cases y <;> simp only[eqv]at h
  split at h
  ·rename_i ht;have:=eB9 ht;subst this;simp[SV.den,h]
  ·exact h.elim
 | .tt,y,h | .ff,y,h | .bool _,y,h | .str _,y,h | .nilp,y,h | .nils,y,h | .nili,y,h | .nilf,y,h | .sla _ _ _,y,h=>by
  cases y <;> simp_all[eqv,SV.den]
theorem a1V(ρ:Rho):∀(x y:List SV),a2J x y->w5 ρ x=w5 ρ y
 | [],y,h=>by cases y <;> simp_all[a2J]
 | x :: r,y,h=>by
  cases y with
  | nil=>simp[a2J]at h
  | cons u s=>simp only[a2J]at h;simp[w5,a5u ρ x u h.1,a1V ρ r s h.2]
end
def a6m:Nat->List SV->Slots
 | _,[]=>[]
 | i,v :: r=>(i,v) :: a6m (i+1) r
theorem a1Y:∀(l:List SV)(i t:Nat),slot (a6m i l) t=if i<=t then l[t-i]? else none
 | [],i,t=>by simp[a6m,slot]
 | v :: r,i,t=>by
  simp only[a6m,G4,a1Y r (i+1) t];by_cases h:i=t
  ·subst h;simp
  ·rw[if_neg h];by_cases h2:i<=t
   ·rw[if_pos h2,if_pos (by omega)];rw[show t-i=(t-(i+1))+1 by omega];simp
   ·rw[if_neg h2,if_neg (by omega)]
def z6(nt:Nat)(args:List SV)(H:z7)(N:Nat):St:={nt:=nt,sl:=a6m 0 args,H:=H,N:=N}
theorem a6v{W0:World}{Fr:Nat->Prop}{nt N:Nat}{args:List SV}{H:z7}{ρ:Rho}{w:World}(hH:HSat W0 Fr (·< N) H ρ w)(hb:bdL (·< N) args)(hl:args.length<=nt) :
  Sat W0 Fr (z6 nt args H N) ρ {tmps:=(w5 ρ args).toArray++Array.replicate (nt-(w5 ρ args).toArray.size) undef,defers:=[]} w where
 h:=hH
 s:={
  nd:=rfl
  size:=by simp[A4,z6];omega
  bd:=λt v hv=>by
   simp only[z6,a1Y,Nat.zero_le,if_true,Nat.sub_zero]at hv;exact(H6 _ _).1 hb v (List.mem_of_getElem? hv)
  val:=λt v hv=>by
   simp only[z6,a1Y,Nat.zero_le,if_true,Nat.sub_zero]at hv;obtain⟨h1,h2⟩:=List.getElem?_eq_some_iff.1 hv
   simp[A4,Array.getElem?_append,h1,h2]}
def a7q(T:Tys)(rs:List ResultVar)(K:St->SV->Prop)(S:St):Prop :=
 match b4E T S rs with
 | some (vs,p)=>okK p (K S (a9G vs))
 | none=>False
def A0(T:Tys)(rs:List ResultVar)(K:St->SV->Prop)(e:Xt)(S:St):Prop :=
 match e with
 | .exit _=>False
 | _=>a7q T rs K S
theorem V1 {P:Program} {G:Ctx} (hG:A5 P G) {f:Nat} {fn:Func} {c:Code} (hf:P.funcs[f]? = some fn) (hb:fn.body=some c) (hnm:(fn.name == "runtime.NumGoroutine")=false) {F:PF}
  (h:∀ args v p,F args=some (v,p)->okP p->v.closed=true/\F3 args=true/\Nat.ble args.length fn.ntmps=true/\
   a0Q G 0 c (z6 fn.ntmps args [] 0) (A0 G.E.T fn.results.toList λ_ v'=>eqv v' v)):F1 P f F:=by
 intro args v p hF hp;obtain⟨h1,h2,h3,h4⟩:=h args v p hF hp;refine⟨h1,λρ w=>.inl ⟨⟨fn,hf,hnm,by rw[hb];rfl⟩,?_⟩⟩;refine calls_of_wp hf hb ?_
 have hH:HSat w (·< w.heap.size) (·< 0) [] ρ w :=
  {os:=rfl,tape:=rfl,output:=rfl,size:=Nat.le_refl _,frlt:=λ_ h=>h,frame:=λ_ _=>rfl
   used:=λn o hn=>by simp[look]at hn
   bd:=λn o hn=>by simp[look]at hn
   obj:=λn o hn=>by simp[look]at hn
   inj:=λn m o o' p q hn=>by simp[look]at hn
   free:=λn o p hn=>by simp[look]at hn
   rawd:=λn o ts D sz F hn=>by simp[look]at hn}
 refine a6j hG (ρ0:=ρ) c h4 (a6v hH (I4 _ _ h2) (Nat.le_of_ble_eq_true h3)) (Nat.zero_le _) (λ_ _=>rfl) ?_;intro e S' ρ' a' w' hK hS hN hρ
 have fin:a7q G.E.T fn.results.toList (λ_ v'=>eqv v' v) S'->a'.defers=[]/\∃ u,(results fn a'.tmps).run P w'=.ok u w'/\(Ending.returned u=.returned (v.den ρ)/\Below w.heap.size w w'):=by
  intro hr;unfold a7q at hr;split at hr
  ·rename_i vs q hvs;obtain⟨hq,he⟩:=W2 hr;obtain⟨h5,h6⟩:=a2K hG.E.T hS hvs hq;refine⟨hS.s.nd,_,h5,?_,⟨hS.h.os,hS.h.tape,hS.h.output,hS.h.size,λk hk=>hS.h.frame k hk⟩⟩;rw[a5u ρ' _ _ he,SV.den_closed ρ ρ' h1]
  ·exact hr.elim
 cases e with
 | normal=>exact fin hK
 | ret=>exact fin hK
 | exit id=>exact hK.elim
end Go.Sx

namespace Go.Proofs.Tryz.Sx
open Go Go.Sx Go.Proofs
set_option maxRecDepth 100000
def ty2:TI:=⟨.int .i64,1,8, .cells [.int .i64 0],[]⟩
theorem ok2:TOk Tryz.prog 2 ty2:=by refine TOk.mk' ?_ ?_ ?_ ?_ ?_ p9 ?_<;>kernel_rfl
def ty3:TI:=⟨.int .i64,1,8, .cells [.int .i64 0],[]⟩
theorem ok3:TOk Tryz.prog 3 ty3:=by refine TOk.mk' ?_ ?_ ?_ ?_ ?_ p9 ?_<;>kernel_rfl
def ty4:TI:=⟨.bool,1,1, .cells [.ff],[]⟩
theorem ok4:TOk Tryz.prog 4 ty4:=by refine TOk.mk' ?_ ?_ ?_ ?_ ?_ p9 ?_<;>kernel_rfl
def ty5:TI:=⟨.int .u8,1,1, .cells [.int .u8 0],[]⟩
theorem ok5:TOk Tryz.prog 5 ty5:=by refine TOk.mk' ?_ ?_ ?_ ?_ ?_ p9 ?_<;>kernel_rfl
def ty6:TI:=⟨.int .u8,1,1, .cells [.int .u8 0],[]⟩
theorem ok6:TOk Tryz.prog 6 ty6:=by refine TOk.mk' ?_ ?_ ?_ ?_ ?_ p9 ?_<;>kernel_rfl
def ty7:TI:=⟨.struct [(0,2),(1,3),(2,4),(3,6)],4,24, .cells [.int .i64 0, .int .i64 0, .ff, .int .u8 0],[]⟩
theorem ok7:TOk Tryz.prog 7 ty7:=by refine TOk.mk' ?_ ?_ ?_ ?_ ?_ p9 ?_<;>kernel_rfl
def ty8:TI:=⟨.struct [(0,2),(1,3),(2,4),(3,6)],4,24, .cells [.int .i64 0, .int .i64 0, .ff, .int .u8 0],[]⟩
theorem ok8:TOk Tryz.prog 8 ty8:=by refine TOk.mk' ?_ ?_ ?_ ?_ ?_ p9 ?_<;>kernel_rfl
def ty9:TI:=⟨.str,1,16, .cells [.str ⟨#[]⟩],[]⟩
theorem ok9:TOk Tryz.prog 9 ty9:=by refine TOk.mk' ?_ ?_ ?_ ?_ ?_ p9 ?_<;>kernel_rfl
def c5P:TI:=⟨.str,1,16, .cells [.str ⟨#[]⟩],[]⟩
theorem c8N:TOk Tryz.prog 10 c5P:=by refine TOk.mk' ?_ ?_ ?_ ?_ ?_ p9 ?_<;>kernel_rfl
def c8c:TI:=⟨.str,1,16, .cells [.str ⟨#[]⟩],[]⟩
theorem c8r:TOk Tryz.prog 11 c8c:=by refine TOk.mk' ?_ ?_ ?_ ?_ ?_ p9 ?_<;>kernel_rfl
def c6L:TI:=⟨.int .u64,1,8, .cells [.int .u64 0],[]⟩
theorem c8s:TOk Tryz.prog 12 c6L:=by refine TOk.mk' ?_ ?_ ?_ ?_ ?_ p9 ?_<;>kernel_rfl
def c5G:TI:=⟨.struct [(0,9),(1,12)],2,24, .cells [.str ⟨#[]⟩, .int .u64 0],[]⟩
theorem c8C:TOk Tryz.prog 13 c5G:=by refine TOk.mk' ?_ ?_ ?_ ?_ ?_ p9 ?_<;>kernel_rfl
def c5T:TI:=⟨.struct [(0,9),(1,12)],2,24, .cells [.str ⟨#[]⟩, .int .u64 0],[]⟩
theorem c8S:TOk Tryz.prog 14 c5T:=by refine TOk.mk' ?_ ?_ ?_ ?_ ?_ p9 ?_<;>kernel_rfl
def c7L:TI:=⟨.ptr 225,1,8, .cells [.nilp],[]⟩
theorem c9I:TOk Tryz.prog 15 c7L:=by refine TOk.mk' ?_ ?_ ?_ ?_ ?_ p9 ?_<;>kernel_rfl
def c6q:TI:=⟨.ptr 228,1,8, .cells [.nilp],[]⟩
theorem c9a:TOk Tryz.prog 16 c6q:=by refine TOk.mk' ?_ ?_ ?_ ?_ ?_ p9 ?_<;>kernel_rfl
def c6S:TI:=⟨.ptr 236,1,8, .cells [.nilp],[]⟩
theorem c9b:TOk Tryz.prog 17 c6S:=by refine TOk.mk' ?_ ?_ ?_ ?_ ?_ p9 ?_<;>kernel_rfl
def c6J:TI:=⟨.struct [(0,17)],1,8, .cells [.nilp],[]⟩
theorem c9G:TOk Tryz.prog 18 c6J:=by refine TOk.mk' ?_ ?_ ?_ ?_ ?_ p9 ?_<;>kernel_rfl
def c7K:TI:=⟨.struct [(0,17)],1,8, .cells [.nilp],[]⟩
theorem c8f:TOk Tryz.prog 19 c7K:=by refine TOk.mk' ?_ ?_ ?_ ?_ ?_ p9 ?_<;>kernel_rfl
def c5Y:TI:=⟨.iface,1,16, .cells [.nili],[]⟩
theorem c9z:TOk Tryz.prog 20 c5Y:=by refine TOk.mk' ?_ ?_ ?_ ?_ ?_ p9 ?_<;>kernel_rfl
def c6n:TI:=⟨.int .i32,1,4, .cells [.int .i32 0],[]⟩
theorem c8i:TOk Tryz.prog 21 c6n:=by refine TOk.mk' ?_ ?_ ?_ ?_ ?_ p9 ?_<;>kernel_rfl
def c7Q:TI:=⟨.struct [(0,2),(1,2)],2,16, .cells [.int .i64 0, .int .i64 0],[]⟩
theorem c9j:TOk Tryz.prog 22 c7Q:=by refine TOk.mk' ?_ ?_ ?_ ?_ ?_ p9 ?_<;>kernel_rfl
def c4J:TI:=⟨.struct [(0,2),(1,2)],2,16, .cells [.int .i64 0, .int .i64 0],[]⟩
theorem d0a:TOk Tryz.prog 23 c4J:=by refine TOk.mk' ?_ ?_ ?_ ?_ ?_ p9 ?_<;>kernel_rfl
def c6B:TI:=⟨.array 2 23,4,32, .cells [.int .i64 0, .int .i64 0, .int .i64 0, .int .i64 0],[]⟩
theorem c8q:TOk Tryz.prog 24 c6B:=by refine TOk.mk' ?_ ?_ ?_ ?_ ?_ p9 ?_<;>kernel_rfl
def c7b:TI:=⟨.slice 23,1,24, .cells [.nils],[]⟩
theorem c9V:TOk Tryz.prog 25 c7b:=by refine TOk.mk' ?_ ?_ ?_ ?_ ?_ p9 ?_<;>kernel_rfl
def c6N:TI:=⟨.slice 28,1,24, .cells [.nils],[]⟩
theorem c9p:TOk Tryz.prog 26 c6N:=by refine TOk.mk' ?_ ?_ ?_ ?_ ?_ p9 ?_<;>kernel_rfl
def c5L:TI:=⟨.struct [(0,2),(1,2)],2,16, .cells [.int .i64 0, .int .i64 0],[]⟩
theorem c8K:TOk Tryz.prog 28 c5L:=by refine TOk.mk' ?_ ?_ ?_ ?_ ?_ p9 ?_<;>kernel_rfl
def c6p:TI:=⟨.array 2 28,4,32, .cells [.int .i64 0, .int .i64 0, .int .i64 0, .int .i64 0],[]⟩
theorem d0d:TOk Tryz.prog 29 c6p:=by refine TOk.mk' ?_ ?_ ?_ ?_ ?_ p9 ?_<;>kernel_rfl
def c5E:TI:=⟨.slice 25,1,24, .cells [.nils],[]⟩
theorem c8Q:TOk Tryz.prog 37 c5E:=by refine TOk.mk' ?_ ?_ ?_ ?_ ?_ p9 ?_<;>kernel_rfl
def c6k:TI:=⟨.struct [(0,2),(1,25),(2,37)],3,56, .cells [.int .i64 0, .nils, .nils],[]⟩
theorem c9k:TOk Tryz.prog 38 c6k:=by refine TOk.mk' ?_ ?_ ?_ ?_ ?_ p9 ?_<;>kernel_rfl
def c5I:TI:=⟨.struct [(0,2),(1,25),(2,37)],3,56, .cells [.int .i64 0, .nils, .nils],[]⟩
theorem c8m:TOk Tryz.prog 39 c5I:=by refine TOk.mk' ?_ ?_ ?_ ?_ ?_ p9 ?_<;>kernel_rfl
def c7p:TI:=⟨.struct [(0,25),(1,4),(2,2),(3,2),(4,2),(5,24)],9,88, .cells [.nils, .ff, .int .i64 0, .int .i64 0, .int .i64 0, .int .i64 0, .int .i64 0, .int .i64 0, .int .i64 0],[]⟩
theorem c8n:TOk Tryz.prog 47 c7p:=by refine TOk.mk' ?_ ?_ ?_ ?_ ?_ p9 ?_<;>kernel_rfl
def c5W:TI:=⟨.struct [(0,25),(1,4),(2,2),(3,2),(4,2),(5,24)],9,88, .cells [.nils, .ff, .int .i64 0, .int .i64 0, .int .i64 0, .int .i64 0, .int .i64 0, .int .i64 0, .int .i64 0],[]⟩
theorem c9D:TOk Tryz.prog 48 c5W:=by refine TOk.mk' ?_ ?_ ?_ ?_ ?_ p9 ?_<;>kernel_rfl
def c4W:TI:=⟨.slice 2,1,24, .cells [.nils],[]⟩
theorem c8R:TOk Tryz.prog 50 c4W:=by refine TOk.mk' ?_ ?_ ?_ ?_ ?_ p9 ?_<;>kernel_rfl
def c4X:TI:=⟨.slice 29,1,24, .cells [.nils],[]⟩
theorem c8k:TOk Tryz.prog 51 c4X:=by refine TOk.mk' ?_ ?_ ?_ ?_ ?_ p9 ?_<;>kernel_rfl
def c7f:TI:=⟨.slice 26,1,24, .cells [.nils],[]⟩
theorem c8D:TOk Tryz.prog 68 c7f:=by refine TOk.mk' ?_ ?_ ?_ ?_ ?_ p9 ?_<;>kernel_rfl
def c7Y:TI:=⟨.struct [(0,26),(1,68)],2,48, .cells [.nils, .nils],[]⟩
theorem c9Z:TOk Tryz.prog 69 c7Y:=by refine TOk.mk' ?_ ?_ ?_ ?_ ?_ p9 ?_<;>kernel_rfl
def c6H:TI:=⟨.struct [(0,26),(1,68)],2,48, .cells [.nils, .nils],[]⟩
theorem c9t:TOk Tryz.prog 70 c6H:=by refine TOk.mk' ?_ ?_ ?_ ?_ ?_ p9 ?_<;>kernel_rfl
def c6t:TI:=⟨.struct [(0,39),(3,29)],7,88, .cells [.int .i64 0, .nils, .nils, .int .i64 0, .int .i64 0, .int .i64 0, .int .i64 0],[]⟩
theorem c9A:TOk Tryz.prog 75 c6t:=by refine TOk.mk' ?_ ?_ ?_ ?_ ?_ p9 ?_<;>kernel_rfl
def c7x:TI:=⟨.slice 75,1,24, .cells [.nils],[]⟩
theorem c9g:TOk Tryz.prog 76 c7x:=by refine TOk.mk' ?_ ?_ ?_ ?_ ?_ p9 ?_<;>kernel_rfl
def c4E:TI:=⟨.slice 39,1,24, .cells [.nils],[]⟩
theorem c8F:TOk Tryz.prog 79 c4E:=by refine TOk.mk' ?_ ?_ ?_ ?_ ?_ p9 ?_<;>kernel_rfl
def c7Z:TI:=⟨.iface,1,16, .cells [.nili],[]⟩
theorem c8z:TOk Tryz.prog 92 c7Z:=by refine TOk.mk' ?_ ?_ ?_ ?_ ?_ p9 ?_<;>kernel_rfl
def c7z:TI:=⟨.iface,1,16, .cells [.nili],[]⟩
theorem c8I:TOk Tryz.prog 93 c7z:=by refine TOk.mk' ?_ ?_ ?_ ?_ ?_ p9 ?_<;>kernel_rfl
def c7w:TI:=⟨.ptr 148,1,8, .cells [.nilp],[]⟩
theorem c9E:TOk Tryz.prog 95 c7w:=by refine TOk.mk' ?_ ?_ ?_ ?_ ?_ p9 ?_<;>kernel_rfl
def c7U:TI:=⟨.flt .f64,1,8, .cells [.flt .f64 0],[]⟩
theorem c8d:TOk Tryz.prog 98 c7U:=by refine TOk.mk' ?_ ?_ ?_ ?_ ?_ p9 ?_<;>kernel_rfl
def c5t:TI:=⟨.struct [(0,98),(1,98)],2,16, .cells [.flt .f64 0, .flt .f64 0],[]⟩
theorem c8u:TOk Tryz.prog 99 c5t:=by refine TOk.mk' ?_ ?_ ?_ ?_ ?_ p9 ?_<;>kernel_rfl
def c1s:TI:=⟨.struct [(0,98),(1,98)],2,16, .cells [.flt .f64 0, .flt .f64 0],[⟨ "ContainsLine",152,none⟩,⟨ "ContainsPoint",153,none⟩,⟨ "ContainsPoly",154,none⟩,⟨ "ContainsRect",155,none⟩,⟨ "Empty",156,none⟩,⟨ "IntersectsLine",157,none⟩,⟨ "IntersectsPoint",158,none⟩,⟨ "IntersectsPoly",159,none⟩,⟨ "IntersectsRect",160,none⟩,⟨ "Move",81,none⟩,⟨ "Rect",161,none⟩,⟨ "Valid",162,none⟩]⟩
theorem c6r:TOk Tryz.prog 100 c1s:=by refine TOk.mk' ?_ ?_ ?_ ?_ ?_ (l8 (MOk.of_chk ?_) (l8 (MOk.of_chk ?_) (l8 (MOk.of_chk ?_) (l8 (MOk.of_chk ?_) (l8 (MOk.of_chk ?_) (l8 (MOk.of_chk ?_) (l8 (MOk.of_chk ?_) (l8 (MOk.of_chk ?_) (l8 (MOk.of_chk ?_) (l8 (MOk.of_chk ?_) (l8 (MOk.of_chk ?_) (l8 (MOk.of_chk ?_) p9)))))))))))) ?_<;>kernel_rfl
def c0M:TI:=⟨.struct [(0,100),(2,100)],4,32, .cells [.flt .f64 0, .flt .f64 0, .flt .f64 0, .flt .f64 0],[]⟩
theorem c7G:TOk Tryz.prog 101 c0M:=by refine TOk.mk' ?_ ?_ ?_ ?_ ?_ p9 ?_<;>kernel_rfl
def c0Y:TI:=⟨.struct [(0,100),(2,100)],4,32, .cells [.flt .f64 0, .flt .f64 0, .flt .f64 0, .flt .f64 0],[⟨ "Area",188,none⟩,⟨ "Clockwise",249,none⟩,⟨ "ContainsLine",189,none⟩,⟨ "ContainsPoint",169,none⟩,⟨ "ContainsPoly",190,none⟩,⟨ "ContainsRect",191,none⟩,⟨ "Convex",250,none⟩,⟨ "Empty",192,none⟩,⟨ "Index",251,none⟩,⟨ "IntersectsLine",193,none⟩,⟨ "IntersectsPoint",194,none⟩,⟨ "IntersectsPoly",195,none⟩,⟨ "IntersectsRect",175,none⟩,⟨ "Move",82,none⟩,⟨ "NumPoints",196,none⟩,⟨ "NumSegments",203,none⟩,⟨ "PointAt",197,none⟩,⟨ "Rect",198,none⟩,⟨ "Search",199,none⟩,⟨ "SegmentAt",204,none⟩,⟨ "Valid",200,none⟩]⟩
theorem c5S:TOk Tryz.prog 102 c0Y:=by refine TOk.mk' ?_ ?_ ?_ ?_ ?_ (l8 (MOk.of_chk ?_) (l8 (MOk.of_chk ?_) (l8 (MOk.of_chk ?_) (l8 (MOk.of_chk ?_) (l8 (MOk.of_chk ?_) (l8 (MOk.of_chk ?_) (l8 (MOk.of_chk ?_) (l8 (MOk.of_chk ?_) (l8 (MOk.of_chk ?_) (l8 (MOk.of_chk ?_) (l8 (MOk.of_chk ?_) (l8 (MOk.of_chk ?_) (l8 (MOk.of_chk ?_) (l8 (MOk.of_chk ?_) (l8 (MOk.of_chk ?_) (l8 (MOk.of_chk ?_) (l8 (MOk.of_chk ?_) (l8 (MOk.of_chk ?_) (l8 (MOk.of_chk ?_) (l8 (MOk.of_chk ?_) (l8 (MOk.of_chk ?_) p9))))))))))))))))))))) ?_<;>kernel_rfl
def c2f:TI:=⟨.iface,1,16, .cells [.nili],[]⟩
theorem c7g:TOk Tryz.prog 105 c2f:=by refine TOk.mk' ?_ ?_ ?_ ?_ ?_ p9 ?_<;>kernel_rfl
def c1N:TI:=⟨.iface,1,16, .cells [.nili],[]⟩
theorem c5c:TOk Tryz.prog 106 c1N:=by refine TOk.mk' ?_ ?_ ?_ ?_ ?_ p9 ?_<;>kernel_rfl
def c1X:TI:=⟨.struct [(0,100),(2,100)],4,32, .cells [.flt .f64 0, .flt .f64 0, .flt .f64 0, .flt .f64 0],[]⟩
theorem c5e:TOk Tryz.prog 110 c1X:=by refine TOk.mk' ?_ ?_ ?_ ?_ ?_ p9 ?_<;>kernel_rfl
def c0L:TI:=⟨.struct [(0,100),(2,100)],4,32, .cells [.flt .f64 0, .flt .f64 0, .flt .f64 0, .flt .f64 0],[]⟩
theorem c5O:TOk Tryz.prog 111 c0L:=by refine TOk.mk' ?_ ?_ ?_ ?_ ?_ p9 ?_<;>kernel_rfl
def c1d:TI:=⟨.ptr 152,1,8, .cells [.nilp],[⟨ "Clockwise",222,some 0⟩,⟨ "ContainsLine",223,none⟩,⟨ "ContainsPoint",170,none⟩,⟨ "ContainsPoly",224,none⟩,⟨ "ContainsRect",225,none⟩,⟨ "Convex",226,some 0⟩,⟨ "Empty",163,some 0⟩,⟨ "Index",105,some 0⟩,⟨ "IntersectsLine",227,none⟩,⟨ "IntersectsPoint",167,none⟩,⟨ "IntersectsPoly",228,none⟩,⟨ "IntersectsRect",229,none⟩,⟨ "Move",84,none⟩,⟨ "NumPoints",205,some 0⟩,⟨ "NumSegments",111,some 0⟩,⟨ "PointAt",206,some 0⟩,⟨ "Rect",164,some 0⟩,⟨ "Search",172,some 0⟩,⟨ "SegmentAt",112,some 0⟩,⟨ "Valid",230,none⟩]⟩
theorem c5Q:TOk Tryz.prog 116 c1d:=by refine TOk.mk' ?_ ?_ ?_ ?_ ?_ (l8 (MOk.of_chkO ?_) (l8 (MOk.of_chk ?_) (l8 (MOk.of_chk ?_) (l8 (MOk.of_chk ?_) (l8 (MOk.of_chk ?_) (l8 (MOk.of_chkO ?_) (l8 (MOk.of_chkO ?_) (l8 (MOk.of_chkO ?_) (l8 (MOk.of_chk ?_) (l8 (MOk.of_chk ?_) (l8 (MOk.of_chk ?_) (l8 (MOk.of_chk ?_) (l8 (MOk.of_chk ?_) (l8 (MOk.of_chkO ?_) (l8 (MOk.of_chkO ?_) (l8 (MOk.of_chkO ?_) (l8 (MOk.of_chkO ?_) (l8 (MOk.of_chkO ?_) (l8 (MOk.of_chkO ?_) (l8 (MOk.of_chk ?_) p9)))))))))))))))))))) ?_<;>kernel_rfl
def c2n:TI:=⟨.slice 100,1,24, .cells [.nils],[]⟩
theorem c6z:TOk Tryz.prog 118 c2n:=by refine TOk.mk' ?_ ?_ ?_ ?_ ?_ p9 ?_<;>kernel_rfl
def c2z:TI:=⟨.ptr 137,1,8, .cells [.nilp],[⟨ "Clockwise",236,none⟩,⟨ "ContainsLine",237,none⟩,⟨ "ContainsPoint",171,none⟩,⟨ "ContainsPoly",238,none⟩,⟨ "ContainsRect",239,none⟩,⟨ "Empty",165,none⟩,⟨ "IntersectsLine",233,none⟩,⟨ "IntersectsPoint",168,none⟩,⟨ "IntersectsPoly",208,none⟩,⟨ "IntersectsRect",202,none⟩,⟨ "Move",85,none⟩,⟨ "Rect",166,none⟩,⟨ "Valid",240,none⟩]⟩
theorem c6c:TOk Tryz.prog 121 c2z:=by refine TOk.mk' ?_ ?_ ?_ ?_ ?_ (l8 (MOk.of_chk ?_) (l8 (MOk.of_chk ?_) (l8 (MOk.of_chk ?_) (l8 (MOk.of_chk ?_) (l8 (MOk.of_chk ?_) (l8 (MOk.of_chk ?_) (l8 (MOk.of_chk ?_) (l8 (MOk.of_chk ?_) (l8 (MOk.of_chk ?_) (l8 (MOk.of_chk ?_) (l8 (MOk.of_chk ?_) (l8 (MOk.of_chk ?_) (l8 (MOk.of_chk ?_) p9))))))))))))) ?_<;>kernel_rfl
def c0X:TI:=⟨.slice 106,1,24, .cells [.nils],[]⟩
theorem c6I:TOk Tryz.prog 135 c0X:=by refine TOk.mk' ?_ ?_ ?_ ?_ ?_ p9 ?_<;>kernel_rfl
def c0T:TI:=⟨.struct [(0,106),(1,135)],2,40, .cells [.nili, .nils],[]⟩
theorem c5H:TOk Tryz.prog 136 c0T:=by refine TOk.mk' ?_ ?_ ?_ ?_ ?_ p9 ?_<;>kernel_rfl
def c2l:TI:=⟨.struct [(0,106),(1,135)],2,40, .cells [.nili, .nils],[]⟩
theorem c5y:TOk Tryz.prog 137 c2l:=by refine TOk.mk' ?_ ?_ ?_ ?_ ?_ p9 ?_<;>kernel_rfl
def c2G:TI:=⟨.struct [(0,4),(1,4)],2,2, .cells [.ff, .ff],[]⟩
theorem c6Z:TOk Tryz.prog 141 c2G:=by refine TOk.mk' ?_ ?_ ?_ ?_ ?_ p9 ?_<;>kernel_rfl
def c2o:TI:=⟨.struct [(0,4),(1,4)],2,2, .cells [.ff, .ff],[]⟩
theorem c4R:TOk Tryz.prog 142 c2o:=by refine TOk.mk' ?_ ?_ ?_ ?_ ?_ p9 ?_<;>kernel_rfl
def c0N:TI:=⟨.slice 118,1,24, .cells [.nils],[]⟩
theorem c4A:TOk Tryz.prog 144 c0N:=by refine TOk.mk' ?_ ?_ ?_ ?_ ?_ p9 ?_<;>kernel_rfl
def c1A:TI:=⟨.int .u8,1,1, .cells [.int .u8 0],[]⟩
theorem c7P:TOk Tryz.prog 146 c1A:=by refine TOk.mk' ?_ ?_ ?_ ?_ ?_ p9 ?_<;>kernel_rfl
def c2q:TI:=⟨.struct [(0,146),(1,3)],2,16, .cells [.int .u8 0, .int .i64 0],[]⟩
theorem c7D:TOk Tryz.prog 147 c2q:=by refine TOk.mk' ?_ ?_ ?_ ?_ ?_ p9 ?_<;>kernel_rfl
def c1z:TI:=⟨.struct [(0,146),(1,3)],2,16, .cells [.int .u8 0, .int .i64 0],[]⟩
theorem c5N:TOk Tryz.prog 148 c1z:=by refine TOk.mk' ?_ ?_ ?_ ?_ ?_ p9 ?_<;>kernel_rfl
def c1Z:TI:=⟨.struct [(0,4),(1,4),(2,4),(3,146),(4,20),(5,102),(9,118)],10,80, .cells [.ff, .ff, .ff, .int .u8 0, .nili, .flt .f64 0, .flt .f64 0, .flt .f64 0, .flt .f64 0, .nils],[]⟩
theorem c4N:TOk Tryz.prog 149 c1Z:=by refine TOk.mk' ?_ ?_ ?_ ?_ ?_ p9 ?_<;>kernel_rfl
def c2t:TI:=⟨.struct [(0,4),(1,4),(2,4),(3,146),(4,20),(5,102),(9,118)],10,80, .cells [.ff, .ff, .ff, .int .u8 0, .nili, .flt .f64 0, .flt .f64 0, .flt .f64 0, .flt .f64 0, .nils],[]⟩
theorem c6s:TOk Tryz.prog 150 c2t:=by refine TOk.mk' ?_ ?_ ?_ ?_ ?_ p9 ?_<;>kernel_rfl
def c0P:TI:=⟨.struct [(0,150)],10,80, .cells [.ff, .ff, .ff, .int .u8 0, .nili, .flt .f64 0, .flt .f64 0, .flt .f64 0, .flt .f64 0, .nils],[]⟩
theorem c5k:TOk Tryz.prog 151 c0P:=by refine TOk.mk' ?_ ?_ ?_ ?_ ?_ p9 ?_<;>kernel_rfl
def c1q:TI:=⟨.struct [(0,150)],10,80, .cells [.ff, .ff, .ff, .int .u8 0, .nili, .flt .f64 0, .flt .f64 0, .flt .f64 0, .flt .f64 0, .nils],[]⟩
theorem c6i:TOk Tryz.prog 152 c1q:=by refine TOk.mk' ?_ ?_ ?_ ?_ ?_ p9 ?_<;>kernel_rfl
def c2a:TI:=⟨.ptr 150,1,8, .cells [.nilp],[⟨ "Clockwise",222,none⟩,⟨ "Convex",226,none⟩,⟨ "Empty",163,none⟩,⟨ "Index",105,none⟩,⟨ "Move",95,none⟩,⟨ "NumPoints",205,none⟩,⟨ "NumSegments",111,none⟩,⟨ "PointAt",206,none⟩,⟨ "Rect",164,none⟩,⟨ "Search",172,none⟩,⟨ "SegmentAt",112,none⟩,⟨ "Valid",234,none⟩]⟩
theorem c7y:TOk Tryz.prog 157 c2a:=by refine TOk.mk' ?_ ?_ ?_ ?_ ?_ (l8 (MOk.of_chk ?_) (l8 (MOk.of_chk ?_) (l8 (MOk.of_chk ?_) (l8 (MOk.of_chk ?_) (l8 (MOk.of_chk ?_) (l8 (MOk.of_chk ?_) (l8 (MOk.of_chk ?_) (l8 (MOk.of_chk ?_) (l8 (MOk.of_chk ?_) (l8 (MOk.of_chk ?_) (l8 (MOk.of_chk ?_) (l8 (MOk.of_chk ?_) p9)))))))))))) ?_<;>kernel_rfl
def c2r:TI:=⟨.int .u64,1,8, .cells [.int .u64 0],[]⟩
theorem c6o:TOk Tryz.prog 172 c2r:=by refine TOk.mk' ?_ ?_ ?_ ?_ ?_ p9 ?_<;>kernel_rfl
def c0W:TI:=⟨.ptr 180,1,8, .cells [.nilp],[]⟩
theorem c7F:TOk Tryz.prog 174 c0W:=by refine TOk.mk' ?_ ?_ ?_ ?_ ?_ p9 ?_<;>kernel_rfl
def c0Z:TI:=⟨.array 2 98,2,16, .cells [.flt .f64 0, .flt .f64 0],[]⟩
theorem c4D:TOk Tryz.prog 175 c0Z:=by refine TOk.mk' ?_ ?_ ?_ ?_ ?_ p9 ?_<;>kernel_rfl
def c2h:TI:=⟨.struct [(0,20),(1,175),(3,175)],5,48, .cells [.nili, .flt .f64 0, .flt .f64 0, .flt .f64 0, .flt .f64 0],[]⟩
theorem c5R:TOk Tryz.prog 176 c2h:=by refine TOk.mk' ?_ ?_ ?_ ?_ ?_ p9 ?_<;>kernel_rfl
def b7q:TI:=⟨.struct [(0,20),(1,175),(3,175)],5,48, .cells [.nili, .flt .f64 0, .flt .f64 0, .flt .f64 0, .flt .f64 0],[]⟩
theorem c7C:TOk Tryz.prog 177 b7q:=by refine TOk.mk' ?_ ?_ ?_ ?_ ?_ p9 ?_<;>kernel_rfl
def c1R:TI:=⟨.slice 177,1,24, .cells [.nils],[]⟩
theorem c6F:TOk Tryz.prog 178 c1R:=by refine TOk.mk' ?_ ?_ ?_ ?_ ?_ p9 ?_<;>kernel_rfl
def c2M:TI:=⟨.struct [(0,3),(1,177),(6,3),(7,178)],8,88, .cells [.int .i64 0, .nili, .flt .f64 0, .flt .f64 0, .flt .f64 0, .flt .f64 0, .int .i64 0, .nils],[]⟩
theorem c6A:TOk Tryz.prog 179 c2M:=by refine TOk.mk' ?_ ?_ ?_ ?_ ?_ p9 ?_<;>kernel_rfl
def c1B:TI:=⟨.struct [(0,3),(1,177),(6,3),(7,178)],8,88, .cells [.int .i64 0, .nili, .flt .f64 0, .flt .f64 0, .flt .f64 0, .flt .f64 0, .int .i64 0, .nils],[]⟩
theorem c6X:TOk Tryz.prog 180 c1B:=by refine TOk.mk' ?_ ?_ ?_ ?_ ?_ p9 ?_<;>kernel_rfl
def c1n:TI:=⟨.slice 98,1,24, .cells [.nils],[]⟩
theorem c6j:TOk Tryz.prog 183 c1n:=by refine TOk.mk' ?_ ?_ ?_ ?_ ?_ p9 ?_<;>kernel_rfl
def c0K:TI:=⟨.slice 5,1,24, .cells [.nils],[]⟩
theorem c7J:TOk Tryz.prog 185 c0K:=by refine TOk.mk' ?_ ?_ ?_ ?_ ?_ p9 ?_<;>kernel_rfl
def c2K:TI:=⟨.ptr 191,1,8, .cells [.nilp],[]⟩
theorem c7l:TOk Tryz.prog 187 c2K:=by refine TOk.mk' ?_ ?_ ?_ ?_ ?_ p9 ?_<;>kernel_rfl
def c2s:TI:=⟨.slice 200,1,24, .cells [.nils],[]⟩
theorem c7a:TOk Tryz.prog 188 c2s:=by refine TOk.mk' ?_ ?_ ?_ ?_ ?_ p9 ?_<;>kernel_rfl
def c1J:TI:=⟨.array 4 187,4,32, .cells [.nilp, .nilp, .nilp, .nilp],[]⟩
theorem c5q:TOk Tryz.prog 189 c1J:=by refine TOk.mk' ?_ ?_ ?_ ?_ ?_ p9 ?_<;>kernel_rfl
def c1T:TI:=⟨.struct [(0,4),(1,188),(2,189)],6,64, .cells [.ff, .nils, .nilp, .nilp, .nilp, .nilp],[]⟩
theorem c6M:TOk Tryz.prog 190 c1T:=by refine TOk.mk' ?_ ?_ ?_ ?_ ?_ p9 ?_<;>kernel_rfl
def c2N:TI:=⟨.struct [(0,4),(1,188),(2,189)],6,64, .cells [.ff, .nils, .nilp, .nilp, .nilp, .nilp],[]⟩
theorem c6V:TOk Tryz.prog 191 c2N:=by refine TOk.mk' ?_ ?_ ?_ ?_ ?_ p9 ?_<;>kernel_rfl
def c1i:TI:=⟨.ptr 177,1,8, .cells [.nilp],[]⟩
theorem c5j:TOk Tryz.prog 195 c1i:=by refine TOk.mk' ?_ ?_ ?_ ?_ ?_ p9 ?_<;>kernel_rfl
def c1e:TI:=⟨.struct [],0,0, .cells [],[]⟩
theorem c6e:TOk Tryz.prog 197 c1e:=by refine TOk.mk' ?_ ?_ ?_ ?_ ?_ p9 ?_<;>kernel_rfl
def c1h:TI:=⟨.struct [],0,0, .cells [],[]⟩
theorem c6w:TOk Tryz.prog 198 c1h:=by refine TOk.mk' ?_ ?_ ?_ ?_ ?_ p9 ?_<;>kernel_rfl
def c0S:TI:=⟨.int .u32,1,4, .cells [.int .u32 0],[]⟩
theorem c5s:TOk Tryz.prog 200 c0S:=by refine TOk.mk' ?_ ?_ ?_ ?_ ?_ p9 ?_<;>kernel_rfl
def c0R:TI:=⟨.array 4 3,4,32, .cells [.int .i64 0, .int .i64 0, .int .i64 0, .int .i64 0],[]⟩
theorem c6R:TOk Tryz.prog 206 c0R:=by refine TOk.mk' ?_ ?_ ?_ ?_ ?_ p9 ?_<;>kernel_rfl
def c1F:TI:=⟨.ptr 210,1,8, .cells [.nilp],[]⟩
theorem c5K:TOk Tryz.prog 207 c1F:=by refine TOk.mk' ?_ ?_ ?_ ?_ ?_ p9 ?_<;>kernel_rfl
def c2x:TI:=⟨.array 17 177,85,816, .cells [.nili, .flt .f64 0, .flt .f64 0, .flt .f64 0, .flt .f64 0, .nili, .flt .f64 0, .flt .f64 0, .flt .f64 0, .flt .f64 0, .nili, .flt .f64 0, .flt .f64 0, .flt .f64 0, .flt .f64 0, .nili, .flt .f64 0, .flt .f64 0, .flt .f64 0, .flt .f64 0, .nili, .flt .f64 0, .flt .f64 0, .flt .f64 0, .flt .f64 0, .nili, .flt .f64 0, .flt .f64 0, .flt .f64 0, .flt .f64 0, .nili, .flt .f64 0, .flt .f64 0, .flt .f64 0, .flt .f64 0, .nili, .flt .f64 0, .flt .f64 0, .flt .f64 0, .flt .f64 0, .nili, .flt .f64 0, .flt .f64 0, .flt .f64 0, .flt .f64 0, .nili, .flt .f64 0, .flt .f64 0, .flt .f64 0, .flt .f64 0, .nili, .flt .f64 0, .flt .f64 0, .flt .f64 0, .flt .f64 0, .nili, .flt .f64 0, .flt .f64 0, .flt .f64 0, .flt .f64 0, .nili, .flt .f64 0, .flt .f64 0, .flt .f64 0, .flt .f64 0, .nili, .flt .f64 0, .flt .f64 0, .flt .f64 0, .flt .f64 0, .nili, .flt .f64 0, .flt .f64 0, .flt .f64 0, .flt .f64 0, .nili, .flt .f64 0, .flt .f64 0, .flt .f64 0, .flt .f64 0, .nili, .flt .f64 0, .flt .f64 0, .flt .f64 0, .flt .f64 0],[]⟩
theorem c6C:TOk Tryz.prog 208 c2x:=by refine TOk.mk' ?_ ?_ ?_ ?_ ?_ p9 ?_<;>kernel_rfl
def c0I:TI:=⟨.struct [(0,3),(1,208)],86,824, .cells [.int .i64 0, .nili, .flt .f64 0, .flt .f64 0, .flt .f64 0, .flt .f64 0, .nili, .flt .f64 0, .flt .f64 0, .flt .f64 0, .flt .f64 0, .nili, .flt .f64 0, .flt .f64 0, .flt .f64 0, .flt .f64 0, .nili, .flt .f64 0, .flt .f64 0, .flt .f64 0, .flt .f64 0, .nili, .flt .f64 0, .flt .f64 0, .flt .f64 0, .flt .f64 0, .nili, .flt .f64 0, .flt .f64 0, .flt .f64 0, .flt .f64 0, .nili, .flt .f64 0, .flt .f64 0, .flt .f64 0, .flt .f64 0, .nili, .flt .f64 0, .flt .f64 0, .flt .f64 0, .flt .f64 0, .nili, .flt .f64 0, .flt .f64 0, .flt .f64 0, .flt .f64 0, .nili, .flt .f64 0, .flt .f64 0, .flt .f64 0, .flt .f64 0, .nili, .flt .f64 0, .flt .f64 0, .flt .f64 0, .flt .f64 0, .nili, .flt .f64 0, .flt .f64 0, .flt .f64 0, .flt .f64 0, .nili, .flt .f64 0, .flt .f64 0, .flt .f64 0, .flt .f64 0, .nili, .flt .f64 0, .flt .f64 0, .flt .f64 0, .flt .f64 0, .nili, .flt .f64 0, .flt .f64 0, .flt .f64 0, .flt .f64 0, .nili, .flt .f64 0, .flt .f64 0, .flt .f64 0, .flt .f64 0, .nili, .flt .f64 0, .flt .f64 0, .flt .f64 0, .flt .f64 0],[]⟩
theorem c7H:TOk Tryz.prog 209 c0I:=by refine TOk.mk' ?_ ?_ ?_ ?_ ?_ p9 ?_<;>kernel_rfl
def b6W:TI:=⟨.struct [(0,3),(1,208)],86,824, .cells [.int .i64 0, .nili, .flt .f64 0, .flt .f64 0, .flt .f64 0, .flt .f64 0, .nili, .flt .f64 0, .flt .f64 0, .flt .f64 0, .flt .f64 0, .nili, .flt .f64 0, .flt .f64 0, .flt .f64 0, .flt .f64 0, .nili, .flt .f64 0, .flt .f64 0, .flt .f64 0, .flt .f64 0, .nili, .flt .f64 0, .flt .f64 0, .flt .f64 0, .flt .f64 0, .nili, .flt .f64 0, .flt .f64 0, .flt .f64 0, .flt .f64 0, .nili, .flt .f64 0, .flt .f64 0, .flt .f64 0, .flt .f64 0, .nili, .flt .f64 0, .flt .f64 0, .flt .f64 0, .flt .f64 0, .nili, .flt .f64 0, .flt .f64 0, .flt .f64 0, .flt .f64 0, .nili, .flt .f64 0, .flt .f64 0, .flt .f64 0, .flt .f64 0, .nili, .flt .f64 0, .flt .f64 0, .flt .f64 0, .flt .f64 0, .nili, .flt .f64 0, .flt .f64 0, .flt .f64 0, .flt .f64 0, .nili, .flt .f64 0, .flt .f64 0, .flt .f64 0, .flt .f64 0, .nili, .flt .f64 0, .flt .f64 0, .flt .f64 0, .flt .f64 0, .nili, .flt .f64 0, .flt .f64 0, .flt .f64 0, .flt .f64 0, .nili, .flt .f64 0, .flt .f64 0, .flt .f64 0, .flt .f64 0, .nili, .flt .f64 0, .flt .f64 0, .flt .f64 0, .flt .f64 0],[]⟩
theorem c5o:TOk Tryz.prog 210 b6W:=by refine TOk.mk' ?_ ?_ ?_ ?_ ?_ p9 ?_<;>kernel_rfl
def c2E:TI:=⟨.int .u64,1,8, .cells [.int .u64 0],[]⟩
theorem c7T:TOk Tryz.prog 212 c2E:=by refine TOk.mk' ?_ ?_ ?_ ?_ ?_ p9 ?_<;>kernel_rfl
def c2u:TI:=⟨.slice 3,1,24, .cells [.nils],[]⟩
theorem c7r:TOk Tryz.prog 214 c2u:=by refine TOk.mk' ?_ ?_ ?_ ?_ ?_ p9 ?_<;>kernel_rfl
def c2b:TI:=⟨.int .u16,1,2, .cells [.int .u16 0],[]⟩
theorem c7e:TOk Tryz.prog 216 c2b:=by refine TOk.mk' ?_ ?_ ?_ ?_ ?_ p9 ?_<;>kernel_rfl
def c2g:TI:=⟨.array 8 5,8,8, .cells [.int .u8 0, .int .u8 0, .int .u8 0, .int .u8 0, .int .u8 0, .int .u8 0, .int .u8 0, .int .u8 0],[]⟩
theorem c4G:TOk Tryz.prog 221 c2g:=by refine TOk.mk' ?_ ?_ ?_ ?_ ?_ p9 ?_<;>kernel_rfl
def c1D:TI:=⟨.struct [(0,17),(1,17),(2,17),(3,9)],4,40, .cells [.nilp, .nilp, .nilp, .str ⟨#[]⟩],[]⟩
theorem c5n:TOk Tryz.prog 224 c1D:=by refine TOk.mk' ?_ ?_ ?_ ?_ ?_ p9 ?_<;>kernel_rfl
def c1Y:TI:=⟨.struct [(0,17),(1,17),(2,17),(3,9)],4,40, .cells [.nilp, .nilp, .nilp, .str ⟨#[]⟩],[]⟩
theorem c5B:TOk Tryz.prog 225 c1Y:=by refine TOk.mk' ?_ ?_ ?_ ?_ ?_ p9 ?_<;>kernel_rfl
def c0V:TI:=⟨.array 0 16,0,0, .cells [],[]⟩
theorem c5U:TOk Tryz.prog 226 c0V:=by refine TOk.mk' ?_ ?_ ?_ ?_ ?_ p9 ?_<;>kernel_rfl
def c2H:TI:=⟨.struct [(0,226)],0,0, .cells [],[]⟩
theorem c4T:TOk Tryz.prog 227 c2H:=by refine TOk.mk' ?_ ?_ ?_ ?_ ?_ p9 ?_<;>kernel_rfl
def c1G:TI:=⟨.struct [(0,226)],0,0, .cells [],[]⟩
theorem c7h:TOk Tryz.prog 228 c1G:=by refine TOk.mk' ?_ ?_ ?_ ?_ ?_ p9 ?_<;>kernel_rfl
def c1w:TI:=⟨.int .u8,1,1, .cells [.int .u8 0],[]⟩
theorem c6l:TOk Tryz.prog 229 c1w:=by refine TOk.mk' ?_ ?_ ?_ ?_ ?_ p9 ?_<;>kernel_rfl
def c2J:TI:=⟨.int .u8,1,1, .cells [.int .u8 0],[]⟩
theorem c7R:TOk Tryz.prog 230 c2J:=by refine TOk.mk' ?_ ?_ ?_ ?_ ?_ p9 ?_<;>kernel_rfl
def c2j:TI:=⟨.ptr 5,1,8, .cells [.nilp],[]⟩
theorem c5X:TOk Tryz.prog 232 c2j:=by refine TOk.mk' ?_ ?_ ?_ ?_ ?_ p9 ?_<;>kernel_rfl
def c2p:TI:=⟨.int .i32,1,4, .cells [.int .i32 0],[]⟩
theorem c5F:TOk Tryz.prog 233 c2p:=by refine TOk.mk' ?_ ?_ ?_ ?_ ?_ p9 ?_<;>kernel_rfl
def c1c:TI:=⟨.int .i32,1,4, .cells [.int .i32 0],[]⟩
theorem c5z:TOk Tryz.prog 234 c1c:=by refine TOk.mk' ?_ ?_ ?_ ?_ ?_ p9 ?_<;>kernel_rfl
def c2v:TI:=⟨.struct [(0,12),(1,12),(2,200),(3,229),(4,5),(5,5),(6,230),(7,231),(8,232),(9,233),(10,234)],11,48, .cells [.int .u64 0, .int .u64 0, .int .u32 0, .int .u8 0, .int .u8 0, .int .u8 0, .int .u8 0, .nilf, .nilp, .int .i32 0, .int .i32 0],[]⟩
theorem c6d:TOk Tryz.prog 235 c2v:=by refine TOk.mk' ?_ ?_ ?_ ?_ ?_ p9 ?_<;>kernel_rfl
def c1K:TI:=⟨.struct [(0,12),(1,12),(2,200),(3,229),(4,5),(5,5),(6,230),(7,231),(8,232),(9,233),(10,234)],11,48, .cells [.int .u64 0, .int .u64 0, .int .u32 0, .int .u8 0, .int .u8 0, .int .u8 0, .int .u8 0, .nilf, .nilp, .int .i32 0, .int .i32 0],[]⟩
theorem c5Z:TOk Tryz.prog 236 c1K:=by refine TOk.mk' ?_ ?_ ?_ ?_ ?_ p9 ?_<;>kernel_rfl
def c1O:TI:=⟨.struct [(0,4),(1,3)],2,16, .cells [.ff, .int .i64 0],[]⟩
theorem c7I:TOk Tryz.prog 237 c1O:=by refine TOk.mk' ?_ ?_ ?_ ?_ ?_ p9 ?_<;>kernel_rfl
def c2I:TI:=⟨.struct [(0,4),(1,3)],2,16, .cells [.ff, .int .i64 0],[]⟩
theorem c6Q:TOk Tryz.prog 238 c2I:=by refine TOk.mk' ?_ ?_ ?_ ?_ ?_ p9 ?_<;>kernel_rfl
def c2k:TI:=⟨.ptr 3,1,8, .cells [.nilp],[]⟩
theorem c5A:TOk Tryz.prog 249 c2k:=by refine TOk.mk' ?_ ?_ ?_ ?_ ?_ p9 ?_<;>kernel_rfl
def c1t:TI:=⟨.ptr 4,1,8, .cells [.nilp],[]⟩
theorem c7c:TOk Tryz.prog 250 c1t:=by refine TOk.mk' ?_ ?_ ?_ ?_ ?_ p9 ?_<;>kernel_rfl
def c0Q:TI:=⟨.slice 111,1,24, .cells [.nils],[]⟩
theorem c4F:TOk Tryz.prog 255 c0Q:=by refine TOk.mk' ?_ ?_ ?_ ?_ ?_ p9 ?_<;>kernel_rfl
def c0H:TI:=⟨.array 5 100,10,80, .cells [.flt .f64 0, .flt .f64 0, .flt .f64 0, .flt .f64 0, .flt .f64 0, .flt .f64 0, .flt .f64 0, .flt .f64 0, .flt .f64 0, .flt .f64 0],[]⟩
theorem c6G:TOk Tryz.prog 258 c0H:=by refine TOk.mk' ?_ ?_ ?_ ?_ ?_ p9 ?_<;>kernel_rfl
def c2C:TI:=⟨.array 2 100,4,32, .cells [.flt .f64 0, .flt .f64 0, .flt .f64 0, .flt .f64 0],[]⟩
theorem c7q:TOk Tryz.prog 259 c2C:=by refine TOk.mk' ?_ ?_ ?_ ?_ ?_ p9 ?_<;>kernel_rfl
def tys:Tys:=[(2,ty2),(3,ty3),(4,ty4),(5,ty5),(6,ty6),(7,ty7),(8,ty8),(9,ty9),(10,c5P),(11,c8c),(12,c6L),(13,c5G),(14,c5T),(15,c7L),(16,c6q),(17,c6S),(18,c6J),(19,c7K),(20,c5Y),(21,c6n),(22,c7Q),(23,c4J),(24,c6B),(25,c7b),(26,c6N),(28,c5L),(29,c6p),(37,c5E),(38,c6k),(39,c5I),(47,c7p),(48,c5W),(50,c4W),(51,c4X),(68,c7f),(69,c7Y),(70,c6H),(75,c6t),(76,c7x),(79,c4E),(92,c7Z),(93,c7z),(95,c7w),(98,c7U),(99,c5t),(100,c1s),(101,c0M),(102,c0Y),(105,c2f),(106,c1N),(110,c1X),(111,c0L),(116,c1d),(118,c2n),(121,c2z),(135,c0X),(136,c0T),(137,c2l),(141,c2G),(142,c2o),(144,c0N),(146,c1A),(147,c2q),(148,c1z),(149,c1Z),(150,c2t),(151,c0P),(152,c1q),(157,c2a),(172,c2r),(174,c0W),(175,c0Z),(176,c2h),(177,b7q),(178,c1R),(179,c2M),(180,c1B),(183,c1n),(185,c0K),(187,c2K),(188,c2s),(189,c1J),(190,c1T),(191,c2N),(195,c1i),(197,c1e),(198,c1h),(200,c0S),(206,c0R),(207,c1F),(208,c2x),(209,c0I),(210,b6W),(212,c2E),(214,c2u),(216,c2b),(221,c2g),(224,c1D),(225,c1Y),(226,c0V),(227,c2H),(228,c1G),(229,c1w),(230,c2J),(232,c2j),(233,c2p),(234,c1c),(235,c2v),(236,c1K),(237,c1O),(238,c2I),(249,c2k),(250,c1t),(255,c0Q),(258,c0H),(259,c2C)]
theorem C0:TysOk Tryz.prog tys:=by
 unfold tys;refine TysOk.cons ok2 ?_;refine TysOk.cons ok3 ?_;refine TysOk.cons ok4 ?_;refine TysOk.cons ok5 ?_;refine TysOk.cons ok6 ?_;refine TysOk.cons ok7 ?_;refine TysOk.cons ok8 ?_;refine TysOk.cons ok9 ?_;refine TysOk.cons c8N ?_;refine TysOk.cons c8r ?_;refine TysOk.cons c8s ?_;refine TysOk.cons c8C ?_;refine TysOk.cons c8S ?_;refine TysOk.cons c9I ?_;refine TysOk.cons c9a ?_;refine TysOk.cons c9b ?_;refine TysOk.cons c9G ?_;refine TysOk.cons c8f ?_;refine TysOk.cons c9z ?_;refine TysOk.cons c8i ?_;refine TysOk.cons c9j ?_;refine TysOk.cons d0a ?_;refine TysOk.cons c8q ?_
 refine TysOk.cons c9V ?_;refine TysOk.cons c9p ?_;refine TysOk.cons c8K ?_;refine TysOk.cons d0d ?_;refine TysOk.cons c8Q ?_;refine TysOk.cons c9k ?_;refine TysOk.cons c8m ?_;refine TysOk.cons c8n ?_;refine TysOk.cons c9D ?_;refine TysOk.cons c8R ?_;refine TysOk.cons c8k ?_;refine TysOk.cons c8D ?_;refine TysOk.cons c9Z ?_;refine TysOk.cons c9t ?_;refine TysOk.cons c9A ?_;refine TysOk.cons c9g ?_;refine TysOk.cons c8F ?_;refine TysOk.cons c8z ?_;refine TysOk.cons c8I ?_;refine TysOk.cons c9E ?_;refine TysOk.cons c8d ?_;refine TysOk.cons c8u ?_;refine TysOk.cons c6r ?_
 refine TysOk.cons c7G ?_;refine TysOk.cons c5S ?_;refine TysOk.cons c7g ?_;refine TysOk.cons c5c ?_;refine TysOk.cons c5e ?_;refine TysOk.cons c5O ?_;refine TysOk.cons c5Q ?_;refine TysOk.cons c6z ?_;refine TysOk.cons c6c ?_;refine TysOk.cons c6I ?_;refine TysOk.cons c5H ?_;refine TysOk.cons c5y ?_;refine TysOk.cons c6Z ?_;refine TysOk.cons c4R ?_;refine TysOk.cons c4A ?_;refine TysOk.cons c7P ?_;refine TysOk.cons c7D ?_;refine TysOk.cons c5N ?_;refine TysOk.cons c4N ?_;refine TysOk.cons c6s ?_;refine TysOk.cons c5k ?_;refine TysOk.cons c6i ?_
 refine TysOk.cons c7y ?_;refine TysOk.cons c6o ?_;refine TysOk.cons c7F ?_;refine TysOk.cons c4D ?_;refine TysOk.cons c5R ?_;refine TysOk.cons c7C ?_;refine TysOk.cons c6F ?_;refine TysOk.cons c6A ?_;refine TysOk.cons c6X ?_;refine TysOk.cons c6j ?_;refine TysOk.cons c7J ?_;refine TysOk.cons c7l ?_;refine TysOk.cons c7a ?_;refine TysOk.cons c5q ?_;refine TysOk.cons c6M ?_;refine TysOk.cons c6V ?_;refine TysOk.cons c5j ?_;refine TysOk.cons c6e ?_;refine TysOk.cons c6w ?_;refine TysOk.cons c5s ?_;refine TysOk.cons c6R ?_;refine TysOk.cons c5K ?_
 refine TysOk.cons c6C ?_;refine TysOk.cons c7H ?_;refine TysOk.cons c5o ?_;refine TysOk.cons c7T ?_;refine TysOk.cons c7r ?_;refine TysOk.cons c7e ?_;refine TysOk.cons c4G ?_;refine TysOk.cons c5n ?_;refine TysOk.cons c5B ?_;refine TysOk.cons c5U ?_;refine TysOk.cons c4T ?_;refine TysOk.cons c7h ?_;refine TysOk.cons c6l ?_;refine TysOk.cons c7R ?_;refine TysOk.cons c5X ?_;refine TysOk.cons c5F ?_;refine TysOk.cons c5z ?_;refine TysOk.cons c6d ?_;refine TysOk.cons c5Z ?_;refine TysOk.cons c7I ?_;refine TysOk.cons c6Q ?_;refine TysOk.cons c5A ?_
 refine TysOk.cons c7c ?_;refine TysOk.cons c4F ?_;refine TysOk.cons c6G ?_;refine TysOk.cons c7q ?_;exact TysOk.nil
end Go.Proofs.Tryz.Sx

namespace Go.Sx
open Go.RowKit
def Wp(P:Program)(N0:Nat)(c:Code)(S:St)(K:Xt->St->Prop):Prop :=
 ∀(W0:World)(Fr:Nat->Prop)(ρ0 ρ:Rho)(a:Act)(w:World)(Q:Exit->Act->World->Prop),Sat W0 Fr S ρ a w->N0<=S.N->(∀ n,n<N0->ρ n=ρ0 n)->b7O W0 Fr N0 ρ0 K Q->c.wp P Q a w
section
variable {P:Program} {G:Ctx} {N0:Nat} {S:St} {K:Xt->St->Prop}
theorem Wp.run(hG:A5 P G){c:Code}(h:a0Q G N0 c S K):Wp P N0 c S K :=
 λ_ _ _ _ _ _ _ hS hN hρ hK=>a6j hG c h hS hN hρ hK
theorem Wp.mono{c:Code}{K':Xt->St->Prop}(h:Wp P N0 c S K)(hk:∀ e S',K e S'->K' e S'):Wp P N0 c S K' :=
 λW0 Fr ρ0 ρ a w Q hS hN hρ hK=>h W0 Fr ρ0 ρ a w Q hS hN hρ λe S' ρ' a' w' h'=>hK e S' ρ' a' w' (hk e S' h')
theorem Wp.seq{x y:Code}{K1:Xt->St->Prop}(h:Wp P N0 x S K1)(hn:∀ S',K1 .normal S'->Wp P N0 y S' K)(hx:∀ id S',K1 (.exit id) S'->K (.exit id) S')(hr:∀ S',K1 .ret S'->K .ret S'):Wp P N0 (.seq x y) S K:=by
 intro W0 Fr ρ0 ρ a w Q hS hN hρ hK;refine wp_seq (h W0 Fr ρ0 ρ a w _ hS hN hρ λe S' ρ' a' w' h' hS' hN' hρ'=>?_)
 cases e with
 | normal=>exact hn S' h' W0 Fr ρ0 ρ' a' w' Q hS' hN' hρ' hK
 | exit id=>exact hK (.exit id) S' ρ' a' w' (hx id S' h') hS' hN' hρ'
 | ret=>exact hK .ret S' ρ' a' w' (hr S' h') hS' hN' hρ'
theorem Wp.block{id:Nat}{x:Code}(h:Wp P N0 x S (λe S'=>match e with
  | .exit j=>match Nat.beq j id with
   | true=>K .normal S'
   | false=>K (.exit j) S'
  | e=>K e S')):Wp P N0 (.block id x) S K:=by
 intro W0 Fr ρ0 ρ a w Q hS hN hρ hK;refine wp_block (h W0 Fr ρ0 ρ a w _ hS hN hρ λe S' ρ' a' w' h' hS' hN' hρ'=>?_)
 cases e with
 | normal=>exact hK .normal S' ρ' a' w' h' hS' hN' hρ'
 | ret=>exact hK .ret S' ρ' a' w' h' hS' hN' hρ'
 | exit j =>
  simp only at h';simp only[Exit.inBlock];split at h'
  ·rename_i hj;rw[if_pos (eB9 hj)];exact hK .normal S' ρ' a' w' h' hS' hN' hρ'
  ·rename_i hj;rw[if_neg (λe=>by subst e;simp at hj)];exact hK (.exit j) S' ρ' a' w' h' hS' hN' hρ'
theorem Wp.loop{x:Code}{ι:Type}(I:ι->St)(μ:ι->Nat)(i0:ι)(h0:B6 N0 S (I i0))
  (hr:∀ i,Wp P N0 x (I i) (λe S'=>match e with
   | .normal=>∃ i',μ i'<μ i/\B6 N0 S' (I i')
   | e=>K e S')):Wp P N0 (.loop x) S K:=by
 intro W0 Fr ρ0 ρ a w Q hS hN hρ hK
 have a7b:∀ {S1:St} {i:ι},B6 N0 S1 (I i)->∀ {ρ1 a1 w1},Sat W0 Fr S1 ρ1 a1 w1->(∀ n,n<N0->ρ1 n=ρ0 n)->
   ∃ ρ',Sat W0 Fr (I i) ρ' a1 w1/\N0<=(I i).N/\∀ n,n<N0->ρ' n=ρ0 n:=by
  intro S1 i hR ρ1 a1 w1 hS1 hρ1;obtain⟨ρ',h1,h2⟩:=hR.2 W0 Fr ρ1 a1 w1 hS1;exact⟨ρ',h1,hR.1,λn hn=>(h2 n hn).trans (hρ1 n hn)⟩
 refine a0g (λi a w=>∃ ρ',Sat W0 Fr (I i) ρ' a w/\N0<=(I i).N/\∀ n,n<N0->ρ' n=ρ0 n) μ ?_ (a7b h0 hS hρ);rintro i a1 w1 ⟨ρ1,hS1,hN1,hρ1⟩;refine hr i W0 Fr ρ0 ρ1 a1 w1 _ hS1 hN1 hρ1 λe S' ρ' a' w' h' hS' hN' hρ'=>?_
 cases e with
 | normal =>
  obtain⟨i',hlt,hR⟩:=h';exact⟨i',a7b hR hS' hρ',hlt⟩
 | exit id=>exact hK (.exit id) S' ρ' a' w' h' hS' hN' hρ'
 | ret=>exact hK .ret S' ρ' a' w' h' hS' hN' hρ'
def b3L(t:Nat):Slots->Bool
 | []=>false
 | (m,_) :: r=>Nat.beq m t||b3L t r
def a2p:Slots->Slots->Bool
 | [],_=>true
 | (t,_) :: r,s => !b3L t s&&a2p r s
def b9h(t:Nat):z7->Bool
 | []=>false
 | (m,_) :: r=>Nat.beq m t||b9h t r
def a3b:z7->z7->Bool
 | [],_=>true
 | (t,_) :: r,s => !b9h t s&&a3b r s
structure b6l (S S':St):Prop where
 nt:S'.nt=S.nt
 sl:S'.sl.drop (S'.sl.length-S.sl.length)=S.sl
 ks:a2p (S'.sl.take (S'.sl.length-S.sl.length)) S.sl=true
 hp:S'.H.drop (S'.H.length-S.H.length)=S.H
 kh:a3b (S'.H.take (S'.H.length-S.H.length)) S.H=true
theorem a7L{t:Nat}:∀ {s:Slots},b3L t s=false->slot s t=none
 | [],_=>rfl
 | (m,v) :: r,h=>by
  simp only[b3L,Bool.or_eq_false_iff]at h;rw[G4,if_neg (λe=>by subst e;simp at h),a7L h.2]
theorem a7v{s:Slots}:∀ {p:Slots},a2p p s=true->∀ t v,slot s t=some v->slot (p++s) t=some v
 | [],_,_,_,h=>h
 | (m,u) :: r,h,t,v,hv=>by
  simp only[a2p,bA9,Bool.not_eq_true']at h;have hm:m≠t:=λe=>by subst e;rw[a7L h.1]at hv;cases hv
  rw[List.cons_append,G4,if_neg hm];exact a7v h.2 t v hv
theorem a7G{t:Nat}:∀ {s:z7},b9h t s=false->look s t=none
 | [],_=>rfl
 | (m,v) :: r,h=>by
  simp only[b9h,Bool.or_eq_false_iff]at h;rw[g8,if_neg (λe=>by subst e;simp at h),a7G h.2]
theorem b0q{s:z7}:∀ {p:z7},a3b p s=true->∀ t v,look s t=some v->look (p++s) t=some v
 | [],_,_,_,h=>h
 | (m,u) :: r,h,t,v,hv=>by
  simp only[a3b,bA9,Bool.not_eq_true']at h;have hm:m≠t:=λe=>by subst e;rw[a7G h.1]at hv;cases hv
  rw[List.cons_append,g8,if_neg hm];exact b0q h.2 t v hv
theorem b6l.slot{S':St}(h:b6l S S'){t:Nat}{v:SV}(hv:slot S.sl t=some v):Sx.slot S'.sl t=some v:=by
 have:=a7v h.ks t v hv;rw[<-List.take_append_drop (S'.sl.length-S.sl.length) S'.sl,h.sl];exact this
theorem b6l.look{S':St}(h:b6l S S'){n:Nm}{o:Ob}(hv:Sx.look S.H n=some o):Sx.look S'.H n=some o:=by
 have:=b0q h.kh n o hv;rw[<-List.take_append_drop (S'.H.length-S.H.length) S'.H,h.hp];exact this
theorem Wp.keep{x y:Code}(Φ:Prop)(h:Wp P S.N x S (λe S'=>match e with
   | .normal=>Φ/\b6l S S'
   | e=>K e S'))
  (hy:Φ->Wp P N0 y S K):Wp P N0 (.seq x y) S K:=by
 intro W0 Fr ρ0 ρ a w Q hS hN hρ hK;refine wp_seq (h W0 Fr ρ ρ a w _ hS (Nat.le_refl _) (λ_ _=>rfl) λe S' ρ' a' w' h' hS' hN' hρ'=>?_);have hρ0:∀ n,n<N0->ρ' n=ρ0 n:=λn hn=>(hρ' n (Nat.lt_of_lt_of_le hn hN)).trans (hρ n hn)
 cases e with
 | normal =>
  obtain⟨hΦ,hk⟩:=h';refine hy hΦ W0 Fr ρ0 ρ' a' w' Q ⟨?_,?_⟩ hN hρ0 hK
  ·exact {
    os:=hS'.h.os,tape:=hS'.h.tape,output:=hS'.h.output,size:=hS'.h.size,frlt:=hS'.h.frlt,frame:=hS'.h.frame
    used:=hS.h.used
    bd:=hS.h.bd
    obj:=λn o hn=>hS'.h.obj n o (hk.look hn)
    inj:=λn m o o' p q hn hm=>hS'.h.inj n m o o' p q (hk.look hn) (hk.look hm)
    free:=λn o p hn=>hS'.h.free n o p (hk.look hn)
    rawd:=λn o ts D sz F hn hr hc =>
     have k:=hS'.h.rawd n o ts D sz F (hk.look hn) hr hc
     ⟨k.sat,k.free,λm o' q hm=>k.sep m o' q (hk.look hm),λm o' ts' D' sz' F' hm=>k.sepr m o' ts' D' sz' F' (hk.look hm)⟩}
  ·exact {
    nd:=hS'.s.nd
    size:=by rw[hS'.s.size,hk.nt]
    bd:=hS.s.bd
    val:=λt v hv=>hS'.s.val t v (hk.slot hv)}
 | exit id=>exact hK (.exit id) S' ρ' a' w' h' hS' (Nat.le_trans hN hN') hρ0
 | ret=>exact hK .ret S' ρ' a' w' h' hS' (Nat.le_trans hN hN') hρ0
end
theorem a6u {P:Program} {G:Ctx} (hG:A5 P G) {f:Nat} {fn:Func} {c:Code} (hf:P.funcs[f]? = some fn) (hb:fn.body=some c) (hnm:(fn.name == "runtime.NumGoroutine")=false) {F:PF}
  (h:∀ args v p,F args=some (v,p)->okP p->v.closed=true/\F3 args=true/\Nat.ble args.length fn.ntmps=true/\
   Wp P 0 c (z6 fn.ntmps args [] 0) (A0 G.E.T fn.results.toList λ_ v'=>eqv v' v)):F1 P f F:=by
 intro args v p hF hp;obtain⟨h1,h2,h3,h4⟩:=h args v p hF hp;refine⟨h1,λρ w=>.inl ⟨⟨fn,hf,hnm,by rw[hb];rfl⟩,?_⟩⟩;refine calls_of_wp hf hb ?_
 have hH:HSat w (·< w.heap.size) (·< 0) [] ρ w :=
  {os:=rfl,tape:=rfl,output:=rfl,size:=Nat.le_refl _,frlt:=λ_ h=>h,frame:=λ_ _=>rfl
   used:=λn o hn=>by simp[look]at hn
   bd:=λn o hn=>by simp[look]at hn
   obj:=λn o hn=>by simp[look]at hn
   inj:=λn m o o' p q hn=>by simp[look]at hn
   free:=λn o p hn=>by simp[look]at hn
   rawd:=λn o ts D sz F hn=>by simp[look]at hn}
 refine h4 w (·< w.heap.size) ρ ρ _ w _ (a6v hH (I4 _ _ h2) (Nat.le_of_ble_eq_true h3)) (Nat.zero_le _) (λ_ _=>rfl) ?_;intro e S' ρ' a' w' hK hS hN hρ
 have fin:a7q G.E.T fn.results.toList (λ_ v'=>eqv v' v) S'->a'.defers=[]/\∃ u,(results fn a'.tmps).run P w'=.ok u w'/\(Ending.returned u=.returned (v.den ρ)/\Below w.heap.size w w'):=by
  intro hr;unfold a7q at hr;split at hr
  ·rename_i vs q hvs;obtain⟨hq,he⟩:=W2 hr;obtain⟨h5,h6⟩:=a2K hG.E.T hS hvs hq;refine⟨hS.s.nd,_,h5,?_,⟨hS.h.os,hS.h.tape,hS.h.output,hS.h.size,λk hk=>hS.h.frame k hk⟩⟩;rw[a5u ρ' _ _ he,SV.den_closed ρ ρ' h1]
  ·exact hr.elim
 cases e with
 | normal=>exact fin hK
 | ret=>exact fin hK
 | exit id=>exact hK.elim
theorem a1p {P:Program} {f:Nat} {fn:Func} {e:Array Value->Sem Value} (hf:P.funcs[f]? = some fn) (hb:fn.body.isNone=true) (hnm:(fn.name == "runtime.NumGoroutine")=false) (h1:Extern.findNext fn=none) (h2:Extern.find fn=some e) {F:PF}
  (h:∀ args v p,F args=some (v,p)->okP p->v.closed=true/\∀ (ρ:Rho) (w:World),(e (w5 ρ args).toArray).run P w=.ok (v.den ρ) w):F1 P f F:=by
 intro args v p hF hp;obtain⟨h3,h4⟩:=h args v p hF hp;refine⟨h3,λρ w=>.inr ⟨v.den ρ,w,?_,rfl,Below.refl _ _⟩⟩;simp only[callFunc,Sem.run_bind,run_program,Result.andThen_ok,hf,hnm,hb,Bool.false_eq_true,if_false,if_true,run_mark,h1,h2,h4,Sem.run_pure]
abbrev Sig:=Nm->Option Nm
def Rho.under(ρ:Rho)(σ:Sig):Rho:=λn=>match σ n with
 | some m=>ρ m
 | none=>none
def E9:Option Nm->Nm->Prop
 | some m,n=>match Nat.beq m n with
  | true=>True
  | false=>False
 | none,_=>False
theorem a5Y{o:Option Nm}{n:Nm}(h:E9 o n):o=some n:=by
 cases o with
 | none=>exact h.elim
 | some m =>
  simp only[E9]at h;split at h
  ·rename_i hb;rw[eB9 hb]
  ·exact h.elim
mutual
def w8(σ:Sig):SV->SV->Prop
 | .tt, .tt=>True
 | .ff, .ff=>True
 | .tt, .bool b=>b=true
 | .ff, .bool b=>b=false
 | .bool b, .tt=>b=true
 | .bool b, .ff=>b=false
 | .bool a, .bool b=>a=b
 | .int k a, .int k' b=>match kEq k k' with
  | true=>a=b
  | false=>False
 | .flt k a, .flt k' b=>match a4u k k' with
  | true=>a=b
  | false=>False
 | .str a, .str b=>a=b
 | .ptr n o, .ptr n' o'=>E9 (σ n') n/\o=o'
 | .nilp, .nilp=>True
 | .slc n o l c, .slc n' o' l' c'=>E9 (σ n') n/\o=o'/\l=l'/\c=c'
 | .nils, .nils=>True
 | .slcc n l, .slcc n' l'=>E9 (σ n') n/\l=l'
 | .nils, .slcc n' l'=>match σ n' with
  | none=>l'=0
  | some _=>False
 | .agg a, .agg b=>l9 σ a b
 | .tup a, .tup b=>l9 σ a b
 | .ifc t v, .ifc t' v'=>match Nat.beq t t' with
  | true=>w8 σ v v'
  | false=>False
 | .nili, .nili=>True
 | .fn f a c, .fn f' a' c'=>f=f'/\l9 σ a a'/\l9 σ c c'
 | .nilf, .nilf=>True
 | .sla a l c, .sla a' l' c'=>a=a'/\l=l'/\c=c'
 | .pb n b c, .pb n' b' c'=>E9 (σ n') n/\b=b'/\c=c'
 | .dv n v, .dv n' v'=>E9 (σ n') n/\v=v'
 | .slb n b c l k, .slb n' b' c' l' k'=>E9 (σ n') n/\b=b'/\c=c'/\l=l'/\k=k'
 | .nils, .dv _ v=>v=.slice none 0 0
 | .nilp, .dv _ v=>v=.pointer none
 | .nili, .dv _ v=>v=.nilIface
 | .nili, .opt b _ _=>b=false
 | .opt b _ _, .nili=>b=false
 | .ifc t v, .opt b t' v'=>match Nat.beq t t' with
  | true=>b=true/\w8 σ v v'
  | false=>False
 | .opt b t v, .ifc t' v'=>match Nat.beq t t' with
  | true=>b=true/\w8 σ v v'
  | false=>False
 | .opt b t v, .opt b' t' v'=>match Nat.beq t t' with
  | true=>b=b'/\w8 σ v v'
  | false=>False
 | .pb n b c, .dv n' v=>E9 (σ n') n/\v=.pointer (some ⟨b,c,none⟩)
 | .slb n b c l k, .dv n' v=>E9 (σ n') n/\v=.slice (some ⟨b,c,none⟩) l k
 | .dv n v, .pb n' b c=>E9 (σ n') n/\v=.pointer (some ⟨b,c,none⟩)
 | .dv n v, .slb n' b c l k=>E9 (σ n') n/\v=.slice (some ⟨b,c,none⟩) l k
 | _,_=>False
def l9(σ:Sig):List SV->List SV->Prop
 | [],[]=>True
 | x :: xs,y :: ys=>w8 σ x y/\l9 σ xs ys
 | _,_=>False
end
theorem a6J{ρ:Rho}{σ:Sig}{n n':Nm}(h:E9 (σ n') n)(o:Nat):ρ.addr n o=(ρ.under σ).addr n' o:=by
 simp[Rho.addr,Rho.under,a5Y h]
theorem b1j{ρ:Rho}{σ:Sig}{n n':Nm}(h:E9 (σ n') n):ρ.addrC n=(ρ.under σ).addrC n':=by
 simp[Rho.addrC,Rho.under,a5Y h]
theorem b4v{ρ:Rho}{σ:Sig}{n n':Nm}(h:E9 (σ n') n):ρ.cap n=(ρ.under σ).cap n':=by
 simp[Rho.cap,Rho.under,a5Y h]
mutual
theorem I9(ρ:Rho)(σ:Sig):∀(x y:SV),w8 σ x y->x.den ρ=y.den (ρ.under σ)
 | .agg a,y,h=>by cases y <;> simp only[w8]at h;simp[SV.den,Y0 ρ σ a _ h]
 | .tup a,y,h=>by cases y <;> simp only[w8]at h;simp[SV.den,Y0 ρ σ a _ h]
 | .ifc t v,y,h=>by
  cases y <;> simp only[w8]at h
  ·split at h
   ·rename_i ht;have:=eB9 ht;subst this;simp[SV.den,I9 ρ σ v _ h]
   ·exact h.elim
  ·split at h
   ·rename_i ht;have:=eB9 ht;subst this;obtain⟨rfl,h⟩:=h;simp[SV.den,I9 ρ σ v _ h]
   ·exact h.elim
 | .opt b t v,y,h=>by
  cases y <;> simp only[w8]at h
  ·split at h
   ·rename_i ht;have:=eB9 ht;subst this;obtain⟨rfl,h⟩:=h;simp[SV.den,I9 ρ σ v _ h]
   ·exact h.elim
  ·subst h;rfl
  ·split at h
   ·rename_i ht;have:=eB9 ht;subst this;obtain⟨rfl,h⟩:=h;cases b <;> simp[SV.den,I9 ρ σ v _ h]
   ·exact h.elim
 | .fn f a c,y,h=>by
  cases y <;> simp only[w8]at h
  obtain⟨rfl,h1,h2⟩:=h;simp[SV.den,Y0 ρ σ a _ h1,Y0 ρ σ c _ h2]
 | .int k a,y,h=>by
  cases y <;> simp only[w8]at h
  split at h
  ·rename_i ht;have:=a0j ht;subst this;simp[SV.den,h]
  ·exact h.elim
 | .flt k a,y,h=>by
  cases y <;> simp only[w8]at h
  split at h
  ·rename_i ht;have:=Q5 ht;subst this;simp[SV.den,h]
  ·exact h.elim
 | .ptr n o,y,h=>by
  cases y <;> simp only[w8]at h
  obtain⟨h1,rfl⟩:=h;simp[SV.den,a6J h1]
 | .slc n o l c,y,h=>by
  cases y <;> simp only[w8]at h
  obtain⟨h1,rfl,rfl,rfl⟩:=h;simp[SV.den,a6J h1]
 | .slcc n l,y,h=>by
  cases y <;> simp only[w8]at h
  obtain⟨h1,rfl⟩:=h;simp[SV.den,b1j h1,b4v h1]
 | .nils,y,h=>by
  cases y <;> simp only[w8]at h
  ·rfl
  ·split at h
   ·rename_i hs;subst h;simp[SV.den,Rho.addrC,Rho.cap,Rho.under,hs]
   ·exact h.elim
  ·subst h;simp[SV.den,Value.oneCell']
 | .sla a l c,y,h=>by
  cases y <;> simp only[w8]at h
  obtain⟨rfl,rfl,rfl⟩:=h;rfl
 | .pb n b c,y,h=>by
  cases y <;> simp only[w8]at h
  ·obtain⟨_,rfl,rfl⟩:=h;rfl
  ·obtain⟨_,rfl⟩:=h;simp[SV.den,Value.oneCell']
 | .dv n v,y,h=>by
  cases y <;> simp only[w8]at h
  ·obtain⟨_,rfl⟩:=h;simp[SV.den,Value.oneCell']
  ·obtain⟨_,rfl⟩:=h;rfl
  ·obtain⟨_,rfl⟩:=h;simp[SV.den,Value.oneCell']
 | .slb n b c l k,y,h=>by
  cases y <;> simp only[w8]at h
  ·obtain⟨_,rfl⟩:=h;simp[SV.den,Value.oneCell']
  ·obtain⟨_,rfl,rfl,rfl,rfl⟩:=h;rfl
 | .tt,y,h | .ff,y,h | .bool _,y,h | .str _,y,h | .nilp,y,h | .nili,y,h | .nilf,y,h=>by
  cases y <;> simp_all[w8,SV.den,Value.oneCell']
theorem Y0(ρ:Rho)(σ:Sig):∀(x y:List SV),l9 σ x y->w5 ρ x=w5 (ρ.under σ) y
 | [],y,h=>by cases y <;> simp_all[l9,w5]
 | x :: r,y,h=>by
  cases y with
  | nil=>simp[l9]at h
  | cons u s=>simp only[l9]at h;simp[w5,I9 ρ σ x u h.1,Y0 ρ σ r s h.2]
end
mutual
def SV.und(N:Nat):SV->Bool
 | .ptr n _=>Nat.blt n N
 | .slc n _ _ _=>Nat.blt n N
 | .slcc n _=>Nat.blt n N
 | .pb n _ _=>Nat.blt n N
 | .dv n _=>Nat.blt n N
 | .slb n _ _ _ _=>Nat.blt n N
 | .agg cs=>a0m N cs
 | .tup vs=>a0m N vs
 | .ifc _ v=>v.und N
 | .opt _ _ v=>v.und N
 | .fn _ a c=>a0m N a&&a0m N c
 | _=>true
def a0m(N:Nat):List SV->Bool
 | []=>true
 | v :: r=>v.und N&&a0m N r
end
theorem a2P{n m:Nat}(h:Nat.blt n m=true):n<m:=by
 have:=Nat.le_of_ble_eq_true h;omega
mutual
theorem SV.und_bd{N:Nat}:∀ v:SV,v.und N=true->v.bd (·< N)
 | .ptr n _=>by intro h;exact a2P h
 | .slc n _ _ _=>by intro h;exact a2P h
 | .slcc n _=>by intro h;exact a2P h
 | .pb n _ _ | .dv n _ | .slb n _ _ _ _=>by intro h;exact a2P h
 | .agg cs=>by simpa [SV.bd,SV.und]using a0c cs
 | .tup cs=>by simpa [SV.bd,SV.und]using a0c cs
 | .ifc _ v=>by simpa [SV.bd,SV.und]using SV.und_bd v
 | .opt _ _ v=>by simpa [SV.bd,SV.und]using SV.und_bd v
 | .fn _ a c=>by simpa [SV.bd,SV.und]using λh1 h2=>⟨a0c a h1,a0c c h2⟩
 | .tt | .ff | .bool _ | .int _ _ | .flt _ _ | .str _ | .nilp | .nils | .nili | .nilf | .sla _ _ _=>by simp[SV.bd]
theorem a0c{N:Nat}:∀ l:List SV,a0m N l=true->bdL (·< N) l
 | []=>by simp[bdL]
 | v :: r=>by simpa [bdL,a0m]using λh1 h2=>⟨SV.und_bd v h1,a0c r h2⟩
end
def b4g(σ:Sig)(i n:Nat):List SV->List SV->Prop
 | [],_=>n=i
 | x :: xs,y :: ys=>w8 σ x y/\b4g σ (i+1) n xs ys
 | _ :: _,[]=>False
theorem a5A{σ:Sig}{n:Nat}:∀ {l l':List SV} {i:Nat},b4g σ i n l l'->n=i+l.length/\∀ j,j<l.length->w8 σ ((I3 l j).getD .nilp) ((I3 l' j).getD .nilp)
 | [],_,i,h=>⟨h,λj hj=>by simp at hj⟩
 | x :: xs,y :: ys,i,h=>by
  obtain⟨h1,h2⟩:=h;obtain⟨h3,h4⟩:=a5A h2;refine⟨by simp;omega,λj hj=>?_⟩
  cases j with
  | zero=>simpa [I3]using h1
  | succ j=>simpa [I3]using h4 j (by simpa using hj)
 | _ :: _,[],_,h=>by simp[b4g]at h
def a3U(σ:Sig)(i n:Nat):List SV->List SV->Prop
 | [],[]=>True
 | x :: xs,y :: ys=>(i<n->w8 σ x y)/\a3U σ (i+1) n xs ys
 | [],_ :: _=>n<=i
 | _ :: _,[]=>n<=i
def c4c(σ:Sig)(f:Nat->SV)(i n:Nat):List SV->Prop
 | []=>n<=i
 | y :: ys=>(i<n->w8 σ (f i) y)/\c4c σ f (i+1) n ys
def c4j(σ:Sig)(f:Nat->SV)(i n:Nat):List SV->Prop
 | []=>i<=n
 | y :: ys=>w8 σ (f i) y/\c4j σ f (i+1) n ys
theorem a4V{σ:Sig}{n:Nat}:∀ {l l':List SV} {i:Nat},a3U σ i n l l'->∀ j,i+j<n->w8 σ ((I3 l j).getD .nilp) ((I3 l' j).getD .nilp)
 | [],[],i,_,j,_=>by simp[I3,w8]
 | x :: xs,y :: ys,i,h,j,hj=>by
  obtain⟨h1,h2⟩:=h
  cases j with
  | zero=>simpa [I3]using h1 (by omega)
  | succ j=>simpa [I3]using a4V h2 j (by omega)
 | [],_ :: _,i,h,j,hj=>by have h:n<=i:=h;omega
 | _ :: _,[],i,h,j,hj=>by have h:n<=i:=h;omega
theorem a7H{σ:Sig}{f:Nat->SV}{n:Nat}:∀ {l':List SV} {i:Nat},c4c σ f i n l'->∀ j,i+j<n->w8 σ (f (i+j)) ((I3 l' j).getD .nilp)
 | [],i,h,j,hj=>by have h:n<=i:=h;omega
 | y :: ys,i,h,j,hj=>by
  obtain⟨h1,h2⟩:=h
  cases j with
  | zero=>simpa [I3]using h1 (by omega)
  | succ j =>
   have:=a7H h2 j (by omega);rw[show i+(j+1)=i+1+j by omega];simpa [I3]using this
theorem a7P{σ:Sig}{f:Nat->SV}{n:Nat}:∀ {l':List SV} {i:Nat},c4j σ f i n l'->i+l'.length<=n/\∀ j,j<l'.length->w8 σ (f (i+j)) ((I3 l' j).getD .nilp)
 | [],i,h=>⟨h,λj hj=>by simp at hj⟩
 | y :: ys,i,h=>by
  obtain⟨h1,h2⟩:=h;obtain⟨h3,h4⟩:=a7P h2;refine⟨by simp;omega,λj hj=>?_⟩
  cases j with
  | zero=>simpa [I3]using h1
  | succ j =>
   have:=h4 j (by simpa using hj);rw[show i+(j+1)=i+1+j by omega];simpa [I3]using this
def H2(σ:Sig)(c c':b8):Prop :=
 match c,c' with
 | .cells l, .cells l'=>l9 σ l l'
 | .ints k n g, .ints k' n' g'=>match kEq k k' with
  | true=>n'<=n/\∀ i,i<n'->g i=g' i
  | false=>False
 | .flts k n g, .flts k' n' g'=>match a4u k k' with
  | true=>n'<=n/\∀ i,i<n'->g i=g' i
  | false=>False
 | .cells l, .ints k n g=>match a1N k l with
  | some xs=>n<=xs.length/\∀ i,i<n->xs.getD i 0=g i
  | none=>False
 | .cells l, .flts k n g=>match a1y k l with
  | some xs=>n<=xs.length/\∀ i,i<n->xs.getD i 0=g i
  | none=>False
 | .cells l, .upto n l'=>b4g σ 0 n l l'
 | .upto n l, .upto n' l'=>n'=n/\a3U σ 0 n' l l'
 | .gen n f, .upto n' l'=>n'<=n/\c4c σ f 0 n' l'
 | .gen n f, .cells l'=>c4j σ f 0 n l'
 | .raw ts D sz F, .raw ts' D' sz' F'=>ts=ts'/\F=F'/\sz=sz'/\D=D'
 | _, .raw _ _ _ _=>False
 | c,c'=>c'.size<=c.size/\∀ i,i<c'.size->w8 σ (c.at i) (c'.at i)
theorem a8b{σ:Sig}:∀ {x y:List SV},l9 σ x y->x.length=y.length
 | [],[],_=>rfl
 | [],_ :: _,h=>by simp[l9]at h
 | _ :: _,[],h=>by simp[l9]at h
 | x :: r,y :: s,h=>by simp only[l9]at h;simp[a8b h.2]
theorem a8o{σ:Sig}:∀ {x y:List SV},l9 σ x y->∀ {i:Nat},i<y.length->w8 σ ((I3 x i).getD .nilp) ((I3 y i).getD .nilp)
 | [],[],_,i,h=>by simp at h
 | [],_ :: _,h,_,_=>by simp[l9]at h
 | _ :: _,[],h,_,_=>by simp[l9]at h
 | x :: r,y :: s,h,i,hi=>by
  simp only[l9]at h
  cases i with
  | zero=>simpa [I3]using h.1
  | succ i=>simpa [I3]using a8o h.2 (by simpa using hi)
theorem a2H{σ:Sig}{c c':b8}(h:H2 σ c c'):c'.size<=c.size/\∀(ρ:Rho) i,i<c'.size->(c.at i).den ρ=(c'.at i).den (ρ.under σ):=by
 unfold H2 at h;split at h
 ·refine⟨by simp[b8.size,a8b h],λρ i hi=>I9 ρ σ _ _ (a8o h hi)⟩
 ·split at h
  ·rename_i hk;have:=a0j hk;subst this;exact⟨h.1,λρ i hi=>by simp[b8.at,SV.den,h.2 i hi]⟩
  ·exact h.elim
 ·split at h
  ·rename_i hk;have:=Q5 hk;subst this;exact⟨h.1,λρ i hi=>by simp[b8.at,SV.den,h.2 i hi]⟩
  ·exact h.elim
 ·split at h
  ·rename_i xs hx;have:=P0 hx;subst this;refine⟨by simpa [b8.size]using h.1,λρ i hi=>?_⟩;have hi':i<xs.length:=Nat.lt_of_lt_of_le hi h.1;have:=h.2 i hi;simp only[b8.at,E7,List.getElem?_map,List.getElem?_eq_getElem hi',Option.map_some,Option.getD_some,SV.den];rw[List.getD_eq_getElem?_getD,List.getElem?_eq_getElem hi',Option.getD_some]at this;rw[this]
  ·exact h.elim
 ·split at h
  ·rename_i xs hx;have:=P6 hx;subst this;refine⟨by simpa [b8.size]using h.1,λρ i hi=>?_⟩;have hi':i<xs.length:=Nat.lt_of_lt_of_le hi h.1;have:=h.2 i hi;simp only[b8.at,E7,List.getElem?_map,List.getElem?_eq_getElem hi',Option.map_some,Option.getD_some,SV.den];rw[List.getD_eq_getElem?_getD,List.getElem?_eq_getElem hi',Option.getD_some]at this;rw[this]
  ·exact h.elim
 ·rename_i l n l';obtain⟨h1,h2⟩:=a5A h;rw[Nat.zero_add]at h1;refine⟨by simp[b8.size,h1],λρ i hi=>I9 ρ σ _ _ (h2 i (by have hi':i<n:=hi;omega))⟩
 ·rename_i n l n' l';obtain⟨rfl,h⟩:=h;refine⟨Nat.le_refl _,λρ i hi=>?_⟩;have hi':0+i<n':=by have:i<n':=hi;omega
  exact I9 ρ σ _ _ (a4V h i hi')
 ·rename_i n f n' l';refine⟨h.1,λρ i hi=>?_⟩;have hi':0+i<n':=by have:i<n':=hi;omega
  have:=a7H h.2 i hi';rw[Nat.zero_add]at this;exact I9 ρ σ _ _ this
 ·rename_i n f l';obtain⟨h1,h2⟩:=a7P h;refine⟨by rw[Nat.zero_add]at h1;exact h1,λρ i hi=>?_⟩;have:=h2 i hi;rw[Nat.zero_add]at this;exact I9 ρ σ _ _ this
 ·exact⟨Nat.le_refl _,λρ i hi=>absurd hi (Nat.not_lt_zero i)⟩
 ·exact h.elim
 ·exact⟨h.1,λρ i hi=>I9 ρ σ _ _ (h.2 i hi)⟩
theorem a4k{σ:Sig}{c:b8}{ts D sz F}(h:H2 σ c (.raw ts D sz F)):c=.raw ts D sz F:=by
 cases c <;> simp only[H2]at h
 obtain⟨rfl,rfl,rfl,rfl⟩:=h;rfl
def b8.void:b8->Prop
 | .raw _ D _ _=>∀ b,¬D b
 | c=>c.size=0
theorem b8.void_size{c:b8}(h:c.void):c.size=0:=by
 cases c <;> first|exact h|rfl
def obR(σ:Sig)(o o':Ob):Prop :=
 match o'.rw with
 | false=>H2 σ o.c o'.c
 | true=>match o.rw with
  | false=>False
  | true=>o.elem=o'.elem/\o.es=o'.es/\H2 σ o.c o'.c
theorem Q8{σ:Sig}{o o':Ob}(h:obR σ o o'):H2 σ o.c o'.c/\(o'.rw=true->o.rw=true/\o.elem=o'.elem/\o.es=o'.es):=by
 unfold obR at h;split at h
 ·rename_i hr;exact⟨h,λh'=>by rw[hr]at h';cases h'⟩
 ·split at h
  ·exact h.elim
  ·rename_i hr;exact⟨h.2.2,λ_=>⟨hr,h.1,h.2.1⟩⟩
theorem R0.other{w:World}{ρ:Rho}{σ:Sig}{o o':Ob}(h:obR σ o o'){p:Option (Nat×Nat×Nat)}(hs:R0 w ρ o p):R0 w (ρ.under σ) o' p:=by
 obtain⟨hc,hr⟩:=Q8 h;obtain⟨h1,h2⟩:=a2H hc
 cases p with
 | none =>
  have:o.c.size=0:=hs;show o'.c.size=0;omega
 | some q =>
  obtain⟨b,off,cp⟩:=q;refine⟨λi hi=>?_,λh'=>?_,λh'=>hs.2.2 (by omega)⟩
  ·rw[<-h2 ρ i hi];exact hs.1 i (by omega)
  ·obtain⟨h3,h4,h5⟩:=hr h';obtain⟨h6,arr,h7,h8,h9,h10⟩:=hs.2.1 h3;exact⟨h6,arr,by rw[<-h4];exact h7,by omega,λhh=>by rw[<-h5];exact h9 (by rw[h5];exact hh),h10⟩
def b8.und(N:Nat):b8->Prop
 | .cells l=>a0m N l=true
 | .ints _ _ _=>True
 | .flts _ _ _=>True
 | .gen n f=>∀ i,i<n->(f i).und N=true
 | .upto _ l=>a0m N l=true
 | .raw _ _ _ _=>True
theorem b8.und_bd{N:Nat}{c:b8}(h:c.und N):c.bd (·< N):=by
 intro i hi
 cases c with
 | cells l =>
  have:=a0c l h;have hi':i<l.length:=hi;simp only[b8.at,E7,List.getElem?_eq_getElem hi',Option.getD_some];exact(H6 _ l).1 this _ (List.getElem_mem hi')
 | ints k n g=>trivial
 | flts k n g=>trivial
 | gen n f=>exact SV.und_bd _ (h i hi)
 | upto n l =>
  have:=a0c l h;simp only[b8.at,E7]
  cases hg:l[i]? with
  | none=>trivial
  | some v=>exact(H6 _ l).1 this _ (List.mem_of_getElem? hg)
 | raw ts D sz F=>exact absurd hi (Nat.not_lt_zero i)
abbrev Q7:=List (Nm×Option Nm)
def a1J:Q7->Sig
 | [],n=>some n
 | (m,x) :: r,n=>match Nat.beq m n with
  | true=>x
  | false=>a1J r n
def a4F(σ:Sig)(sl:Slots)(N:Nat):Slots->Prop
 | []=>True
 | (t,v') :: r=>(match slot sl t with
  | some v=>v'.und N=true/\w8 σ v v'
  | none=>False)/\a4F σ sl N r
def a1r(σ:Sig)(H:z7)(N:Nat):z7->Prop
 | []=>True
 | (n,o') :: r=>(Nat.blt n N=true/\o'.c.und N/\match σ n with
  | some m=>match look H m with
   | some o=>obR σ o o'
   | none=>False
  | none=>o'.c.void)/\a1r σ H N r
def a9h(n:Nm):List Nm->Bool
 | []=>false
 | m :: r=>Nat.beq m n||a9h n r
def R9:List Nm->Bool
 | []=>true
 | n :: r => !a9h n r&&R9 r
def Ob.gone:Ob->Bool
 | ⟨false,_, .cells [],_⟩=>true
 | _=>false
theorem Ob.gone_spec{o:Ob}(h:o.gone=true):o.rw=false/\o.c.size=0/\∀ ts D sz F,o.c≠ .raw ts D sz F:=by
 unfold Ob.gone at h;split at h
 ·exact⟨rfl,rfl,λ_ _ _ _ h=>by cases h⟩
 ·cases h
theorem Ob.gone_not{o:Ob}(h:o.rw=true∨0<o.c.size):o.gone=false:=by
 cases hg:o.gone
 ·rfl
 ·obtain⟨h1,h2,_⟩:=Ob.gone_spec hg;rcases h with h|h
  ·rw[h1]at h;cases h
  ·omega
def L7(σ:Sig):z7->List Nm
 | []=>[]
 | (n,o) :: r=>match o.gone with
  | true=>L7 σ r
  | false=>match σ n with
   | some m=>m :: L7 σ r
   | none=>L7 σ r
def b5R(N0:Nat):Q7->Bool
 | []=>true
 | (n,_) :: r=>Nat.ble N0 n&&b5R N0 r
theorem a7T{N0:Nat}:∀ {s:Q7},b5R N0 s=true->∀ n,n<N0->a1J s n=some n
 | [],_,n,_=>rfl
 | (m,x) :: r,h,n,hn=>by
  simp only[b5R,bA9]at h;have hm:=Nat.le_of_ble_eq_true h.1;simp only[a1J];cases hb:Nat.beq m n
  ·exact a7T h.2 n hn
  ·have:=eB9 hb;omega
theorem a8G{σ:Sig}{n m:Nm}:∀ {H:z7} {o:Ob},look H n=some o->o.gone=false->σ n=some m->a9h m (L7 σ H)=true
 | [],o,h,_,_=>by simp[look]at h
 | (k,u) :: r,o,h,hg,hs=>by
  rw[g8]at h;simp only[L7];split at h
  ·rename_i e;subst e;cases h;simp[hs,hg,a9h]
  ·have:=a8G h hg hs;split
   ·exact this
   ·split
    ·simp[a9h,this]
    ·exact this
theorem a3R{σ:Sig}:∀ {H:z7},R9 (L7 σ H)=true->∀ {n m:Nm} {o o':Ob} {x:Nm},look H n=some o->look H m=some o'->o.gone=false->o'.gone=false->n≠m->σ n=some x->σ m=some x->False
 | [],_,n,m,o,o',x,h,_,_,_,_,_,_=>by simp[look]at h
 | (k,u) :: r,hd,n,m,o,o',x,hn,hm,hg,hg',hne,h1,h2=>by
  rw[g8]at hn hm;simp only[L7]at hd;split at hn
  ·rename_i e;subst e;cases hn;rw[if_neg hne]at hm;rw[hg,h1]at hd;simp only[R9,bA9,Bool.not_eq_true']at hd;rw[a8G hm hg' h2]at hd;exact absurd hd.1 (by decide)
  ·split at hm
   ·rename_i e;subst e;cases hm;rw[hg',h2]at hd;simp only[R9,bA9,Bool.not_eq_true']at hd;rw[a8G hn hg h1]at hd;exact absurd hd.1 (by decide)
   ·refine a3R ?_ hn hm hg hg' hne h1 h2;split at hd
    ·exact hd
    ·split at hd
     ·simp only[R9,bA9]at hd;exact hd.2
     ·exact hd
theorem a2g{σ:Sig}{sl:Slots}{N:Nat}:∀ {sl':Slots},a4F σ sl N sl'->∀ t v',slot sl' t=some v'->v'.und N=true/\∃ v,slot sl t=some v/\w8 σ v v'
 | [],_,t,v',h=>by simp[slot]at h
 | (s,u) :: r,h,t,v',hv=>by
  simp only[a4F]at h;rw[G4]at hv;split at hv
  ·rename_i e;subst e;simp only[oI9]at hv;subst hv;have h1:=h.1;split at h1
   ·rename_i v hsv;exact⟨h1.1,v,hsv,h1.2⟩
   ·exact h1.elim
  ·exact a2g h.2 t v' hv
theorem G5{σ:Sig}{H:z7}{N:Nat}:∀ {H':z7},a1r σ H N H'->∀ n o',look H' n=some o'->n<N/\o'.c.bd (·< N)/\
  ((∃ m o,σ n=some m/\look H m=some o/\obR σ o o')∨(σ n=none/\o'.c.void))
 | [],_,n,o',h=>by simp[look]at h
 | (s,u) :: r,h,n,o',ho=>by
  simp only[a1r]at h;rw[g8]at ho;split at ho
  ·rename_i e;subst e;simp only[oI9]at ho;subst ho;obtain⟨⟨h1,h2,h3⟩,_⟩:=h;refine⟨a2P h1,b8.und_bd h2,?_⟩;split at h3
   ·rename_i m hm;split at h3
    ·rename_i o hmo;exact .inl ⟨m,o,hm,hmo,h3⟩
    ·exact h3.elim
   ·rename_i hm;exact .inr ⟨hm,h3⟩
  ·exact G5 h.2 n o' ho
theorem HSat.other{W0:World}{Fr:Nat->Prop}{U:Nm->Prop}{H H':z7}{ρ:Rho}{w:World}{σ:Sig}{N:Nat}(h:HSat W0 Fr U H ρ w)(hh:a1r σ H N H')(hd:R9 (L7 σ H')=true) :
  HSat W0 Fr (·< N) H' (ρ.under σ) w where
 os:=h.os
 tape:=h.tape
 output:=h.output
 size:=h.size
 frlt:=h.frlt
 frame:=h.frame
 used:=λn o' hn=>(G5 hh n o' hn).1
 bd:=λn o' hn=>(G5 hh n o' hn).2.1
 obj:=λn o' hn=>by
  rcases (G5 hh n o' hn).2.2 with⟨m,o,h1,h2,h3⟩|⟨h1,h2⟩
  ·have:=R0.other h3 (h.obj m o h2);simpa [Rho.under,h1]using this
  ·simp only[Rho.under,h1];exact b8.void_size h2
 inj:=λn m o o' p q hn hm hne hr hr2 hp hq=>by
  rcases (G5 hh n o hn).2.2 with⟨n1,o1,h1,h2,h3⟩|⟨h1,h2⟩
  ·rcases (G5 hh m o' hm).2.2 with⟨n2,o2,h4,h5,h6⟩|⟨h4,h5⟩
   ·simp only[Rho.under,h1,h4]at hp hq;have hne2:n1≠n2:=λe=>a3R hd hn hm (Ob.gone_not (.inl hr)) (Ob.gone_not hr2) hne h1 (e▸h4)
    obtain⟨hc,hr'⟩:=Q8 h3;obtain⟨hc2,hr2'⟩:=Q8 h6;refine h.inj n1 n2 o1 o2 p q h2 h5 hne2 (hr' hr).1 ?_ hp hq;rcases hr2 with hr2|hr2
    ·exact .inl (hr2' hr2).1
    ·exact .inr (Nat.lt_of_lt_of_le hr2 (a2H hc2).1)
   ·simp only[Rho.under,h4]at hq;cases hq
  ·simp only[Rho.under,h1]at hp;cases hp
 free:=λn o' p hn hr hp=>by
  rcases (G5 hh n o' hn).2.2 with⟨m,o,h1,h2,h3⟩|⟨h1,h2⟩
  ·simp only[Rho.under,h1]at hp;exact h.free m o p h2 ((Q8 h3).2 hr).1 hp
  ·simp only[Rho.under,h1]at hp;cases hp
 rawd:=λn o' ts D sz F hn hr hc=>by
  rcases (G5 hh n o' hn).2.2 with⟨m,o,h1,h2,h3⟩|⟨h1,h2⟩
  ·obtain⟨h4,h5⟩:=Q8 h3;rw[hc]at h4;have k:=h.rawd m o ts D sz F h2 (h5 hr).1 (a4k h4);refine⟨k.sat,k.free,λm' o2 q hm' hne hr2 hq=>?_,λm' o2 ts' D' sz' F' hm' hne hr2 hc2=>?_⟩
   ·rcases (G5 hh m' o2 hm').2.2 with⟨m1,o1,h6,h7,h8⟩|⟨h6,h7⟩
    ·simp only[Rho.under,h6]at hq;obtain⟨h9,h10⟩:=Q8 h8;refine k.sep m1 o1 q h7 (λe=>a3R hd hm' hn (Ob.gone_not hr2) (Ob.gone_not (.inl hr)) hne h6 (e▸h1)) ?_ hq;rcases hr2 with hr2|hr2
     ·exact .inl (h10 hr2).1
     ·exact .inr (Nat.lt_of_lt_of_le hr2 (a2H h9).1)
    ·simp only[Rho.under,h6]at hq;cases hq
   ·rcases (G5 hh m' o2 hm').2.2 with⟨m1,o1,h6,h7,h8⟩|⟨h6,h7⟩
    ·obtain⟨h9,h10⟩:=Q8 h8;rw[hc2]at h9;exact k.sepr m1 o1 ts' D' sz' F' h7 (λe=>a3R hd hm' hn (Ob.gone_not (.inl hr2)) (Ob.gone_not (.inl hr)) hne h6 (e▸h1)) (h10 hr2).1 (a4k h9)
    ·rw[hc2]at h7;exact λb _=>h7 b
  ·rw[hc]at h2;exact⟨λb hb=>absurd hb (h2 b),λb hb=>absurd hb (h2 b),λ_ _ _ _ _ _ _=>h2 _,λ_ _ _ _ _ _ _ _ _ _ b hb=>absurd hb (h2 b)⟩
structure b6M (N0:Nat) (s:Q7) (S S':St):Prop where
 N:Nat.ble N0 S'.N=true
 fx:b5R N0 s=true
 nt:S'.nt=S.nt
 dist:R9 (L7 (a1J s) S'.H)=true
 sl:a4F (a1J s) S.sl S'.N S'.sl
 hp:a1r (a1J s) S.H S'.N S'.H
theorem B6.by_names{N0:Nat}{S S':St}(s:Q7)(h:b6M N0 s S S'):B6 N0 S S':=by
 refine⟨Nat.le_of_ble_eq_true h.N,λW0 Fr ρ a w hS=>⟨ρ.under (a1J s),⟨hS.h.other h.hp h.dist,?_⟩,λn hn=>by simp[Rho.under,a7T h.fx n hn]⟩⟩
 exact {
  nd:=hS.s.nd
  size:=by rw[hS.s.size,h.nt]
  bd:=λt v hv=>SV.und_bd _ (a2g h.sl t v hv).1
  val:=λt v hv=>by
   obtain⟨_,u,hu,he⟩:=a2g h.sl t v hv;rw[<-I9 ρ (a1J s) u v he]
   exact hS.s.val t u hu}
mutual
def SV.ren(θ:Nm->Nm):SV->SV
 | .ptr n o=>.ptr (θ n) o
 | .slc n o l c=>.slc (θ n) o l c
 | .slcc n l=>.slcc (θ n) l
 | .agg cs=>.agg (Z4 θ cs)
 | .tup vs=>.tup (Z4 θ vs)
 | .ifc t v=>.ifc t (v.ren θ)
 | .opt b t v=>.opt b t (v.ren θ)
 | .fn f a c=>.fn f (Z4 θ a) (Z4 θ c)
 | .tt=>.tt
 | .ff=>.ff
 | .bool b=>.bool b
 | .int k n=>.int k n
 | .flt k n=>.flt k n
 | .str s=>.str s
 | .nilp=>.nilp
 | .nils=>.nils
 | .nili=>.nili
 | .nilf=>.nilf
 | .sla a l c=>.sla a l c
 | .pb n b c=>.pb (θ n) b c
 | .dv n v=>.dv (θ n) v
 | .slb n b c l k=>.slb (θ n) b c l k
def Z4(θ:Nm->Nm):List SV->List SV
 | []=>[]
 | v :: r=>v.ren θ :: Z4 θ r
end
mutual
theorem SV.ren_den(ρ:Rho)(θ:Nm->Nm):∀ v:SV,(v.ren θ).den ρ=v.den λi=>ρ (θ i)
 | .ptr n o=>by simp[SV.ren,SV.den,Rho.addr]
 | .slc n o l c=>by simp[SV.ren,SV.den,Rho.addr]
 | .slcc n l=>by simp[SV.ren,SV.den,Rho.addrC,Rho.cap]
 | .agg cs=>by simp[SV.ren,SV.den,a1v ρ θ cs]
 | .tup cs=>by simp[SV.ren,SV.den,a1v ρ θ cs]
 | .ifc t v=>by simp[SV.ren,SV.den,SV.ren_den ρ θ v]
 | .opt b t v=>by cases b <;> simp[SV.ren,SV.den,SV.ren_den ρ θ v]
 | .fn f a c=>by simp[SV.ren,SV.den,a1v ρ θ a,a1v ρ θ c]
 | .tt | .ff | .bool _ | .int _ _ | .flt _ _ | .str _ | .nilp | .nils | .nili | .nilf | .sla _ _ _ | .pb _ _ _ | .dv _ _ | .slb _ _ _ _ _=>by simp[SV.ren,SV.den]
theorem a1v(ρ:Rho)(θ:Nm->Nm):∀ l:List SV,w5 ρ (Z4 θ l)=w5 (λi=>ρ (θ i)) l
 | []=>by simp[Z4,w5]
 | v :: r=>by simp[Z4,w5,SV.ren_den ρ θ v,a1v ρ θ r]
end
mutual
theorem SV.ren_bd{U V:Nm->Prop}{θ:Nm->Nm}(h:∀ n,U n->V (θ n)):∀ v:SV,v.bd U->(v.ren θ).bd V
 | .ptr n o=>by simpa [SV.ren,SV.bd]using h n
 | .slc n o l c=>by simpa [SV.ren,SV.bd]using h n
 | .slcc n l=>by simpa [SV.ren,SV.bd]using h n
 | .pb n _ _ | .dv n _ | .slb n _ _ _ _=>by simpa [SV.ren,SV.bd]using h n
 | .agg cs=>by simpa [SV.ren,SV.bd]using a3g h cs
 | .tup cs=>by simpa [SV.ren,SV.bd]using a3g h cs
 | .ifc t v=>by simpa [SV.ren,SV.bd]using SV.ren_bd h v
 | .opt b t v=>by simpa [SV.ren,SV.bd]using SV.ren_bd h v
 | .fn f a c=>by simpa [SV.ren,SV.bd]using λh1 h2=>⟨a3g h a h1,a3g h c h2⟩
 | .tt | .ff | .bool _ | .int _ _ | .flt _ _ | .str _ | .nilp | .nils | .nili | .nilf | .sla _ _ _=>by simp[SV.ren,SV.bd]
theorem a3g{U V:Nm->Prop}{θ:Nm->Nm}(h:∀ n,U n->V (θ n)):∀ l:List SV,bdL U l->bdL V (Z4 θ l)
 | []=>by simp[Z4,bdL]
 | v :: r=>by simpa [Z4,bdL]using λh1 h2=>⟨SV.ren_bd h v h1,a3g h r h2⟩
end
theorem b0Q(θ:Nm->Nm):∀ l:List SV,(Z4 θ l).length=l.length
 | []=>rfl
 | v :: r=>by simp[Z4,b0Q θ r]
theorem b0d(θ:Nm->Nm):∀(l:List SV)(i:Nat),i<l.length->(I3 (Z4 θ l) i).getD .nilp=((I3 l i).getD .nilp).ren θ
 | [],i,h=>by simp at h
 | v :: r,0,_=>by simp[Z4,I3]
 | v :: r,i+1,h=>by simpa [Z4,I3]using b0d θ r i (by simpa using h)
theorem a7N(θ:Nm->Nm):∀(l:List SV)(i:Nat),(I3 (Z4 θ l) i).getD .nilp=((I3 l i).getD .nilp).ren θ
 | [],i=>by simp[Z4,I3,SV.ren]
 | v :: r,0=>by simp[Z4,I3]
 | v :: r,i+1=>by simpa [Z4,I3]using a7N θ r i
def b8.ren(θ:Nm->Nm):b8->b8
 | .cells l=>.cells (Z4 θ l)
 | .ints k n g=>.ints k n g
 | .flts k n g=>.flts k n g
 | .gen n f=>.gen n λi=>(f i).ren θ
 | .upto n l=>.upto n (Z4 θ l)
 | .raw ts D sz F=>.raw ts D sz F
theorem b8.ren_raw{θ:Nm->Nm}{c:b8}{ts D sz F}(h:c.ren θ=.raw ts D sz F):c=.raw ts D sz F:=by
 cases c <;> simp_all[b8.ren]
theorem b8.ren_spec(θ:Nm->Nm)(c:b8):(c.ren θ).size=c.size/\∀ i,i<c.size->(c.ren θ).at i=(c.at i).ren θ:=by
 cases c with
 | cells l=>exact⟨by simp[b8.ren,b8.size,b0Q],λi hi=>by simp only[b8.ren,b8.at];exact b0d θ l i hi⟩
 | ints k n g=>exact⟨rfl,λi hi=>by simp[b8.ren,b8.at,SV.ren]⟩
 | flts k n g=>exact⟨rfl,λi hi=>by simp[b8.ren,b8.at,SV.ren]⟩
 | gen n f=>exact⟨rfl,λi hi=>rfl⟩
 | upto n l=>exact⟨rfl,λi _=>a7N θ l i⟩
 | raw ts D sz F=>exact⟨rfl,λi hi=>absurd hi (Nat.not_lt_zero i)⟩
def Ob.ren(θ:Nm->Nm)(o:Ob):Ob:=⟨o.rw,o.elem,o.c.ren θ,o.es⟩
def W7(θ:Nm->Nm):z7->z7
 | []=>[]
 | (n,o) :: r=>(θ n,o.ren θ) :: W7 θ r
theorem a6O{θ:Nm->Nm}{n:Nm}{o:Ob}:∀ {h:z7},look (W7 θ h) n=some o->∃ i o0,look h i=some o0/\θ i=n/\o=o0.ren θ
 | [],h=>by simp[W7,look]at h
 | (m,u) :: r,h=>by
  simp only[W7,g8]at h;split at h
  ·rename_i e;simp only[oI9]at h;exact⟨m,u,by simp[g8],e,h.symm⟩
  ·rename_i e;obtain⟨i,o0,h1,h2,h3⟩:=a6O h;exact⟨i,o0,by rw[g8,if_neg (λe'=>e (by rw[e',h2]))];exact h1,h2,h3⟩
theorem a2x{θ:Nm->Nm}{i:Nm}{o:Ob}:∀ {h:z7},look h i=some o->∃ o',look (W7 θ h) (θ i)=some o'
 | [],h=>by simp[look]at h
 | (m,u) :: r,h=>by
  rw[g8]at h;simp only[W7,g8];split
  ·exact⟨_,rfl⟩
  ·rename_i e;split at h
   ·rename_i e';subst e';exact absurd rfl e
   ·exact a2x h
structure HC where
 args:List SV
 heap:z7
 val:SV
 wr:z7
 news:z7
 obl:Option Prop
inductive RdM where
 | fail
 | ret (hc:HC)
 | read (n:Nm) (k:Ob->RdM)
def RdM.run(rd:Nm->Option Ob):RdM->List Nm->Option (List Nm×HC)
 | .fail,_=>none
 | .ret hc,sg=>some (sg,hc)
 | .read n k,sg=>match rd n with
  | some o=>(k o).run rd (sg++[n])
  | none=>none
def RdM.All(Q:List (Nm×Ob)->HC->Prop):RdM->List (Nm×Ob)->Prop
 | .fail,_=>True
 | .ret hc,acc=>Q acc hc
 | .read n k,acc=>∀ o,(k o).All Q (acc++[(n,o)])
def y6:List (Nm×Ob)->List Nm
 | []=>[]
 | (n,_) :: r=>n :: y6 r
theorem a1Q:∀ a b,y6 (a++b)=y6 a++y6 b
 | [],b=>rfl
 | (n,o) :: r,b=>by simp[y6,a1Q r b]
theorem RdM.all_run{rd:Nm->Option Ob}{Q:List (Nm×Ob)->HC->Prop}:∀ {m:RdM} {acc:List (Nm×Ob)} {sg:List Nm} {hc:HC},m.All Q acc->(∀ p∈acc,rd p.1=some p.2)->m.run rd (y6 acc)=some (sg,hc)->
  ∃ acc',y6 acc'=sg/\(∀ p∈acc',rd p.1=some p.2)/\Q acc' hc
 | .fail,_,_,_,_,_,h=>by simp[RdM.run]at h
 | .ret hc',acc,sg,hc,hq,hacc,h=>by
  simp only[RdM.run,oI9,pI9]at h;obtain⟨rfl,rfl⟩:=h;exact⟨acc,rfl,hacc,hq⟩
 | .read n k,acc,sg,hc,hq,hacc,h=>by
  simp only[RdM.run]at h;split at h
  ·rename_i o ho;refine RdM.all_run (hq o) (acc:=acc++[(n,o)]) (λp hp=>?_) (by rw[a1Q];exact h);rcases List.mem_append.1 hp with hp|hp
   ·exact hacc p hp
   ·simp only[List.mem_singleton]at hp;subst hp;exact ho
  ·cases h
theorem RdM.run_sg{rd:Nm->Option Ob}:∀ {m:RdM} {sg sg':List Nm} {hc:HC},m.run rd sg=some (sg',hc)->∀ n∈sg,n∈sg'
 | .fail,_,_,_,h=>by simp[RdM.run]at h
 | .ret hc',sg,sg',hc,h=>by
  simp only[RdM.run,oI9,pI9]at h;obtain⟨rfl,rfl⟩:=h;exact λn hn=>hn
 | .read n k,sg,sg',hc,h=>by
  simp only[RdM.run]at h;split at h
  ·exact λm hm=>RdM.run_sg h m (List.mem_append_left _ hm)
  ·cases h
theorem RdM.run_loc{rd rd':Nm->Option Ob}:∀ {m:RdM} {sg sg':List Nm} {hc:HC},m.run rd sg=some (sg',hc)->(∀ n∈sg',rd' n=rd n)->m.run rd' sg=some (sg',hc)
 | .fail,_,_,_,h,_=>by simp[RdM.run]at h
 | .ret hc',sg,sg',hc,h,_=>h
 | .read n k,sg,sg',hc,h,hr=>by
  simp only[RdM.run]at h ⊢;split at h
  ·rename_i o ho;have hn:n∈sg':=RdM.run_sg h n (by simp);rw[hr n hn,ho];exact RdM.run_loc h hr
  ·cases h
def J4(sg:List Nm)(nm:Nm):Nm->Nm:=λi=>match nth sg i with
 | some n=>n
 | none=>nm+(i-sg.length)
def z5(C:List SV->RdM):Con:=λargs rd nm=>match (C args).run rd []with
 | some (sg,hc)=>match R9 sg with
  | true=>some ⟨some (hc.val.ren (J4 sg nm)),W7 (J4 sg nm) hc.wr,W7 (J4 sg nm) hc.news,sg,hc.obl⟩
  | false=>none
 | none=>none
def a3o(σ:Sig)(N:Nat):Nat->List (Nm×Ob)->z7->Prop
 | _,[],[]=>True
 | i,(_,o) :: r,(j,o') :: r'=>Nat.beq i j=true/\o'.c.und N/\obR σ o o'/\a3o σ N (i+1) r r'
 | _,_,_=>False
def a1k(k:Nat)(H0:z7):z7->Bool
 | []=>true
 | (i,_) :: r=>(Nat.blt i k&&match look H0 i with
  | some o=>o.rw
  | none=>false)&&a1k k H0 r
def a1t(k:Nat):z7->Bool
 | []=>true
 | (i,o) :: r=>(Nat.ble k i&&Nat.blt i (k+24)&&o.rw)&&a1t k r
def b0x(wr:z7):z7->Bool
 | []=>true
 | (i,o) :: r=>(match o.rw with
  | true=>match look wr i with
   | some _=>true
   | none=>false
  | false=>true)&&b0x wr r
def y4(sg:List Nm):Sig:=λi=>nth sg i
def K9(k:Nat)(tau:List (Option Nm)):Sig:=λi=>match Nat.blt i k with
 | true=>some i
 | false=>match nth tau (i-k)with
  | some x=>x
  | none=>none
structure a0I (k:Nat) (hc:HC) (S:St) (v:SV) (tau:List (Option Nm)):Prop where
 val:w8 (K9 k tau) v hc.val
 vu:hc.val.und (k+24)=true
 hp:a1r (K9 k tau) S.H (k+24) (hc.wr++hc.news)
 dist:R9 (L7 (K9 k tau) (hc.wr++hc.news))=true
structure b9x (P:Program) (G:Ctx) (c:Code) (fn:Func) (args:List SV) (acc:List (Nm×Ob)) (hc:HC):Prop where
 args:l9 (y4 (y6 acc)) args hc.args
 argsU:a0m acc.length hc.args=true
 argsN:Nat.ble hc.args.length fn.ntmps=true
 pre:a3o (y4 (y6 acc)) acc.length 0 acc hc.heap
 wr:a1k acc.length hc.heap hc.wr=true
 news:a1t acc.length hc.news=true
 rw:b0x hc.wr hc.heap=true
 run:Wp P acc.length c (z6 fn.ntmps hc.args hc.heap acc.length) (A0 G.E.T fn.results.toList λS v=>∃ tau,a0I acc.length hc S v tau)
structure c3G (G:Ctx) (c:Code) (fn:Func) (args:List SV) (acc:List (Nm×Ob)) (hc:HC):Prop where
 args:l9 (y4 (y6 acc)) args hc.args
 argsU:a0m acc.length hc.args=true
 argsN:Nat.ble hc.args.length fn.ntmps=true
 pre:a3o (y4 (y6 acc)) acc.length 0 acc hc.heap
 wr:a1k acc.length hc.heap hc.wr=true
 news:a1t acc.length hc.news=true
 rw:b0x hc.wr hc.heap=true
 run:a0Q G acc.length c (z6 fn.ntmps hc.args hc.heap acc.length) (A0 G.E.T fn.results.toList λS v=>∃ tau,a0I acc.length hc S v tau)
theorem b0t:∀ a,(y6 a).length=a.length
 | []=>rfl
 | (n,o) :: r=>by simp[y6,b0t r]
theorem a1u:∀(a:List (Nm×Ob))(i:Nat),nth (y6 a) i=(a[i]?).map (·.1)
 | [],i=>by simp[y6,nth]
 | (n,o) :: r,0=>by simp[y6,nth]
 | (n,o) :: r,i+1=>by simp[y6,nth,a1u r i]
theorem a6Z{σ:Sig}{N:Nat}{H:z7}:∀ {i:Nat} {acc:List (Nm×Ob)} {h:z7},a3o σ N i acc h->(∀ p∈acc,look H p.1=some p.2)->(∀ j,j<acc.length->σ (i+j)=(acc[j]?).map (·.1))->i+acc.length<=N->a1r σ H N h
 | _,[],[],_,_,_,_=>trivial
 | _,[],_ :: _,h,_,_,_=>by simp[a3o]at h
 | _,_ :: _,[],h,_,_,_=>by simp[a3o]at h
 | i,(n,o) :: r,(j,o') :: r',h,hl,hs,hN=>by
  obtain⟨h1,h2,h3,h4⟩:=h;have hij:=eB9 h1;subst hij;have h0:=hs 0 (by simp);simp only[Nat.add_zero,List.getElem?_cons_zero,Option.map_some]at h0;simp only[a1r]
  refine⟨⟨?_,h2,?_⟩,a6Z h4 (λp hp=>hl p (by simp[hp])) (λj hj=>by
   have:=hs (j+1) (by simpa using hj)
   simpa [Nat.add_assoc,Nat.add_comm 1 j]using this) (by simp at hN;omega)⟩
  ·refine Nat.ble_eq_true_of_le ?_;simp at hN;omega
  ·rw[h0];have:=hl (n,o) (by simp);simp only at this;simp only[this];exact h3
theorem a5T{σ:Sig}{N:Nat}{x:Nm}:∀ {i:Nat} {acc:List (Nm×Ob)} {h:z7},a3o σ N i acc h->(∀ j,j<acc.length->σ (i+j)=(acc[j]?).map (·.1))->a9h x (L7 σ h)=true->a9h x (y6 acc)=true
 | _,[],[],_,_,hm=>hm
 | _,[],_ :: _,h,_,_=>by simp[a3o]at h
 | _,_ :: _,[],h,_,_=>by simp[a3o]at h
 | i,(n,o) :: r,(k,o') :: r',h,hs,hm=>by
  obtain⟨h1,h2,h3,h4⟩:=h;have hij:=eB9 h1;subst hij;have h0:=hs 0 (by simp);simp only[Nat.add_zero,List.getElem?_cons_zero,Option.map_some]at h0
  have ih:=a5T (x:=x) h4 (λj hj=>by
   have:=hs (j+1) (by simpa using hj)
   simpa [Nat.add_assoc,Nat.add_comm 1 j]using this)
  simp only[L7,h0]at hm;simp only[y6,a9h,Bool.or_eq_true];split at hm
  ·exact .inr (ih hm)
  ·simp only[a9h,Bool.or_eq_true]at hm;rcases hm with hm|hm
   ·exact .inl hm
   ·exact .inr (ih hm)
theorem a5a{σ:Sig}{N:Nat}:∀ {i:Nat} {acc:List (Nm×Ob)} {h:z7},R9 (y6 acc)=true->a3o σ N i acc h->(∀ j,j<acc.length->σ (i+j)=(acc[j]?).map (·.1))->R9 (L7 σ h)=true
 | _,[],[],_,_,_=>rfl
 | _,[],_ :: _,_,h,_=>by simp[a3o]at h
 | _,_ :: _,[],_,h,_=>by simp[a3o]at h
 | i,(n,o) :: r,(k,o') :: r',hd,h,hs=>by
  obtain⟨h1,h2,h3,h4⟩:=h;have hij:=eB9 h1;subst hij;have h0:=hs 0 (by simp);simp only[Nat.add_zero,List.getElem?_cons_zero,Option.map_some]at h0
  have hs':∀ j,j<r.length->σ (i+1+j)=(r[j]?).map (·.1):=λj hj=>by
   have:=hs (j+1) (by simpa using hj);simpa [Nat.add_assoc,Nat.add_comm 1 j]using this
  simp only[y6,R9,bA9,Bool.not_eq_true']at hd;have ih:=a5a hd.2 h4 hs';simp only[L7,h0];split
  ·exact ih
  ·simp only[R9,bA9,Bool.not_eq_true'];refine⟨?_,ih⟩;rw[Bool.eq_false_iff];intro hm;rw[a5T h4 hs' hm]at hd;exact absurd hd.1 (by decide)
theorem a1P{k:Nat}{H0:z7}:∀ {h:z7},a1k k H0 h=true->∀(i:Nat) o,look h i=some o->i<k/\∃ o0,look H0 i=some o0/\o0.rw=true
 | [],_,i,o,h=>by simp[look]at h
 | (m,u) :: r,h,i,o,hi=>by
  simp only[a1k,bA9]at h;rw[g8]at hi;split at hi
  ·rename_i e;subst e;refine⟨a2P h.1.1,?_⟩;have h2:=h.1.2;split at h2
   ·rename_i o0 h0;exact⟨o0,h0,h2⟩
   ·cases h2
  ·exact a1P h.2 i o hi
theorem a1w{k:Nat}:∀ {h:z7},a1t k h=true->∀(i:Nat) o,look h i=some o->k<=i/\i<k+24/\o.rw=true
 | [],_,i,o,h=>by simp[look]at h
 | (m,u) :: r,h,i,o,hi=>by
  simp only[a1t,bA9]at h;rw[g8]at hi;split at hi
  ·rename_i e;subst e;simp only[oI9]at hi;subst hi;exact⟨Nat.le_of_ble_eq_true h.1.1.1,a2P h.1.1.2,h.1.2⟩
  ·exact a1w h.2 i o hi
theorem a8l{wr:z7}:∀ {h:z7},b0x wr h=true->∀ i o,look h i=some o->o.rw=true->∃ o',look wr i=some o'
 | [],_,i,o,h,_=>by simp[look]at h
 | (m,u) :: r,h,i,o,hi,hr=>by
  simp only[b0x,bA9]at h;rw[g8]at hi;split at hi
  ·rename_i e;subst e;simp only[oI9]at hi;subst hi;have h1:=h.1;rw[hr]at h1;simp only at h1;split at h1
   ·rename_i o' ho';exact⟨o',ho'⟩
   ·cases h1
  ·exact a8l h.2 i o hi hr
theorem Ob.ren_sat{w:World}{ρ ρ2:Rho}{θ:Nm->Nm}{N:Nat}{o:Ob}{p:Option (Nat×Nat×Nat)}(h:R0 w ρ o p)(hb:o.c.bd (·< N))(hθ:∀ i,i<N->ρ2 (θ i)=ρ i):R0 w ρ2 (o.ren θ) p:=by
 obtain⟨h1,h2⟩:=b8.ren_spec θ o.c
 have hd:∀ i,i<o.c.size->((o.c.ren θ).at i).den ρ2=(o.c.at i).den ρ:=λi hi=>by
  rw[h2 i hi,SV.ren_den];exact SV.den_congr (U:=(·< N)) hθ _ (hb i hi)
 cases p with
 | none =>
  have h0:o.c.size=0:=h;show (o.c.ren θ).size=0;omega
 | some q =>
  obtain⟨b,off,cp⟩:=q;refine⟨λi hi=>?_,λhr=>?_,λhr=>h.2.2 (by rw[<-h1];exact hr)⟩
  ·have hi':i<o.c.size:=by rw[<-h1];exact hi
   show _=some (((o.c.ren θ).at i).den ρ2);rw[hd i hi'];exact h.1 i hi'
  ·obtain⟨h3,arr,h4,h5⟩:=h.2.1 hr;refine⟨h3,arr,h4,?_⟩;show (o.c.ren θ).size<=_/\_;rw[h1];exact h5
theorem a0w{T:Tys}{rs:List ResultVar}{K K':St->SV->Prop}(h:∀ S v,K S v->K' S v){e:Xt}{S:St}(hk:A0 T rs K e S):A0 T rs K' e S:=by
 have key:a7q T rs K S->a7q T rs K' S:=by
  intro hr;unfold a7q at hr ⊢;split at hr
  ·rename_i vs p hvs
   cases p with
   | none=>exact h _ _ hr
   | some p=>exact⟨hr.1,h _ _ hr.2⟩
  ·exact hr.elim
 cases e with
 | normal=>exact key hk
 | ret=>exact key hk
 | exit id=>exact hk.elim
def b3G(W0:World)(Fr:Nat->Prop)(U:Nm->Prop)(H:z7)(ρ:Rho)(nm:Nm)(θ:Nm->Nm)(hc:HC)(en:Ending)(w':World):Prop :=
 ∃ ρ2,(∀ n,U n->ρ2 n=ρ n)/\HSat W0 Fr (UU U nm) (W7 θ hc.wr++(W7 θ hc.news++H)) ρ2 w'/\
  ∃ v,some (hc.val.ren θ)=some v/\v.bd (UU U nm)/\en=.returned (v.den ρ2)
theorem a3E {P:Program} {G:Ctx} (hG:A5 P G) {f:Nat} {fn:Func} {c:Code} (hf:P.funcs[f]? = some fn) (hb:fn.body=some c) (hnm:(fn.name == "runtime.NumGoroutine")=false)
  {W0:World} {Fr:Nat->Prop} {U:Nm->Prop} {H:z7} {ρ:Rho} {w:World} {nm:Nm} {args:List SV} (hH:HSat W0 Fr U H ρ w) (hn:∀ j,j<24->¬U (nm+j))
  {acc:List (Nm×Ob)} (hlook:∀ p∈acc,look H p.1=some p.2) (hd:R9 (y6 acc)=true) {pargs:List SV} {pheap:z7}
  (hcargs:l9 (y4 (y6 acc)) args pargs) (hargsU:a0m acc.length pargs=true) (hargsN:Nat.ble pargs.length fn.ntmps=true) (hpre:a3o (y4 (y6 acc)) acc.length 0 acc pheap)
  {I:Type} {post:I->Prop} {out:I->HC}
  (hkeys:∀ i,post i->a1k acc.length pheap (out i).wr=true/\a1t acc.length (out i).news=true/\b0x (out i).wr pheap=true)
  (hrun:Wp P acc.length c (z6 fn.ntmps pargs pheap acc.length) (A0 G.E.T fn.results.toList λS v=>∃ i,post i/\∃ tau,a0I acc.length (out i) S v tau)) :
  CallsV P f (w5 ρ args).toArray w λen w'=>∃ i,post i/\b3G W0 Fr U H ρ nm (J4 (y6 acc) nm) (out i) en w':=by
 have hσ:∀ j,j<acc.length->y4 (y6 acc) (0+j)=(acc[j]?).map (·.1):=λj _=>by rw[Nat.zero_add];exact a1u acc j
 have hhp:a1r (y4 (y6 acc)) H acc.length pheap:=a6Z hpre hlook hσ (by omega);have hs0:=hH.other hhp (a5a hd hpre hσ)
 let ρc:Rho:=ρ.under (y4 (y6 acc))
 let Frc:Nat->Prop:=λb=>b<w.heap.size/\(∀ i o p,look pheap i=some o->o.rw=true->ρc i=some p->p.1≠b)/\∀ i o ts D sz F,look pheap i=some o->o.rw=true->o.c=.raw ts D sz F->¬D b
 have hs1:HSat w Frc (·< acc.length) pheap ρc w :=
  {hs0 with
   os:=rfl,tape:=rfl,output:=rfl,size:=Nat.le_refl _
   frlt:=λb hb=>hb.1
   frame:=λ_ _=>rfl
   free:=λn o p hn hr hp hF=>hF.2.1 n o p hn hr hp rfl
   rawd:=λn o ts D sz F hn hr hc =>
    have k:=hs0.rawd n o ts D sz F hn hr hc
    ⟨k.sat,λb hb hF=>hF.2.2 n o ts D sz F hn hr hc hb,k.sep,k.sepr⟩}
 have hargs:w5 ρ args=w5 ρc pargs:=Y0 ρ _ _ _ hcargs;refine .inl ⟨⟨fn,hf,hnm,by rw[hb];rfl⟩,?_⟩;refine calls_of_wp hf hb ?_;rw[hargs];refine hrun w Frc ρc ρc _ w _ (a6v hs1 (a0c _ hargsU) (Nat.le_of_ble_eq_true hargsN)) (Nat.le_refl _) (λ_ _=>rfl) ?_;intro e S' ρ' a' w' hK hS hN hρ
 have fin:a7q G.E.T fn.results.toList (λS v=>∃ i,post i/\∃ tau,a0I acc.length (out i) S v tau) S'->a'.defers=[]/\∃ u,(results fn a'.tmps).run P w'=.ok u w'/\
   (∃ i,post i/\b3G W0 Fr U H ρ nm (J4 (y6 acc) nm) (out i) (.returned u) w'):=by
  intro hr;unfold a7q at hr;split at hr
  case h_2=>exact hr.elim
  rename_i vs q hvs;obtain⟨hq,ix,hix,tau,hpost⟩:=W2 hr;obtain⟨hkw,hkn,hkr⟩:=hkeys ix hix;obtain⟨h5,h6⟩:=a2K hG.E.T hS hvs hq;refine⟨hS.s.nd,_,h5,ix,hix,?_⟩;have hp:=hS.h.other hpost.hp hpost.dist
  let ρp:Rho:=ρ'.under (K9 acc.length tau)
  have hpk:∀ i:Nat,i<acc.length->ρp i=ρc i:=by
   intro i hi;show (match K9 acc.length tau i with|some m=>ρ' m|none=>none)=_
   have:K9 acc.length tau i=some i:=by
    unfold K9;rw[show Nat.blt i acc.length=true from Nat.ble_eq_true_of_le hi]
   rw[this];exact hρ i hi
  classical
  let ρ2:Rho:=λn=>if U n then ρ n else if nm<=n/\n<nm+24 then ρp (acc.length+(n-nm))else ρ n
  have hρU:∀ n,U n->ρ2 n=ρ n:=λn hU=>if_pos hU
  let θ:=J4 (y6 acc) nm
  have hθlo:∀ i:Nat,i<acc.length->∃ n o,acc[i]? = some (n,o)/\θ i=n/\look H n=some o:=by
   intro i hi;have hg:=a1u acc i;have he:acc[i]? = some acc[i]:=List.getElem?_eq_getElem hi;rw[he]at hg;refine⟨acc[i].1,acc[i].2,he,?_,hlook acc[i] (List.getElem_mem hi)⟩;show J4 (y6 acc) nm i=_;unfold J4;rw[hg];rfl
  have hθhi:∀ i:Nat,acc.length<=i->θ i=nm+(i-acc.length):=by
   intro i hi;have hg:=a1u acc i;rw[List.getElem?_eq_none hi]at hg;show J4 (y6 acc) nm i=_;unfold J4;rw[hg];simp[b0t]
  have hθ:∀ i:Nat,i<acc.length+24->ρ2 (θ i)=ρp i:=by
   intro i hi;by_cases hk:i<acc.length
   ·obtain⟨n,o,h1,h2,h3⟩:=hθlo i hk;rw[h2,hρU n (hH.used n o h3),hpk i hk];show ρ n=(match y4 (y6 acc) i with|some m=>ρ m|none=>none)
    have:y4 (y6 acc) i=some n:=by
     show nth (y6 acc) i=_;rw[a1u,h1];rfl
    rw[this]
   ·rw[hθhi i (by omega)];have hnU:¬U (nm+(i-acc.length)):=hn (i-acc.length) (show ((i-acc.length:Nat)<24) by omega);show (if U _ then _ else if _ then _ else _)=_;rw[if_neg hnU,if_pos ⟨Nat.le_add_right _ _,Nat.add_lt_add_left (show i-acc.length<24 by omega) nm⟩];congr 1;show acc.length+(nm+(i-acc.length)-nm)=i;omega
  have hθU:∀ i:Nat,i<acc.length+24->UU U nm (θ i):=by
   intro i hi;by_cases hk:i<acc.length
   ·obtain⟨n,o,h1,h2,h3⟩:=hθlo i hk;rw[h2];exact .inl (hH.used n o h3)
   ·rw[hθhi i (by omega)];exact .inr ⟨Nat.le_add_right _ _,Nat.add_lt_add_left (show i-acc.length<24 by omega) nm⟩
  have keyLt:∀ (i:Nat) o,look ((out ix).wr++(out ix).news) i=some o->i<acc.length+24:=by
   intro i o hi;exact hp.used i o hi
  have ent:∀ n o,look (W7 θ (out ix).wr++(W7 θ (out ix).news++H)) n=some o->
    (∃ i o0,look ((out ix).wr++(out ix).news) i=some o0/\θ i=n/\o=o0.ren θ)∨(look H n=some o/\look (W7 θ (out ix).wr) n=none):=by
   intro n o hno;rw[C7]at hno;split at hno
   ·rename_i o1 h1;simp only[oI9]at hno;subst hno;obtain⟨i,o0,h2,h3,h4⟩:=a6O h1;exact .inl ⟨i,o0,by rw[C7,h2],h3,h4⟩
   ·rename_i h1;rw[C7]at hno;split at hno
    ·rename_i o1 h2;simp only[oI9]at hno;subst hno;obtain⟨i,o0,h3,h4,h5⟩:=a6O h2;refine .inl ⟨i,o0,?_,h4,h5⟩;rw[C7]
     cases hw:look (out ix).wr i with
     | none=>exact h3
     | some o2 =>
      have ha:=(a1P hkw i o2 hw).1;have hb':=(a1w hkn i o0 h3).1;omega
    ·exact .inr ⟨hno,h1⟩
  have orig:∀ i o p,look pheap i=some o->o.rw=true->ρc i=some p->∃ n o1,look H n=some o1/\o1.rw=true/\ρ n=some p/\θ i=n:=by
   intro i o p hi hr hpi;obtain⟨h1,_,h2⟩:=G5 hhp i o hi;rcases h2 with⟨m,o1,h3,h4,h5⟩|⟨h3,_⟩
   ·refine⟨m,o1,h4,((Q8 h5).2 hr).1,?_,?_⟩
    ·have:ρc i=ρ m:=by
      show (match y4 (y6 acc) i with|some m=>ρ m|none=>none)=_;rw[h3]
     rw[<-this];exact hpi
    ·show J4 (y6 acc) nm i=m;unfold J4;have:nth (y6 acc) i=some m:=h3;rw[this]
   ·have:ρc i=none:=by
     show (match y4 (y6 acc) i with|some m=>ρ m|none=>none)=_;rw[h3]
    rw[this]at hpi;cases hpi
  have origRaw:∀ i o ts D sz F,look pheap i=some o->o.rw=true->o.c=.raw ts D sz F->(∃ m o1,look H m=some o1/\o1.rw=true/\o1.c=.raw ts D sz F/\θ i=m)∨∀ b,¬D b:=by
   intro i o ts D sz F hi hr hc;obtain⟨h1,_,h2⟩:=G5 hhp i o hi;rcases h2 with⟨m,o1,h3,h4,h5⟩|⟨h3,h4⟩
   ·obtain⟨h6,h7⟩:=Q8 h5;rw[hc]at h6;refine .inl ⟨m,o1,h4,(h7 hr).1,a4k h6,?_⟩;show J4 (y6 acc) nm i=m;unfold J4;have:nth (y6 acc) i=some m:=h3;rw[this]
   ·rw[hc]at h4;exact .inr h4
  have notWr:∀ i o n,look pheap i=some o->o.rw=true->look (W7 θ (out ix).wr) n=none->θ i≠n:=by
   intro i o n hi hr hnw e;obtain⟨o2,ho2⟩:=a8l hkr i o hi hr;obtain⟨o3,ho3⟩:=a2x (θ:=θ) ho2;rw[e,hnw]at ho3;cases ho3
  have oldFr:∀ n o p,look H n=some o->look (W7 θ (out ix).wr) n=none->(o.rw=true∨0<o.c.size)->ρ n=some p->Frc p.1:=by
   intro n o p hno hnw hor hpn;have hob:=hH.obj n o hno;rw[hpn]at hob;refine⟨?_,λi o' p' hi hr hpi e=>?_,λi o' ts D sz F hi hr hc hD=>?_⟩
   ·rcases hor with hor|hor
    ·exact R0.lt (b:=p.1) (off:=p.2.1) (cp:=p.2.2) hob hor
    ·exact a0F (hob.1 0 hor)
   ·obtain⟨m,o1,h1,h2,h3,h4⟩:=orig i o' p' hi hr hpi;have hne:m≠n:=λe'=>notWr i o' n hi hr hnw (h4.trans e')
    exact hH.inj m n o1 o p' p h1 hno hne h2 hor h3 hpn e
   ·rcases origRaw i o' ts D sz F hi hr hc with⟨m,o1,h1,h2,h3,h4⟩|h1
    ·have hne:n≠m:=λe'=>notWr i o' n hi hr hnw (h4.trans e'.symm)
     exact(hH.rawd m o1 ts D sz F h1 h2 h3).sep n o p hno hne hor hpn hD
    ·exact h1 _ hD
  have oldRaw:∀ n o ts D sz F,look H n=some o->look (W7 θ (out ix).wr) n=none->o.rw=true->o.c=.raw ts D sz F->∀ b,D b->Frc b:=by
   intro n o ts D sz F hno hnw hrn hcn b hDb;have k:=hH.rawd n o ts D sz F hno hrn hcn;refine⟨(k.sat b hDb).lt,λi o' p' hi hr hpi e=>?_,λi o' ts' D' sz' F' hi hr hc hD=>?_⟩
   ·obtain⟨m,o1,h1,h2,h3,h4⟩:=orig i o' p' hi hr hpi;have hne:m≠n:=λe'=>notWr i o' n hi hr hnw (h4.trans e')
    exact k.sep m o1 p' h1 hne (.inl h2) h3 (e▸hDb)
   ·rcases origRaw i o' ts' D' sz' F' hi hr hc with⟨m,o1,h1,h2,h3,h4⟩|h1
    ·have hne:m≠n:=λe'=>notWr i o' n hi hr hnw (h4.trans e')
     exact k.sepr m o1 ts' D' sz' F' h1 hne h2 h3 b hDb hD
    ·exact h1 _ hD
  have frSub:∀ b,Fr b->Frc b:=by
   intro b hF;refine⟨Nat.lt_of_lt_of_le (hH.frlt b hF) hH.size,λi o p hi hr hpi e=>?_,λi o ts D sz F hi hr hc hD=>?_⟩
   ·obtain⟨m,o1,h1,h2,h3,_⟩:=orig i o p hi hr hpi;exact hH.free m o1 p h1 h2 h3 (e▸hF)
   ·rcases origRaw i o ts D sz F hi hr hc with⟨m,o1,h1,h2,h3,_⟩|h1
    ·exact(hH.rawd m o1 ts D sz F h1 h2 h3).free b hD hF
    ·exact h1 _ hD
  have newFr:∀ i o p,look ((out ix).wr++(out ix).news) i=some o->ρp i=some p->¬Frc p.1:=by
   intro i o p hi hpi hF;have hi':=hi;rw[C7]at hi';split at hi'
   ·rename_i o1 h1;obtain⟨h2,o0,h3,h4⟩:=a1P hkw i o1 h1;rw[hpk i h2]at hpi;exact hF.2.1 i o0 p h3 h4 hpi rfl
   ·obtain⟨h2,h3,h4⟩:=a1w hkn i o hi';exact hp.free i o p hi h4 hpi hF
  refine⟨ρ2,hρU,?_,_,rfl,SV.ren_bd hθU _ (SV.und_bd _ hpost.vu),?_⟩
  ·refine {
    os:=hS.h.os.trans hH.os,tape:=hS.h.tape.trans hH.tape,output:=hS.h.output.trans hH.output
    size:=Nat.le_trans hH.size hS.h.size
    frlt:=hH.frlt
    frame:=λb hF=>(hS.h.frame b (frSub b hF)).trans (hH.frame b hF)
    used:=λn o hno=>?_
    bd:=λn o hno=>?_
    obj:=λn o hno=>?_
    inj:=λn1 n2 o1 o2 p q h1 h2 hne hr hr2 hp1 hq=>?_
    free:=λn o p hno hr hpn=>?_
    rawd:=λn o ts D sz F hno hr hcn=>?_}
   rotate_right
   ·rcases ent n o hno with⟨i,o0,h1,rfl,rfl⟩|⟨h1,h2⟩
    ·have k:=hp.rawd i o0 ts D sz F h1 hr (b8.ren_raw hcn);refine⟨k.sat,λb hb hF=>k.free b hb (frSub b hF),λm o' q hm hne hr2 hq=>?_,λm o' ts' D' sz' F' hm hne hr2 hc2 b hb hb2=>?_⟩
     ·rcases ent m o' hm with⟨i2,o2,h3,rfl,rfl⟩|⟨h3,h4⟩
      ·rw[hθ i2 (keyLt i2 o2 h3)]at hq;refine k.sep i2 o2 q h3 (λe=>hne (by rw[e])) (hr2.imp id λhh=>?_) hq;have:=(b8.ren_spec θ o2.c).1;have h0:0<(o2.c.ren θ).size:=hh;omega
      ·rw[hρU m (hH.used m o' h3)]at hq;exact λhD=>k.free _ hD (oldFr m o' q h3 h4 hr2 hq)
     ·rcases ent m o' hm with⟨i2,o2,h3,rfl,rfl⟩|⟨h3,h4⟩
      ·exact k.sepr i2 o2 ts' D' sz' F' h3 (λe=>hne (by rw[e])) hr2 (b8.ren_raw hc2) b hb hb2
      ·exact k.free b hb (oldRaw m o' ts' D' sz' F' h3 h4 hr2 hc2 b hb2)
    ·have k:=hH.rawd n o ts D sz F h1 hr hcn;refine⟨λb hb=>(k.sat b hb).congr λ_=>hS.h.frame b (oldRaw n o ts D sz F h1 h2 hr hcn b hb),k.free,λm o' q hm hne hr2 hq hD=>?_,λm o' ts' D' sz' F' hm hne hr2 hc2 b hb hb2=>?_⟩
     ·rcases ent m o' hm with⟨i2,o2,h3,rfl,rfl⟩|⟨h3,h4⟩
      ·rw[hθ i2 (keyLt i2 o2 h3)]at hq;exact newFr i2 o2 q h3 hq (oldRaw n o ts D sz F h1 h2 hr hcn _ hD)
      ·rw[hρU m (hH.used m o' h3)]at hq;exact k.sep m o' q h3 hne hr2 hq hD
     ·rcases ent m o' hm with⟨i2,o2,h3,rfl,rfl⟩|⟨h3,h4⟩
      ·exact(hp.rawd i2 o2 ts' D' sz' F' h3 hr2 (b8.ren_raw hc2)).free b hb2 (oldRaw n o ts D sz F h1 h2 hr hcn b hb)
      ·exact k.sepr m o' ts' D' sz' F' h3 hne hr2 hc2 b hb hb2
   ·rcases ent n o hno with⟨i,o0,h1,rfl,h3⟩|⟨h1,_⟩
    ·exact hθU i (keyLt i o0 h1)
    ·exact .inl (hH.used n o h1)
   ·rcases ent n o hno with⟨i,o0,h1,rfl,rfl⟩|⟨h1,_⟩
    ·intro j hj;obtain⟨hsz,hat⟩:=b8.ren_spec θ o0.c;have hj':j<o0.c.size:=by rw[<-hsz];exact hj
     show ((o0.c.ren θ).at j).bd _;rw[hat j hj'];exact SV.ren_bd hθU _ (hp.bd i o0 h1 j hj')
    ·exact b8.bd_mono a0Y (hH.bd n o h1)
   ·rcases ent n o hno with⟨i,o0,h1,rfl,rfl⟩|⟨h1,h2⟩
    ·rw[hθ i (keyLt i o0 h1)];exact Ob.ren_sat (hp.obj i o0 h1) (hp.bd i o0 h1) hθ
    ·rw[hρU n (hH.used n o h1)];refine(hH.obj n o h1).congr (λb off cp hpn hor _=>?_) (λj hj=>SV.den_congr hρU _ (hH.bd n o h1 j hj));exact hS.h.frame b (oldFr n o (b,off,cp) h1 h2 hor hpn)
   ·rcases ent n1 o1 h1 with⟨i1,o3,h3,rfl,rfl⟩|⟨h3,h4⟩
    ·rw[hθ i1 (keyLt i1 o3 h3)]at hp1;rcases ent n2 o2 h2 with⟨i2,o4,h5,rfl,rfl⟩|⟨h5,h6⟩
     ·rw[hθ i2 (keyLt i2 o4 h5)]at hq;refine hp.inj i1 i2 o3 o4 p q h3 h5 (λe=>hne (by rw[e])) hr ?_ hp1 hq;rcases hr2 with hr2|hr2
      ·exact .inl hr2
      ·refine .inr ?_;have:=(b8.ren_spec θ o4.c).1;have h0:0<(o4.c.ren θ).size:=hr2;omega
     ·rw[hρU n2 (hH.used n2 o2 h5)]at hq;intro e;exact newFr i1 o3 p h3 hp1 (e▸oldFr n2 o2 q h5 h6 hr2 hq)
    ·rw[hρU n1 (hH.used n1 o1 h3)]at hp1;rcases ent n2 o2 h2 with⟨i2,o4,h5,rfl,rfl⟩|⟨h5,h6⟩
     ·rw[hθ i2 (keyLt i2 o4 h5)]at hq;intro e;exact newFr i2 o4 q h5 hq (e▸oldFr n1 o1 p h3 h4 (.inl hr) hp1)
     ·rw[hρU n2 (hH.used n2 o2 h5)]at hq;exact hH.inj n1 n2 o1 o2 p q h3 h5 hne hr hr2 hp1 hq
   ·rcases ent n o hno with⟨i,o0,h1,rfl,rfl⟩|⟨h1,_⟩
    ·rw[hθ i (keyLt i o0 h1)]at hpn;exact λhF=>newFr i o0 p h1 hpn (frSub _ hF)
    ·rw[hρU n (hH.used n o h1)]at hpn;exact hH.free n o p h1 hr hpn
  ·congr 1;rw[I9 ρ' _ _ _ hpost.val,SV.ren_den];exact(SV.den_congr (U:=(·< acc.length+24)) hθ _ (SV.und_bd _ hpost.vu)).symm
 cases e with
 | normal=>exact fin hK
 | ret=>exact fin hK
 | exit id=>exact hK.elim
theorem b0X {P:Program} {G:Ctx} (hG:A5 P G) {f:Nat} {fn:Func} {c:Code} (hf:P.funcs[f]? = some fn) (hb:fn.body=some c) (hnm:(fn.name == "runtime.NumGoroutine")=false) {C:List SV->RdM}
  (h:∀ args,(C args).All (λacc hc=>okP hc.obl->b9x P G c fn args acc hc) []):z8 P f (z5 C) where
 loc:=by
  intro args rd rd' nm e hc hr;unfold z5 at *;split at hc
  ·rename_i sg hc0 hrun;split at hc
   ·rename_i hd;have he:=hc;simp only[oI9]at he;subst he;simp only[RdM.run_loc hrun hr,hd]
   ·cases hc
  ·cases hc
 calls:=by
  intro W0 Fr U H ρ w nm args e hH hbd hn hc ho;unfold z5 at hc;split at hc
  case h_2=>cases hc
  rename_i sg hc0 hrun;split at hc
  case h_2=>cases hc
  rename_i hd;simp only[oI9]at hc;subst hc;obtain⟨acc,hacc,hlook,hQ⟩:=RdM.all_run (rd:=look H) (h args) (acc:=[]) (by simp) hrun;have hcall:=hQ ho;subst hacc
  exact(a3E hG hf hb hnm hH hn hlook hd hcall.args hcall.argsU hcall.argsN hcall.pre (I:=Unit) (post:=λ_=>True) (out:=λ_=>hc0)
   (λ_ _=>⟨hcall.wr,hcall.news,hcall.rw⟩) (Wp.mono hcall.run λ_ _ hk=>a0w (λ_ _ hp=>⟨(),trivial,hp⟩) hk)).mono λ_ _ ⟨_,_,h⟩=>h
theorem RdM.All.imp{Q Q':List (Nm×Ob)->HC->Prop}(hq:∀ acc hc,Q acc hc->Q' acc hc):∀ {m:RdM} {acc:List (Nm×Ob)},m.All Q acc->m.All Q' acc
 | .fail,_,_=>trivial
 | .ret _,_,h=>hq _ _ h
 | .read _ _,_,h=>λo=>RdM.All.imp hq (h o)
theorem c0d {P:Program} {G:Ctx} (hG:A5 P G) {f:Nat} {fn:Func} {c:Code} (hf:P.funcs[f]? = some fn) (hb:fn.body=some c) (hnm:(fn.name == "runtime.NumGoroutine")=false) {C:List SV->RdM}
  (h:∀ args,(C args).All (λacc hc=>okP hc.obl->c3G G c fn args acc hc) []):z8 P f (z5 C) :=
 b0X hG hf hb hnm λargs=>(h args).imp λ_ _ hc ho =>
  let hk:=hc ho
  ⟨hk.args,hk.argsU,hk.argsN,hk.pre,hk.wr,hk.news,hk.rw,Wp.run hG hk.run⟩
def b5V:Q7->Nm->Bool
 | [],_=>false
 | (m,_) :: r,n=>Nat.beq m n||b5V r n
def a0a(N0:Nat)(n':Nm)(m:Option Nm)(s:Q7):Q7 :=
 match Nat.ble N0 n' with
 | true=>match b5V s n' with
  | true=>s
  | false=>(n',m) :: s
 | false=>s
mutual
def b7e(N0:Nat):SV->Q7->Q7
 | .ptr n' _,s=>a0a N0 n' none s
 | .slc n' _ _ _,s=>a0a N0 n' none s
 | .slcc n' _,s=>a0a N0 n' none s
 | .pb n' _ _,s=>a0a N0 n' none s
 | .dv n' _,s=>a0a N0 n' none s
 | .slb n' _ _ _ _,s=>a0a N0 n' none s
 | .agg b,s=>b0O N0 b s
 | .tup b,s=>b0O N0 b s
 | .ifc _ v',s=>b7e N0 v' s
 | .opt _ _ v',s=>b7e N0 v' s
 | .fn _ a' c',s=>b0O N0 c' (b0O N0 a' s)
 | _,s=>s
def b0O(N0:Nat):List SV->Q7->Q7
 | y :: ys,s=>b0O N0 ys (b7e N0 y s)
 | [],s=>s
end
mutual
def a3C(N0:Nat):SV->SV->Q7->Q7
 | .ptr n _, .ptr n' _,s=>a0a N0 n' (some n) s
 | .slc n _ _ _, .slc n' _ _ _,s=>a0a N0 n' (some n) s
 | .slcc n _, .slcc n' _,s=>a0a N0 n' (some n) s
 | .nils, .slcc n' _,s=>a0a N0 n' none s
 | .pb n _ _, .pb n' _ _,s=>a0a N0 n' (some n) s
 | .dv n _, .dv n' _,s=>a0a N0 n' (some n) s
 | .slb n _ _ _ _, .slb n' _ _ _ _,s=>a0a N0 n' (some n) s
 | .agg a, .agg b,s=>a7W N0 a b s
 | .tup a, .tup b,s=>a7W N0 a b s
 | .ifc _ v, .ifc _ v',s=>a3C N0 v v' s
 | .fn _ a c, .fn _ a' c',s=>a7W N0 c c' (a7W N0 a a' s)
 | .nili, .ifc _ v',s=>b7e N0 v' s
 | .nili, .opt _ _ v',s=>b7e N0 v' s
 | .ifc _ v, .opt _ _ v',s=>a3C N0 v v' s
 | .opt _ _ v, .ifc _ v',s=>a3C N0 v v' s
 | .opt _ _ v, .opt _ _ v',s=>a3C N0 v v' s
 | .nilp, .ptr n' _,s=>a0a N0 n' none s
 | _,_,s=>s
def a7W(N0:Nat):List SV->List SV->Q7->Q7
 | x :: xs,y :: ys,s=>a7W N0 xs ys (a3C N0 x y s)
 | _,_,s=>s
end
def b5S(N0:Nat)(sl:Slots):Slots->Q7->Q7
 | [],s=>s
 | (t,v') :: r,s=>b5S N0 sl r (match slot sl t with
  | some v=>a3C N0 v v' s
  | none=>s)
def b6h(N0:Nat)(f:Nat->SV)(i:Nat):List SV->Q7->Q7
 | y :: ys,s=>b6h N0 f (i+1) ys (a3C N0 (f i) y s)
 | [],s=>s
def a9j(N0:Nat):List SV->List SV->Q7->Q7
 | x :: xs,y :: ys,s=>a9j N0 xs ys (a3C N0 x y s)
 | _,ys,s=>b0O N0 ys s
def c6v(N0:Nat)(c c':b8)(s:Q7):Q7 :=
 match c,c' with
 | .cells l, .cells l'=>a7W N0 l l' s
 | .cells l, .upto _ l'=>a9j N0 l l' s
 | .upto _ l, .upto _ l'=>a9j N0 l l' s
 | .gen _ f, .upto _ l'=>b6h N0 f 0 l' s
 | .gen _ f, .cells l'=>b6h N0 f 0 l' s
 | _,_=>s
def b5x:Q7->Nm->Option (Option Nm)
 | [],_=>none
 | (m,x) :: r,n=>match Nat.beq m n with
  | true=>some x
  | false=>b5x r n
def a6q(N0:Nat)(H:z7):z7->Q7->Q7
 | [],s=>s
 | (n',o') :: r,s=>a6q N0 H r (match (match Nat.ble N0 n' with|true=>b5x s n'|false=>some (some n'))with
  | some (some m)=>match look H m with
   | some o=>c6v N0 o.c o'.c s
   | none=>s
  | some none=>match o'.c with
   | .upto _ l'=>b0O N0 l' s
   | .cells l'=>b0O N0 l' s
   | _=>s
  | _=>s)
def a3A(N0:Nat)(S S':St):Q7:=a6q N0 S.H S'.H (a6q N0 S.H S'.H (a6q N0 S.H S'.H (b5S N0 S.sl S'.sl [])))
theorem B6.auto{N0:Nat}{S S':St}(h:b6M N0 (a3A N0 S S') S S'):B6 N0 S S':=B6.by_names _ h
def K6(s:Q7)(n:Nm):Option Nm:=match b5x s n with
 | some x=>x
 | none=>none
def a8R(k:Nat)(hc:HC)(S:St)(v:SV):List (Option Nm) :=
 let s:=a6q k S.H (hc.wr++hc.news) (a6q k S.H (hc.wr++hc.news) (a6q k S.H (hc.wr++hc.news) (a3C k v hc.val [])))
 [K6 s k,K6 s (k+1),K6 s (k+2),K6 s (k+3),K6 s (k+4),K6 s (k+5),K6 s (k+6),K6 s (k+7),K6 s (k+8),K6 s (k+9),K6 s (k+10),K6 s (k+11),K6 s (k+12),K6 s (k+13),K6 s (k+14),K6 s (k+15),K6 s (k+16),K6 s (k+17),K6 s (k+18),K6 s (k+19),K6 s (k+20),K6 s (k+21),K6 s (k+22),K6 s (k+23)]
theorem a8{n:Nm}:E9 (some n) n:=by simp[E9]
mutual
theorem SV.bd_all:∀ v:SV,v.bd λ_=>True
 | .ptr _ _=>trivial
 | .slc _ _ _ _=>trivial
 | .slcc _ _=>trivial
 | .pb _ _ _ | .dv _ _ | .slb _ _ _ _ _=>trivial
 | .agg cs=>a3m cs
 | .tup cs=>a3m cs
 | .ifc _ v=>SV.bd_all v
 | .opt _ _ v=>SV.bd_all v
 | .fn _ a c=>⟨a3m a,a3m c⟩
 | .tt | .ff | .bool _ | .int _ _ | .flt _ _ | .str _ | .nilp | .nils | .nili | .nilf | .sla _ _ _=>by simp[SV.bd]
theorem a3m:∀ l:List SV,bdL (λ_=>True) l
 | []=>trivial
 | v :: r=>⟨SV.bd_all v,a3m r⟩
end
def l7(fn:Func):Code:=match fn.body with
 | some c=>c
 | none=>.skip
theorem p8{n:Int}(h1 : -9223372036854775808<=n)(h2:n<9223372036854775808):IntKind.i64.wrap n=n:=by
 show (if (true&&decide (n % (18446744073709551616:Int)>=9223372036854775808))=true then n % (18446744073709551616:Int)-18446744073709551616 else n % (18446744073709551616:Int))=n;rw[Bool.true_and];split
 ·rename_i h;have h:=oT9 h;omega
 ·rename_i h;have h:¬_:=λh'=>h (decide_eq_true h');omega
theorem b4e{n:Int}(h1:0<=n)(h2:n<18446744073709551616):IntKind.u64.wrap n=n:=by
 show (if (false&&decide (n % (18446744073709551616:Int)>=9223372036854775808))=true then n % (18446744073709551616:Int)-18446744073709551616 else n % (18446744073709551616:Int))=n;rw[Bool.false_and,if_neg (by decide)];omega
def j9(k:IntKind):b8->Option (Nat×(Nat->Int))
 | .cells l=>match a1N k l with
  | some xs=>some (xs.length,λi=>xs.getD i 0)
  | none=>none
 | .ints k' n g=>match kEq k' k with
  | true=>some (n,g)
  | false=>none
 | _=>none
def w7(k:FloatKind):b8->Option (Nat×(Nat->Nat))
 | .cells l=>match a1y k l with
  | some xs=>some (xs.length,λi=>xs.getD i 0)
  | none=>none
 | .flts k' n g=>match a4u k' k with
  | true=>some (n,g)
  | false=>none
 | _=>none
theorem a7d{k:IntKind}{c:b8}{n:Nat}{g:Nat->Int}(h:j9 k c=some (n,g)):c.size=n/\∀ i,i<n->c.at i=.int k (g i):=by
 unfold j9 at h;split at h
 ·split at h
  ·rename_i l xs hxs;simp only[oI9,pI9]at h;obtain⟨rfl,rfl⟩:=h;have:=P0 hxs;subst this;refine⟨by simp[b8.size],λi hi=>?_⟩;simp[b8.at,E7,hi]
  ·cases h
 ·split at h
  ·rename_i hk;have:=a0j hk;subst this;simp only[oI9,pI9]at h;obtain⟨rfl,rfl⟩:=h;exact⟨rfl,λi _=>rfl⟩
  ·cases h
 ·cases h
theorem a7i{k:FloatKind}{c:b8}{n:Nat}{g:Nat->Nat}(h:w7 k c=some (n,g)):c.size=n/\∀ i,i<n->c.at i=.flt k (g i):=by
 unfold w7 at h;split at h
 ·split at h
  ·rename_i l xs hxs;simp only[oI9,pI9]at h;obtain⟨rfl,rfl⟩:=h;have:=P6 hxs;subst this;refine⟨by simp[b8.size],λi hi=>?_⟩;simp[b8.at,E7,hi]
  ·cases h
 ·split at h
  ·rename_i hk;have:=Q5 hk;subst this;simp only[oI9,pI9]at h;obtain⟨rfl,rfl⟩:=h;exact⟨rfl,λi _=>rfl⟩
  ·cases h
 ·cases h
theorem A1(k:IntKind):kEq k k=true:=by cases k <;> rfl
theorem A9(k:FloatKind):a4u k k=true:=by cases k <;> rfl
theorem j5{σ:Sig}{k:IntKind}{c:b8}{n:Nat}{g:Nat->Int}(h:j9 k c=some (n,g)):H2 σ c (.ints k n g)/\H2 σ (.ints k n g) c/\∀ N,c.und N:=by
 obtain⟨h1,h2⟩:=a7d h
 have hr:∀ i,i<n->w8 σ (c.at i) ((b8.ints k n g).at i)/\w8 σ ((b8.ints k n g).at i) (c.at i):=λi hi=>by
  rw[h2 i hi];simp[b8.at,w8,A1]
 cases c with
 | cells l =>
  refine⟨?_,⟨by rw[h1];exact Nat.le_refl _,λi hi=>(hr i (by rw[<-h1];exact hi)).2⟩,λN=>?_⟩
  ·unfold j9 at h;simp only at h;split at h
   ·rename_i xs hxs;simp only[oI9,pI9]at h;obtain⟨rfl,rfl⟩:=h;simp[H2,hxs]
   ·cases h
  unfold j9 at h;simp only at h;split at h
  ·rename_i xs hxs;have:=P0 hxs;subst this;show a0m N _=true;clear h h1 h2 hr hxs
   induction xs with
   | nil=>rfl
   | cons x r ih=>simpa [a0m,SV.und]using ih
  ·cases h
 | ints k' m g' =>
  unfold j9 at h;simp only at h;split at h
  ·rename_i hk;have:=a0j hk;subst this;simp only[oI9,pI9]at h;obtain⟨rfl,rfl⟩:=h;refine⟨?_,?_,λN=>trivial⟩ <;> simp[H2,A1]
  ·cases h
 | flts k' m g'=>simp[j9]at h
 | gen m f=>simp[j9]at h
 | upto m l=>simp[j9]at h
 | raw ts D sz F=>simp[j9]at h
theorem w6{σ:Sig}{k:FloatKind}{c:b8}{n:Nat}{g:Nat->Nat}(h:w7 k c=some (n,g)):H2 σ c (.flts k n g)/\H2 σ (.flts k n g) c/\∀ N,c.und N:=by
 obtain⟨h1,h2⟩:=a7i h
 have hr:∀ i,i<n->w8 σ (c.at i) ((b8.flts k n g).at i)/\w8 σ ((b8.flts k n g).at i) (c.at i):=λi hi=>by
  rw[h2 i hi];simp[b8.at,w8,A9]
 cases c with
 | cells l =>
  refine⟨?_,⟨by rw[h1];exact Nat.le_refl _,λi hi=>(hr i (by rw[<-h1];exact hi)).2⟩,λN=>?_⟩
  ·unfold w7 at h;simp only at h;split at h
   ·rename_i xs hxs;simp only[oI9,pI9]at h;obtain⟨rfl,rfl⟩:=h;simp[H2,hxs]
   ·cases h
  unfold w7 at h;simp only at h;split at h
  ·rename_i xs hxs;have:=P6 hxs;subst this;show a0m N _=true;clear h h1 h2 hr hxs
   induction xs with
   | nil=>rfl
   | cons x r ih=>simpa [a0m,SV.und]using ih
  ·cases h
 | flts k' m g' =>
  unfold w7 at h;simp only at h;split at h
  ·rename_i hk;have:=Q5 hk;subst this;simp only[oI9,pI9]at h;obtain⟨rfl,rfl⟩:=h;refine⟨?_,?_,λN=>trivial⟩ <;> simp[H2,A9]
  ·cases h
 | ints k' m g'=>simp[w7]at h
 | gen m f=>simp[w7]at h
 | upto m l=>simp[w7]at h
 | raw ts D sz F=>simp[w7]at h
end Go.Sx

namespace Go.Fl
open Ieee
theorem lp:double.leastPlace = -1074:=by decide
theorem bnd:double.binade=2 ^ 52:=by decide
theorem c6E:double.infRung=2047*2 ^ 52:=by decide
theorem sgw:double.signWeight=2 ^ 63:=by decide
theorem frb:double.fractionBits=52:=rfl
def Fin(x:Nat):Prop:=x<2 ^ 64/\x % 2 ^ 63<2047*2 ^ 52
def a0h(r:Nat):Nat:=if r<2 ^ 52 then r else(2 ^ 52+r % 2 ^ 52)*2 ^ (r / 2 ^ 52-1)
def V(x:Nat):Int:=if x / 2 ^ 63 % 2=1 then -(a0h (x % 2 ^ 63):Int)else(a0h (x % 2 ^ 63):Int)
theorem J7(s:Bool)(m u v:Nat):signed s m (u+v)=signed s m u*2 ^ v:=by
 unfold signed
 have:((m <<< (u+v):Nat):Int)=(m <<< u:Nat)*2 ^ v:=by
  rw[Nat.shiftLeft_eq,Nat.shiftLeft_eq,Nat.pow_add];push_cast;rw[Int.mul_assoc]
 split
 ·rw[this,Int.neg_mul]
 ·exact this
theorem D5(s:Bool)(m u:Nat):signed s m u=if s then -((m*2 ^ u:Nat):Int)else((m*2 ^ u:Nat):Int):=by
 unfold signed;rw[Nat.shiftLeft_eq]
theorem A8{x:Nat}(h:Fin x):∃ s m i,double.read x=.number s m i/\-1074<=i/\signed s m (i+1074).toNat=V x/\m<2 ^ 53:=by
 obtain⟨h1,h2⟩:=h;unfold Format.read;simp only[sgw,bnd,c6E,lp];by_cases hs:x % 2 ^ 63<2 ^ 52
 ·refine⟨x / 2 ^ 63 % 2==1,x % 2 ^ 63,-1074,by simp[hs],by omega,?_,by omega⟩;rw[D5,V,a0h,if_pos hs];simp
 ·refine⟨x / 2 ^ 63 % 2==1,2 ^ 52+x % 2 ^ 63 % 2 ^ 52,-1074+(x % 2 ^ 63 / 2 ^ 52-1:Nat),by simp[hs,h2],by omega,?_,by omega⟩;rw[D5,V,a0h,if_neg hs];have:(-1074+((x % 2 ^ 63 / 2 ^ 52-1:Nat):Int)+1074).toNat=x % 2 ^ 63 / 2 ^ 52-1:=by omega
  rw[this];simp
theorem L3(a b:Int):compare a b=if a<b then .lt else if a=b then .eq else .gt:=rfl
theorem E8(k:Nat):(0:Int)<2 ^ k:=Int.pow_pos (by decide)
theorem b1M{a b k:Int}(hk:0<k):a*k<b*k↔a<b :=
 ⟨λh=>Int.lt_of_mul_lt_mul_right h (Int.le_of_lt hk),λh=>Int.mul_lt_mul_of_pos_right h hk⟩
theorem a2B(a b:Int)(k:Nat):compare (a*2 ^ k) (b*2 ^ k)=compare a b:=by
 have hp:=E8 k;rw[L3,L3];have h1:(a*2 ^ k<b*2 ^ k)=(a<b):=propext (b1M hp);have h2:(a*2 ^ k=b*2 ^ k)=(a=b):=propext ⟨λh=>Int.eq_of_mul_eq_mul_right (by omega) h,λh=>by rw[h]⟩;simp only[h1,h2]
theorem a8a{x y:Nat}(hx:Fin x)(hy:Fin y):double.order x y=some (compare (V x) (V y)):=by
 obtain⟨s,m,i,h1,h2,h3,_⟩:=A8 hx;obtain⟨t,n,j,h4,h5,h6,_⟩:=A8 hy;unfold Format.order;rw[h1,h4];simp only[Datum.order];congr 1;rw[<-h3,<-h6];have e1:(i+1074).toNat=(i-min i j).toNat+(min i j+1074).toNat:=by omega
 have e2:(j+1074).toNat=(j-min i j).toNat+(min i j+1074).toNat:=by omega
 rw[e1,e2,J7,J7,a2B]
theorem a2j(neg:Bool)(n drop:Nat):2*(Toward.even.cut neg n drop*2 ^ drop)<=2*n+2 ^ drop/\2*n<=2*(Toward.even.cut neg n drop*2 ^ drop)+2 ^ drop:=by
 unfold Toward.cut;simp only[Nat.shiftLeft_eq,Nat.one_mul];by_cases hd:drop<=n.log2+2
 ·rw[Nat.min_eq_left hd];have hg:0<2 ^ drop:=Nat.two_pow_pos _;have hdm:=Nat.div_add_mod n (2 ^ drop);have hlt:=Nat.mod_lt n hg;generalize 2 ^ drop=g at *;have hm:g*(n / g)=n / g*g:=Nat.mul_comm _ _;rw[hm]at hdm;generalize n / g=q at *;generalize n % g=r at *;by_cases h1:g<2*r
  ·simp only[h1,decide_true,Bool.true_or,Bool.toNat_true,Nat.add_mul,Nat.one_mul];omega
  ·by_cases h2:g=2*r
   ·by_cases h3:q % 2=1
    ·have e1:(decide (g<2*r))=false:=by simp[h1]
     have e2:(g==2*r)=true:=by simp[h2]
     have e3:(q % 2==1)=true:=by simp[h3]
     simp only[e1,e2,e3,Bool.false_or,Bool.true_and,Bool.toNat_true,Nat.add_mul,Nat.one_mul];omega
    ·have h3':(q % 2==1)=false:=by simp[h3]
     simp only[h1,h3',decide_false,Bool.and_false,Bool.or_false,Bool.toNat_false,Nat.add_zero];omega
   ·have h2':(g==2*r)=false:=by simp[h2]
    simp only[h1,h2',decide_false,Bool.false_and,Bool.or_false,Bool.toNat_false,Nat.add_zero];omega
 ·have hd':n.log2+2<drop:=by omega
  rw[Nat.min_eq_right (by omega)];have h1:n<2 ^ (n.log2+1):=Nat.lt_log2_self;have h2:2 ^ (n.log2+2)=2*2 ^ (n.log2+1):=by rw[Nat.pow_succ];omega
  have h3:2 ^ (n.log2+2)<=2 ^ drop:=Nat.pow_le_pow_right (by decide) (by omega);have h4:n / 2 ^ (n.log2+2)=0:=Nat.div_eq_of_lt (by omega);have h5:n % 2 ^ (n.log2+2)=n:=Nat.mod_eq_of_lt (by omega);rw[h4,h5];have h6:¬2 ^ (n.log2+2)<2*n:=by omega
  have h7:(2 ^ (n.log2+2)==2*n)=false:=by simp;omega
  simp only[h6,h7,decide_false,Bool.false_and,Bool.or_false,Bool.toNat_false,Nat.add_zero,Nat.zero_mul];omega
theorem a4p(neg:Bool)(k drop:Nat):Toward.even.cut neg (k*2 ^ drop) drop=k:=by
 obtain⟨h1,h2⟩:=a2j neg (k*2 ^ drop) drop;have hg:0<2 ^ drop:=Nat.two_pow_pos _;generalize Toward.even.cut neg (k*2 ^ drop) drop=c at *;generalize 2 ^ drop=g at *;rcases Nat.lt_trichotomy c k with h|h|h
 ·exfalso
  have:c*g+g<=k*g:=by
   calc c*g+g=(c+1)*g:=by rw[Nat.add_mul,Nat.one_mul]
    _<=k*g:=Nat.mul_le_mul_right _ h
  omega
 ·exact h
 ·exfalso
  have:k*g+g<=c*g:=by
   calc k*g+g=(k+1)*g:=by rw[Nat.add_mul,Nat.one_mul]
    _<=c*g:=Nat.mul_le_mul_right _ h
  omega
theorem a2C{r:Nat}(h:r<2 ^ 52):a0h r=r:=by simp[a0h,h]
theorem a0J(E f:Nat)(hf:f<2 ^ 52):a0h ((E+1)*2 ^ 52+f)=(2 ^ 52+f)*2 ^ E:=by
 have h1:¬(E+1)*2 ^ 52+f<2 ^ 52:=by omega
 have h2:((E+1)*2 ^ 52+f) / 2 ^ 52=E+1:=by omega
 have h3:((E+1)*2 ^ 52+f) % 2 ^ 52=f:=by omega
 rw[a0h,if_neg h1,h2,h3];rfl
theorem b5v(E kept:Nat)(h1:kept<=2 ^ 53)(h2:E=0∨2 ^ 52<=kept):a0h (E*2 ^ 52+kept)=kept*2 ^ E:=by
 rcases Nat.lt_or_ge kept (2 ^ 52)with h|h
 ·have:E=0:=by omega
  subst this;simp[a2C (r:=kept) h]
 ·rcases Nat.lt_or_ge kept (2 ^ 53)with h3|h3
  ·have:=a0J E (kept-2 ^ 52) (by omega);rw[show E*2 ^ 52+kept=(E+1)*2 ^ 52+(kept-2 ^ 52) by omega,this,Nat.add_sub_of_le h]
  ·have hk:kept=2 ^ 53:=Nat.le_antisymm h1 h3;subst hk;have h4:=a0J (E+1) 0 (by decide);have h5:E*2 ^ 52+2 ^ 53=(E+1+1)*2 ^ 52+0:=by omega
   rw[h5,h4,Nat.pow_succ 2 E];have h6:(2:Nat) ^ 53=(2 ^ 52+0)*2:=by decide
   rw[h6,Nat.mul_comm (2 ^ E) 2,<-Nat.mul_assoc]
theorem b8o(s:Bool)(r:Nat)(hr:r<2047*2 ^ 52):Fin (double.word s r)/\V (double.word s r)=if s then -(a0h r:Int)else(a0h r:Int):=by
 unfold Format.word V Fin;rw[sgw];cases s
 ·have h1:r / 2 ^ 63 % 2=0:=by omega
  have h2:r % 2 ^ 63=r:=by omega
  simp only[Bool.false_eq_true,if_false,h1,h2];refine⟨⟨by omega,hr⟩,by simp⟩
 ·have h1:(2 ^ 63+r) / 2 ^ 63 % 2=1:=by omega
  have h2:(2 ^ 63+r) % 2 ^ 63=r:=by omega
  simp only[if_true,h1,h2];exact⟨⟨by omega,hr⟩,trivial⟩
def A6(mag:Nat)(place:Int):Int:=max (place+mag.log2-52) (-1074)
def E4(neg:Bool)(mag:Nat)(place:Int):Nat:=Toward.even.cut neg (mag <<< (place-A6 mag place).toNat) (A6 mag place-place).toNat
theorem Z6(neg:Bool){mag:Nat}(hm:mag≠0)(place:Int):E4 neg mag place<=2 ^ 53/\(A6 mag place = -1074∨2 ^ 52<=E4 neg mag place):=by
 have hl1:=Nat.log2_self_le hm;have hl2:mag<2 ^ (mag.log2+1):=Nat.lt_log2_self;obtain⟨e1,e2⟩:=a2j neg (mag <<< (place-A6 mag place).toNat) (A6 mag place-place).toNat;unfold E4;generalize Toward.even.cut neg (mag <<< (place-A6 mag place).toNat) (A6 mag place-place).toNat=k at *;rw[Nat.shiftLeft_eq]at e1 e2;generalize hL:mag.log2=L at *;by_cases hs:A6 mag place<=place
 ·
  have h0:(A6 mag place-place).toNat=0:=by omega
  rw[h0]at e1 e2;simp only[Nat.pow_zero,Nat.mul_one]at e1 e2;have hk:k=mag*2 ^ (place-A6 mag place).toNat:=by omega
  generalize hu:(place-A6 mag place).toNat=u at *;have hle:L+u<=52:=by unfold A6 at hu hs;rw[hL]at hu hs;omega
  constructor
  ·have:mag*2 ^ u<2 ^ (L+1)*2 ^ u:=Nat.mul_lt_mul_of_pos_right hl2 (Nat.two_pow_pos _);rw[<-Nat.pow_add]at this;have h3:2 ^ (L+1+u)<=2 ^ 53:=Nat.pow_le_pow_right (by decide) (by omega);omega
  ·by_cases hlast:A6 mag place = -1074
   ·exact .inl hlast
   ·right
    have hu2:L+u=52:=by unfold A6 at hu hlast;rw[hL]at hu hlast;omega
    have:2 ^ L*2 ^ u<=mag*2 ^ u:=Nat.mul_le_mul_right _ hl1;rw[<-Nat.pow_add,hu2]at this;omega
 ·have h0:(place-A6 mag place).toNat=0:=by omega
  rw[h0]at e1 e2;simp only[Nat.pow_zero,Nat.mul_one]at e1 e2;generalize hu:(A6 mag place-place).toNat=u at *;have hge:L<=52+u:=by unfold A6 at hu;rw[hL]at hu;omega
  have hup:2 ^ (L+1)<=2 ^ (53+u):=Nat.pow_le_pow_right (by decide) (by omega);have hg:0<2 ^ u:=Nat.two_pow_pos _;constructor
  ·rw[Nat.pow_add 2 53 u]at hup;generalize 2 ^ u=g at *;have h4:2*(k*g)<2*(2 ^ 53*g)+g+g:=by omega
   have h5:k*g<(2 ^ 53+1)*g:=by rw[Nat.add_mul,Nat.one_mul];omega
   have:=Nat.lt_of_mul_lt_mul_right h5;omega
  ·by_cases hlast:A6 mag place = -1074
   ·exact .inl hlast
   ·right
    have hu2:L=52+u:=by unfold A6 at hu hlast hs;rw[hL]at hu hlast hs;omega
    rw[hu2,Nat.pow_add 2 52 u]at hl1;clear hup hl2;generalize 2 ^ u=g at *;have h5:2 ^ 52*g<(k+1)*g:=by rw[Nat.add_mul,Nat.one_mul];omega
    have:=Nat.lt_of_mul_lt_mul_right h5;omega
theorem a0x(neg:Bool){mag:Nat}(hm:mag≠0){place:Int}(hb:place+mag.log2<=1022) :
  Fin (double.nearest neg mag place)/\V (double.nearest neg mag place)=(if neg then -((E4 neg mag place*2 ^ (A6 mag place+1074).toNat:Nat):Int)else((E4 neg mag place*2 ^ (A6 mag place+1074).toNat:Nat):Int)):=by
 obtain⟨h1,h2⟩:=Z6 neg hm place;have hlast : -1074<=A6 mag place/\A6 mag place<=970:=by unfold A6;omega
 have hE:(A6 mag place-double.leastPlace).toNat=(A6 mag place+1074).toNat:=by rw[lp];omega
 have hn:double.nearest neg mag place=double.word neg ((A6 mag place+1074).toNat*2 ^ 52+E4 neg mag place):=by
  unfold Format.nearest;rw[if_neg hm];simp only[frb];have e1:max (place+(mag.log2:Int)-(52:Nat)) double.leastPlace=A6 mag place:=by rw[lp];rfl
  rw[e1,hE,bnd,c6E];congr 1
  apply Nat.min_eq_left
  show _*_+E4 neg mag place<=_;have:(A6 mag place+1074).toNat<=2044:=by omega
  have:(A6 mag place+1074).toNat*2 ^ 52<=2044*2 ^ 52:=Nat.mul_le_mul_right _ this;exact Nat.le_trans (Nat.add_le_add this h1) (by decide)
 have hr:(A6 mag place+1074).toNat*2 ^ 52+E4 neg mag place<2047*2 ^ 52:=by
  have:(A6 mag place+1074).toNat<=2044:=by omega
  have:(A6 mag place+1074).toNat*2 ^ 52<=2044*2 ^ 52:=Nat.mul_le_mul_right _ this;exact Nat.lt_of_le_of_lt (Nat.add_le_add this h1) (by decide)
 rw[hn];obtain⟨h3,h4⟩:=b8o neg _ hr;refine⟨h3,?_⟩;rw[h4,b5v _ _ h1 (h2.imp (λh=>by omega) id)]
def U1:Nat:=1074
def FI(x:Nat)(n:Int):Prop:=Fin x/\V x=n*2 ^ U1
theorem a0L{k:Nat}(hk:k≠0)(sh:Nat):(k*2 ^ sh).log2=k.log2+sh:=by
 have hm:k*2 ^ sh≠0:=Nat.mul_ne_zero hk (Nat.ne_of_gt (Nat.two_pow_pos _))
 apply Nat.le_antisymm
 ·apply Nat.le_of_lt_succ
  rw[Nat.log2_lt hm,Nat.succ_eq_add_one,show k.log2+sh+1=k.log2+1+sh by omega,Nat.pow_add];exact Nat.mul_lt_mul_of_pos_right Nat.lt_log2_self (Nat.two_pow_pos _)
 ·rw[Nat.le_log2 hm,Nat.pow_add];exact Nat.mul_le_mul_right _ (Nat.log2_self_le hk)
theorem N9(neg:Bool){k:Nat}(hk:k≠0)(hk2:k<2 ^ 53){sh:Nat}{place:Int}(hp : -1074<=place+sh)(hlow:place+sh+k.log2<=1022) :
  Fin (double.nearest neg (k*2 ^ sh) place)/\V (double.nearest neg (k*2 ^ sh) place)=(if neg then -((k*2 ^ (place+sh+1074).toNat:Nat):Int)else((k*2 ^ (place+sh+1074).toNat:Nat):Int)):=by
 have hm:k*2 ^ sh≠0:=Nat.mul_ne_zero hk (Nat.ne_of_gt (Nat.two_pow_pos _));have hlog:(k*2 ^ sh).log2=k.log2+sh:=a0L hk sh
 have hkl:k.log2<=52:=by
  have:=(Nat.log2_lt hk).2 hk2;omega
 obtain⟨h1,h2⟩:=a0x neg hm (place:=place) (by rw[hlog];omega);refine⟨h1,?_⟩;rw[h2]
 have key:E4 neg (k*2 ^ sh) place*2 ^ (A6 (k*2 ^ sh) place+1074).toNat=k*2 ^ (place+sh+1074).toNat:=by
  unfold E4;by_cases hs:A6 (k*2 ^ sh) place<=place
  ·have e1:(A6 (k*2 ^ sh) place-place).toNat=0:=by omega
   rw[e1,Nat.shiftLeft_eq];have:=a4p neg (k*2 ^ sh*2 ^ (place-A6 (k*2 ^ sh) place).toNat) 0;rw[Nat.pow_zero,Nat.mul_one]at this;rw[this,Nat.mul_assoc,Nat.mul_assoc,<-Nat.pow_add,<-Nat.pow_add];congr 2;unfold A6 at hs ⊢;omega
  ·have e1:(place-A6 (k*2 ^ sh) place).toNat=0:=by omega
   rw[e1,Nat.shiftLeft_eq,Nat.pow_zero,Nat.mul_one];have hle:(A6 (k*2 ^ sh) place-place).toNat<=sh:=by unfold A6;rw[hlog];omega
   have e2:k*2 ^ sh=(k*2 ^ (sh-(A6 (k*2 ^ sh) place-place).toNat))*2 ^ (A6 (k*2 ^ sh) place-place).toNat:=by
    rw[Nat.mul_assoc,<-Nat.pow_add];congr 2;omega
   generalize hL:A6 (k*2 ^ sh) place=L at *;rw[e2,a4p,Nat.mul_assoc,<-Nat.pow_add];congr 2;have : -1074<=L:=by rw[<-hL];unfold A6;omega
   omega
 rw[key]
theorem a3r{n:Int}(h:n.natAbs<2 ^ 53):FI (FloatKind.f64.nearest n) n:=by
 unfold FloatKind.nearest FloatKind.encode;show FI (double.write (.number (decide (n<0)) n.natAbs 0)) n;show FI (double.nearest (decide (n<0)) n.natAbs 0) n;by_cases h0:n.natAbs=0
 ·have:n=0:=by omega
  subst this;have e:double.nearest (decide ((0:Int)<0)) (Int.natAbs 0) 0=0:=by decide
  rw[e];exact⟨⟨by decide,by decide⟩,by simp[V,a0h]⟩
 ·have hkl:n.natAbs.log2<=52:=by
   have:=(Nat.log2_lt h0).2 h;omega
  obtain⟨h1,h2⟩:=N9 (decide (n<0)) h0 h (sh:=0) (place:=0) (by decide) (by omega);rw[Nat.pow_zero,Nat.mul_one]at h1 h2;refine⟨h1,?_⟩;rw[h2];have e:((0:Int)+(0:Nat)+1074).toNat=U1:=by decide
  rw[e];generalize U1=u;rw[Int.natCast_mul,Int.natCast_pow];show (if _ then -((n.natAbs:Nat)*(2:Int) ^ u)else((n.natAbs:Nat)*(2:Int) ^ u))=_;by_cases hn:n<0
  ·simp only[hn,decide_true,if_true];have:((n.natAbs:Nat):Int) = -n:=by omega
   rw[this,Int.neg_mul,Int.neg_neg]
  ·simp only[hn,decide_false,Bool.false_eq_true,if_false];have:((n.natAbs:Nat):Int)=n:=by omega
   rw[this]
end Go.Fl
