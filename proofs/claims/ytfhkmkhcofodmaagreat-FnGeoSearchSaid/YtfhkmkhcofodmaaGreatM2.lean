/- Parts of a proof, in order: what each says stands at its head. No conditions. -/
import Derived.Scope
import Derived.Orders
import Derived.ArgAppend
import Derived.RegionTactic
import Derived.Test.YtfhkmkhcofodmaaGreatM1
namespace Go.Sx
open Go.RowKit
def j6:Value->Nat
 | .float _ b=>b
 | _=>0
def p7:Value->Int
 | .int _ n=>n
 | _=>0
def Z8:Value->Bool
 | .bool b=>b
 | _=>false
def ptB:Value->Nat
 | .pointer (some a)=>a.block
 | _=>0
def ptC:Value->Nat
 | .pointer (some a)=>a.off
 | _=>0
def slB:Value->Nat
 | .slice (some a) _ _=>a.block
 | _=>0
def slC:Value->Nat
 | .slice (some a) _ _=>a.off
 | _=>0
def slL:Value->Nat
 | .slice _ l _=>l
 | _=>0
def slK:Value->Nat
 | .slice _ _ k=>k
 | _=>0
def K0:Value->Value
 | .iface _ v=>v
 | v=>v
def z6(k:FloatKind)(v:Value):Prop:=v=.float k (j6 v)
def B9(k:IntKind)(v:Value):Prop:=v=.int k (p7 v)
def b1c(v:Value):Prop:=v=.bool (Z8 v)
def a1d(v:Value):Prop:=v=.pointer (some ⟨ptB v,ptC v,none⟩)
def a5G(v:Value):Prop:=v=.slice (some ⟨slB v,slC v,none⟩) (slL v) (slK v)
def isSlN(v:Value):Prop:=v=.slice none 0 0∨a5G v
def a2u(t:Nat)(v:Value):Prop:=v=.iface t (K0 v)
def R0:Value->Bool
 | .nilIface=>true
 | .pointer none=>true
 | _=>false
def a7Z(v:Value):Prop:=v=.nilIface∨∃ t x,v=.iface t x
def a3l(v:Value):Prop:=v=.pointer none∨∃ a,v=.pointer (some a)
def dvs(n:Nm)(F:Nat->Nat->Value)(b:Nat):Nat->Nat->List SV
 | _,0=>[]
 | c,k+1=>.dv n (F b c) :: dvs n F b (c+1) k
def fvs(F:Nat->Nat->Value)(b:Nat):Nat->Nat->List Value
 | _,0=>[]
 | c,k+1=>F b c :: fvs F b (c+1) k
theorem a5v(F:Nat->Nat->Value)(b:Nat):∀ k c,(fvs F b c k).length=k
 | 0,_=>rfl
 | k+1,c=>by simp[fvs,a5v F b k]
theorem a5n(F:Nat->Nat->Value)(b:Nat):∀ k c j v,(fvs F b c k)[j]? = some v->j<k/\v=F b (c+j)
 | 0,_,j,v,h=>by simp[fvs]at h
 | k+1,c,0,v,h=>by simp[fvs]at h;exact⟨by omega,h.symm⟩
 | k+1,c,j+1,v,h=>by
  simp only[fvs,List.getElem?_cons_succ]at h;obtain⟨h1,h2⟩:=a5n F b k (c+1) j v h;exact⟨by omega,by rw[h2];congr 1;omega⟩
theorem b3E(ρ:Rho)(n:Nm)(F:Nat->Nat->Value)(b:Nat):∀ k c,(∀ j,j<k->(F b (c+j)).oneCell'=true)->p8 ρ (dvs n F b c k)=fvs F b c k
 | 0,_,_=>rfl
 | k+1,c,h=>by
  have h0:=h 0 (by omega);simp only[Nat.add_zero]at h0;simp only[dvs,fvs,p8,SV.den,h0,if_true]
  rw[b3E ρ n F b k (c+1) (λj hj=>by
   have:=h (j+1) (by omega)
   rwa [show c+(j+1)=c+1+j by omega]at this)]
theorem b6u{U:Nm->Prop}{n:Nm}(hU:U n)(F:Nat->Nat->Value)(b:Nat):∀ k c,bdL U (dvs n F b c k)
 | 0,_=>trivial
 | k+1,c=>⟨hU,b6u hU F b k (c+1)⟩
def a0W:SV->Option (Value×Option Prop)
 | .tt=>some (.bool true,none)
 | .ff=>some (.bool false,none)
 | .bool b=>some (.bool b,none)
 | .int k n=>some (.int k n,none)
 | .flt k n=>some (.float k n,none)
 | .nilp=>some (.pointer none,none)
 | .nils=>some (.slice none 0 0,none)
 | .nili=>some (.nilIface,none)
 | .pb _ b c=>some (.pointer (some ⟨b,c,none⟩),none)
 | .slb _ b c l k=>some (.slice (some ⟨b,c,none⟩) l k,none)
 | .dv _ v=>some (v,some (v.oneCell'=true))
 | .ifc t v=>match a0W v with
  | some (x,p)=>some (.iface t x,p)
  | none=>none
 | _=>none
theorem a8r(ρ:Rho):∀ {s:SV} {v:Value} {p:Option Prop},a0W s=some (v,p)->okP p->s.den ρ=v
 | .ifc t u,v,p,h,hp=>by
  simp only[a0W]at h;split at h
  ·rename_i x q hx;simp only[oI9,pI9]at h;obtain⟨rfl,rfl⟩:=h;simp[SV.den,a8r ρ hx hp]
  ·cases h
 | .dv n u,v,p,h,hp=>by
  simp only[a0W,oI9,pI9]at h;obtain⟨rfl,rfl⟩:=h;simp only[SV.den];exact if_pos hp
 | .tt,v,p,h,_ | .ff,v,p,h,_ | .bool _,v,p,h,_ | .int _ _,v,p,h,_ | .flt _ _,v,p,h,_ | .nilp,v,p,h,_ | .nils,v,p,h,_ | .nili,v,p,h,_ | .pb _ _ _,v,p,h,_ | .slb _ _ _ _ _,v,p,h,_=>by
  simp only[a0W,oI9,pI9]at h;obtain⟨rfl,rfl⟩:=h;rfl
 | .str _,_,_,h,_ | .ptr _ _,_,_,h,_ | .slc _ _ _ _,_,_,h,_ | .slcc _ _,_,_,h,_ | .agg _,_,_,h,_ | .tup _,_,_,h,_ | .fn _ _ _,_,_,h,_ | .nilf,_,_,h,_ | .sla _ _ _,_,_,h,_=>by simp[a0W]at h
theorem b5j:∀ {s:SV} {v:Value} {p:Option Prop},a0W s=some (v,p)->okP p->v.oneCell'=true
 | .ifc t u,v,p,h,hp=>by
  simp only[a0W]at h;split at h
  ·simp only[oI9,pI9]at h;obtain⟨rfl,rfl⟩:=h;rfl
  ·cases h
 | .dv n u,v,p,h,hp=>by
  simp only[a0W,oI9,pI9]at h;obtain⟨rfl,rfl⟩:=h;exact hp
 | .tt,v,p,h,_ | .ff,v,p,h,_ | .bool _,v,p,h,_ | .int _ _,v,p,h,_ | .flt _ _,v,p,h,_ | .nilp,v,p,h,_ | .nils,v,p,h,_ | .nili,v,p,h,_ | .pb _ _ _,v,p,h,_ | .slb _ _ _ _ _,v,p,h,_=>by
  simp only[a0W,oI9,pI9]at h;obtain⟨rfl,rfl⟩:=h;rfl
 | .str _,_,_,h,_ | .ptr _ _,_,_,h,_ | .slc _ _ _ _,_,_,h,_ | .slcc _ _,_,_,h,_ | .agg _,_,_,h,_ | .tup _,_,_,h,_ | .fn _ _ _,_,_,h,_ | .nilf,_,_,h,_ | .sla _ _ _,_,_,h,_=>by simp[a0W]at h
def a1q:List SV->Option Prop->Option (List Value×Option Prop)
 | [],p=>some ([],p)
 | s :: r,p=>match a0W s with
  | some (v,q)=>match a1q r (match q with|some q=>a3A p q|none=>p)with
   | some (vs,p')=>some (v :: vs,p')
   | none=>none
  | none=>none
theorem Y5(ρ:Rho):∀ {l:List SV} {p q:Option Prop} {vs:List Value},a1q l p=some (vs,q)->okP q->okP p/\p8 ρ l=vs/\∀ v∈vs,v.oneCell'=true
 | [],p,q,vs,h,hq=>by
  simp only[a1q,oI9,pI9]at h;obtain⟨rfl,rfl⟩:=h;exact⟨hq,rfl,by simp⟩
 | s :: r,p,q,vs,h,hq=>by
  simp only[a1q]at h;split at h
  ·rename_i v q' hv;split at h
   ·rename_i vs' p' hvs;simp only[oI9,pI9]at h;obtain⟨rfl,rfl⟩:=h;obtain⟨h1,h2,h3⟩:=Y5 ρ hvs hq
    have h4:okP p/\okP q':=by
     cases q' with
     | none=>exact⟨h1,trivial⟩
     | some x=>exact Y8 h1
    refine⟨h4.1,by simp[p8,a8r ρ hv h4.2,h2],λu hu=>?_⟩;rcases List.mem_cons.1 hu with rfl|hu
    ·exact b5j hv h4.2
    ·exact h3 u hu
   ·cases h
  ·cases h
def a3u(F:Nat->Nat->Value)(b:Nat):Nat->List Value->Nat->Nat->Value
 | _,[]=>F
 | c,v :: r=>a3u (j0 F b c v) b (c+1) r
section
variable {P:Program} {W0:World} {Fr:Nat->Prop} {U:Nm->Prop} {H:A1} {ρ:Rho} {w:World} {nm:Nm}
def rLd(T:Tys)(rd:Nm->Option Ob)(t:Nat)(x:SV):Option Eff :=
 match x with
 | .pb n b c=>match ty T t with
  | some ti=>match rd n with
   | some ⟨true,_, .raw _ D sz F,_⟩=>match ti.isAgg with
    | true=>match Nat.ble 1 ti.size with
     | true=>some ⟨some (.agg (dvs n F b c ti.size)),[],[],[n],some (D b/\c+ti.size<=sz b)⟩
     | false=>none
    | false=>match ti.tk with
     | .flt k=>some ⟨some (.flt k (j6 (F b c))),[],[],[n],some (D b/\c<sz b/\z6 k (F b c))⟩
     | .int k=>some ⟨some (.int k (p7 (F b c))),[],[],[n],some (D b/\c<sz b/\B9 k (F b c))⟩
     | .bool=>some ⟨some (.bool (Z8 (F b c))),[],[],[n],some (D b/\c<sz b/\b1c (F b c))⟩
     | _=>some ⟨some (.dv n (F b c)),[],[],[n],some (D b/\c<sz b)⟩
   | _=>none
  | none=>none
 | _=>none
theorem b4S{T:Tys}(hT:TysOk P T)(hH:HSat W0 Fr U H ρ w){t:Nat}{x:SV}{e:Eff}(h:rLd T (look H) t x=some e)(ho:okP e.obl) :
  z9 W0 Fr U H ρ nm e ((do pure (.value (<-Instr.loadAt t (x.den ρ))):Sem Next).run P w):=by
 unfold rLd at h;split at h
 ·rename_i n b c;split at h
  ·rename_i ti hti;split at h
   ·rename_i el ts D sz F es hob;have hU:=hH.used n _ hob;split at h
    ·rename_i hag;split at h
     ·rename_i hsz;simp only[oI9]at h;subst h;obtain⟨hD,hle⟩:=ho
      have hc:∀ j,j<ti.size->w.cell? ⟨b,c+j,none⟩=some (F b (c+j))/\(F b (c+j)).oneCell'=true:=λj hj=>by
       obtain⟨h1,h2,_⟩:=hH.rawCell hob rfl rfl hD (c:=c+j) (by omega);exact⟨h1,h2⟩
      refine z9.same hH (v:=.agg (dvs n F b c ti.size)) (b6u hU F b _ _) ?_
      have:=S6 (P:=P) (w:=w) (b:=b) (o:=c) (fvs F b c ti.size) (λj u hu=>by
       obtain⟨h1,h2⟩:=a5n F b _ _ _ _ hu
       rw[h2];exact(hc j h1).1)
      rw[a5v]at this;simp[SV.den,Instr.loadAt,Instr.sureAddr,loadVar,(hT t ti hti).isAgg' w,hag,(hT t ti hti).run_size w,this,b3E ρ n F b ti.size c (λj hj=>(hc j hj).2)]
     ·cases h
    ·rename_i hag
     have main:∀ v:SV,D b->c<sz b->v.bd U->v.den ρ=F b c->z9 W0 Fr U H ρ nm ⟨some v,[],[],[n],e.obl⟩ ((do pure (.value (<-Instr.loadAt t ((SV.pb n b c).den ρ))):Sem Next).run P w):=by
      intro v hD hlt hv hden;obtain⟨h1,h2,_⟩:=hH.rawCell hob rfl rfl hD hlt;refine z9.same hH (v:=v) hv ?_;simp[SV.den,Instr.loadAt,Instr.sureAddr,loadVar,(hT t ti hti).isAgg' w,hag,run_load,h1,hden]
     split at h
     ·simp only[oI9]at h;subst h;obtain⟨h1,h2,h3⟩:=ho;exact main _ h1 h2 trivial h3.symm
     ·simp only[oI9]at h;subst h;obtain⟨h1,h2,h3⟩:=ho;exact main _ h1 h2 trivial h3.symm
     ·simp only[oI9]at h;subst h;obtain⟨h1,h2,h3⟩:=ho;exact main _ h1 h2 trivial h3.symm
     ·simp only[oI9]at h;subst h;obtain⟨h1,h2⟩:=ho;refine main (.dv n (F b c)) h1 h2 hU ?_;obtain⟨_,h4,_⟩:=hH.rawCell hob rfl rfl h1 h2;simp[SV.den,h4]
   ·cases h
  ·cases h
 ·cases h
def rSt(T:Tys)(rd:Nm->Option Ob)(t:Nat)(x v:SV):Option Eff :=
 match x with
 | .pb n b c=>match ty T t with
  | some ti=>match Nat.beq v.cells.length ti.size with
   | true=>match rd n with
    | some ⟨true,el, .raw ts D sz F,es⟩=>match a1q v.cells (some (D b/\c+ti.size<=sz b))with
     | some (vs,p)=>some ⟨none,[(n,⟨true,el, .raw ts D sz (a3u F b c vs),es⟩)],[],[n],p⟩
     | none=>none
    | _=>none
   | false=>none
  | none=>none
 | _=>none
theorem a0D{n:Nm}{el es:Nat}{ts:List Nat}{D:Nat->Prop}{sz:Nat->Nat}{b:Nat}(hD:D b):∀(vs:List Value)(F:Nat->Nat->Value) {H:A1} {w:World},HSat W0 Fr U H ρ w->look H n=some ⟨true,el, .raw ts D sz F,es⟩->
  ∀(base i:Nat),base+i+vs.length<=sz b->(∀ v∈vs,v.oneCell'=true)->
  ∃ w',(storeCells ⟨b,base,none⟩ vs i).run P w=.ok () w'/\HSat W0 Fr U ((n,⟨true,el, .raw ts D sz (a3u F b (base+i) vs),es⟩) :: H) ρ w'
 | [],F,H,w,hH,hn,base,i,_,_=>by
  refine⟨w,by simp[storeCells],hH.lookEq λm=>?_⟩;rw[g8];split
  ·rename_i e;subst e;exact hn.symm
  ·rfl
 | v :: r,F,H,w,hH,hn,base,i,hle,hone=>by
  simp only[List.length_cons]at hle;have hlt:base+i<sz b:=by omega
  have hv:=hone v (by simp);obtain⟨hc,_,hfz⟩:=hH.rawCell hn rfl rfl hD hlt;have hs:=hH.rawStore hn rfl rfl hD hlt hv;obtain⟨w',hrun,hH'⟩:=a0D hD r (j0 F b (base+i) v) hs (by rw[g8,if_pos rfl]) base (i+1) (by omega) (λu hu=>hone u (by simp[hu]));refine⟨w',?_,hH'.lookEq λm=>?_⟩
  ·simp only[storeCells,Sem.run_bind,Addr.add_lit];rw[run_store P w _ _ _ hv,hc];simp[hfz,hrun]
  ·simp only[g8];split <;> simp[a3u,Nat.add_assoc]
theorem b4s{T:Tys}(hT:TysOk P T)(hH:HSat W0 Fr U H ρ w){t:Nat}{x v:SV}{e:Eff}(h:rSt T (look H) t x v=some e)(ho:okP e.obl) :
  z9 W0 Fr U H ρ nm e ((do Instr.storeAt t (x.den ρ) (v.den ρ);pure .skip:Sem Next).run P w):=by
 unfold rSt at h;split at h
 ·rename_i n b c;split at h
  ·rename_i ti hti;split at h
   ·rename_i hlen;have hl:=eB9 hlen;split at h
    ·rename_i el ts D sz F es hob;split at h
     ·rename_i vs p hvs;simp only[oI9]at h;subst h;obtain⟨⟨hD,hle⟩,hden,hone⟩:=Y5 ρ hvs ho;have hvl:vs.length=ti.size:=by rw[<-hden,A4,List.length_map,hl]
      obtain⟨w',hrun,hH'⟩:=a0D (P:=P) hD vs F hH hob c 0 (by omega) hone;refine⟨ρ,w',λ_ _=>rfl,by simpa using hH'.mono a0U,?_⟩;simp only[SV.den,Instr.storeAt,Instr.sureAddr,storeVar,Sem.run_bind,Sem.run_pure,Result.andThen_ok,(hT t ti hti).run_size w,SV.den_cells,hden];simp[hvl,hrun]
     ·cases h
    ·cases h
   ·cases h
  ·cases h
 ·cases h
def rFA(T:Tys)(s:Nat)(x:SV)(i:Nat):Option Eff :=
 match x with
 | .pb n b c=>match ty T s with
  | some {tk:=.struct fs, ..}=>match nth fs i with
   | some (o,e)=>match ty T e with
    | some te=>match Nat.ble 1 te.size with
     | true=>some ⟨some (.pb n b (c+o)),[],[],[],none⟩
     | false=>none
    | none=>none
   | none=>none
  | _=>none
 | _=>none
theorem b4R{T:Tys}(hT:TysOk P T)(hH:HSat W0 Fr U H ρ w){s:Nat}{x:SV}(hx:x.bd U){i:Nat}{e:Eff}(h:rFA T s x i=some e) :
  z9 W0 Fr U H ρ nm e ((do pure (.value (<-Instr.fieldAt s (x.den ρ) i)):Sem Next).run P w):=by
 unfold rFA at h;split at h
 ·rename_i n b c;split at h
  ·rename_i fs _ _ _ hti;split at h
   ·rename_i o el hf;split at h
    ·rename_i te hte;split at h
     ·rename_i hsz;simp only[oI9]at h;subst h;obtain⟨d,f,h1,h2,rfl,rfl⟩:=a0P (hT s _ hti) rfl hf;refine z9.same hH (v:=.pb n b (c+f.offset)) hx ?_;have hz:te.size≠0:=by have:=Nat.le_of_ble_eq_true hsz;omega
      simp[Instr.fieldAt,run_underlying h1,h2,Instr.sureAddr,SV.den,fieldPlace,(hT _ te hte).run_size w,hz,Addr.add_lit]
     ·cases h
    ·cases h
   ·cases h
  ·cases h
 ·cases h
def rIA(T:Tys)(t:Nat)(x ix:SV):Option Eff :=
 match ix with
 | .int _ i=>match x with
  | .pb n b c=>match ty T t with
   | some {tk:=.array len e, ..}=>match ty T e with
    | some te=>some ⟨some (.pb n b (c+i.toNat*te.size)),[],[],[],some (0<=i/\i<(len:Int))⟩
    | none=>none
   | _=>none
  | .slb n b c len _=>match ty T t with
   | some {tk:=.slice e, ..}=>match ty T e with
    | some te=>some ⟨some (.pb n b (c+i.toNat*te.size)),[],[],[],some (0<=i/\i<(len:Int))⟩
    | none=>none
   | _=>none
  | .dv n v=>match ty T t with
   | some {tk:=.slice e, ..}=>match ty T e with
    | some te=>some ⟨some (.pb n (slB v) (slC v+i.toNat*te.size)),[],[],[],some (a5G v/\0<=i/\i<(slL v:Int))⟩
    | none=>none
   | _=>none
  | _=>none
 | _=>none
theorem a6Z{v:Value}(h:a5G v):v.oneCell'=true:=by rw[h];rfl
theorem b1j{v:Value}(h:a1d v):v.oneCell'=true:=by rw[h];rfl
theorem b5b{T:Tys}(hT:TysOk P T)(hH:HSat W0 Fr U H ρ w){t:Nat}{x ix:SV}(hx:x.bd U){e:Eff}(h:rIA T t x ix=some e)(ho:okP e.obl) :
  z9 W0 Fr U H ρ nm e ((do pure (.value (<-Instr.indexAt t (x.den ρ) (ix.den ρ))):Sem Next).run P w):=by
 unfold rIA at h;split at h
 ·rename_i k i;split at h
  ·rename_i n b c;split at h
   ·rename_i len el _ _ _ hti;split at h
    ·rename_i te hte;simp only[oI9]at h;subst h;obtain⟨d,hd,hd2⟩:=(hT t _ hti).desc;cases d <;> simp only[G9,TK.array.injEq,reduceCtorEq]at hd2
     obtain⟨rfl,rfl⟩:=hd2;have ho1:0<=i/\i<_:=ho;refine z9.same hH (v:=.pb n b (c+i.toNat*te.size)) hx ?_;simp[Instr.indexAt,run_underlying hd,Instr.sureAddr,SV.den,asIntOf,(hT _ te hte).run_size w,ho1,Addr.add_lit]
    ·cases h
   ·cases h
  ·rename_i n b c len cap;split at h
   ·rename_i el _ _ _ _ hti;split at h
    ·rename_i te hte;simp only[oI9]at h;subst h;obtain⟨d,hd,hd2⟩:=(hT t _ hti).desc;cases d <;> simp only[G9,TK.slice.injEq,reduceCtorEq]at hd2
     subst hd2;have ho1:0<=i/\i<_:=ho;refine z9.same hH (v:=.pb n b (c+i.toNat*te.size)) hx ?_;simp[Instr.indexAt,run_underlying hd,SV.den,asIntOf,(hT _ te hte).run_size w,ho1,Addr.add_lit]
    ·cases h
   ·cases h
  ·rename_i n v;split at h
   ·rename_i el _ _ _ _ hti;split at h
    ·rename_i te hte;simp only[oI9]at h;subst h;obtain⟨d,hd,hd2⟩:=(hT t _ hti).desc;cases d <;> simp only[G9,TK.slice.injEq,reduceCtorEq]at hd2
     subst hd2;obtain⟨hsl,ho1⟩:a5G v/\0<=i/\i<_:=ho;refine z9.same hH (v:=.pb n (slB v) (slC v+i.toNat*te.size)) hx ?_;simp only[SV.den,a6Z hsl,if_true];rw[show Instr.indexAt t v (.int k i)=Instr.indexAt t (.slice (some ⟨slB v,slC v,none⟩) (slL v) (slK v)) (.int k i)from congrArg (λx=>Instr.indexAt t x (.int k i)) hsl];simp[Instr.indexAt,run_underlying hd,asIntOf,(hT _ te hte).run_size w,ho1,Addr.add_lit]
    ·cases h
   ·cases h
  ·cases h
 ·cases h
def b2z(T:Tys)(t:Nat)(x:SV)(lo hi mx:Option SV):Option Eff :=
 match x,lo,hi,mx with
 | .pb n b c,none,none,none=>match ty T t with
  | some {tk:=.array m el, ..}=>match ty T el with
   | some _=>some ⟨some (.slb n b c m m),[],[],[],none⟩
   | none=>none
  | _=>none
 | .slb n b c len cap,some (.int _ i),none,none=>match ty T t with
  | some {tk:=.slice el, ..}=>match ty T el with
   | some te=>some ⟨some (.slb n b (c+i.toNat*te.size) (len-i.toNat) (cap-i.toNat)),[],[],[],some (0<=i/\i.toNat<=len/\i.toNat<cap)⟩
   | none=>none
  | _=>none
 | _,_,_,_=>none
theorem a9e{T:Tys}(hT:TysOk P T)(hH:HSat W0 Fr U H ρ w){t:Nat}{x:SV}(hx:x.bd U){lo hi mx:Option SV}{e:Eff}(h:b2z T t x lo hi mx=some e)(ho:okP e.obl) :
  z9 W0 Fr U H ρ nm e ((do pure (.value (<-Instr.sliceAt t (x.den ρ) (lo.map (SV.den ρ)) (hi.map (SV.den ρ)) (mx.map (SV.den ρ)))):Sem Next).run P w):=by
 unfold b2z at h;split at h
 ·rename_i n b c;split at h
  ·rename_i m el _ _ _ _ hti;split at h
   ·rename_i te hte;simp only[oI9]at h;subst h;obtain⟨d,hd,hd2⟩:=(hT t _ hti).desc;cases d <;> simp only[G9,TK.array.injEq,reduceCtorEq]at hd2
    obtain⟨hd3,hd4⟩:=hd2;subst hd3 hd4;refine z9.same hH (v:=.slb n b c _ _) hx ?_;simp[Instr.sliceAt,Sem.run_bind,run_underlying hd,Instr.sureAddr,Instr.sliceBounds,SV.den,(hT _ te hte).run_size w,Addr.add]
   ·cases h
  ·cases h
 ·rename_i n b c len cap k i;split at h
  ·rename_i el _ _ _ _ hti;split at h
   ·rename_i te hte;simp only[oI9]at h;subst h;obtain⟨h0,h1,h2⟩:=ho;obtain⟨d,hd,hd2⟩:=(hT t _ hti).desc;cases d <;> simp only[G9,TK.slice.injEq,reduceCtorEq]at hd2
    subst hd2;refine z9.same hH (v:=.slb n b (c+i.toNat*te.size) (len-i.toNat) (cap-i.toNat)) hx ?_
    have hbounds:(Instr.sliceBounds true len cap (some (.int k i)) none none).run P w=.ok (i.toNat,len,cap) w:=by
     have:i<=(len:Int):=by omega
     simp[Instr.sliceBounds,Instr.sliceBound,asIntOf,h0,this]
    simp only[Instr.sliceAt,Sem.run_bind,run_underlying hd,Result.andThen_ok,Instr.slice,SV.den,Option.map_none,Option.map_some,hbounds,(hT _ te hte).run_size w,Sem.run_pure];rw[if_neg (by omega)];simp[Addr.add_lit]
   ·cases h
  ·cases h
 ·cases h
def c1W(x:SV):Option Eff :=
 match x with
 | .pb n b c=>some ⟨some (.pb n b c),[],[],[],none⟩
 | .dv n v=>some ⟨some (.pb n (ptB v) (ptC v)),[],[],[],some (a1d v)⟩
 | _=>none
theorem b2u(hH:HSat W0 Fr U H ρ w){x:SV}(hx:x.bd U){e:Eff}(h:c1W x=some e)(ho:okP e.obl){ev:Operand->Value}{o:Oper}{y:Operand}(hop:o.op=.nilCheck y)(hy:ev y=x.den ρ) :
  z9 W0 Fr U H ρ nm e ((execOp ev o).run P w):=by
 obtain⟨dst,op,ty',pos,after,guard⟩:=o;simp only at hop;subst hop;unfold c1W at h;split at h
 ·rename_i n b c;simp only[oI9]at h;subst h;refine z9.same hH (v:=.pb n b c) hx ?_;simp[execOp,hy,SV.den]
 ·rename_i n v;simp only[oI9]at h;subst h;have ho:a1d v:=ho;refine z9.same hH (v:=.pb n (ptB v) (ptC v)) hx ?_;have:(SV.dv n v).den ρ=.pointer (some ⟨ptB v,ptC v,none⟩):=by simp only[SV.den,b1j ho,if_true];exact ho
  simp only[execOp,hy,this];simp[SV.den]
 ·cases h
def b0a(T:Tys)(x:SV)(asserted:Nat)(ok:Bool):Option Eff :=
 match x,ok with
 | .dv n v,false=>match ty T asserted with
  | some {tk:=.ptr _, ..}=>some ⟨some (.pb n (ptB (K0 v)) (ptC (K0 v))),[],[],[],some (a2u asserted v/\a1d (K0 v))⟩
  | some {tk:=.int k, ..}=>some ⟨some (.int k (p7 (K0 v))),[],[],[],some (a2u asserted v/\B9 k (K0 v))⟩
  | _=>none
 | _,_=>none
theorem a7f{T:Tys}(hT:TysOk P T)(hH:HSat W0 Fr U H ρ w){xt asserted:Nat}{x:SV}(hx:x.bd U){ok:Bool}{e:Eff}(h:b0a T x asserted ok=some e)(ho:okP e.obl) :
  z9 W0 Fr U H ρ nm e ((do pure (.value (<-Instr.typeAssert (x.den ρ) xt asserted ok)):Sem Next).run P w):=by
 unfold b0a at h;split at h
 ·rename_i n v;have one:a2u asserted v->(SV.dv n v).den ρ=v:=λh=>by simp only[SV.den];rw[if_pos (by rw[h];rfl)]
  split at h
  ·rename_i el _ _ _ _ hti;simp only[oI9]at h;subst h;obtain⟨h1,h2⟩:a2u asserted v/\a1d (K0 v):=ho;obtain⟨d,hd,hd2⟩:=(hT asserted _ hti).desc;cases d <;> simp only[G9,TK.ptr.injEq,reduceCtorEq]at hd2
   refine z9.same hH (v:=.pb n (ptB (K0 v)) (ptC (K0 v))) hx ?_;rw[one h1,show Instr.typeAssert v xt asserted false=Instr.typeAssert (.iface asserted (K0 v)) xt asserted false from congrArg (λx=>Instr.typeAssert x xt asserted false) h1];simp only[Instr.typeAssert,Sem.run_bind,run_underlying hd,Result.andThen_ok,Sem.run_pure];simp[SV.den];exact h2
  ·rename_i k _ _ _ _ hti;simp only[oI9]at h;subst h;obtain⟨h1,h2⟩:a2u asserted v/\B9 k (K0 v):=ho;obtain⟨d,hd,hd2⟩:=(hT asserted _ hti).desc;cases d <;> simp only[G9,TK.int.injEq,reduceCtorEq]at hd2
   refine z9.same hH (v:=.int k (p7 (K0 v))) trivial ?_;rw[one h1,show Instr.typeAssert v xt asserted false=Instr.typeAssert (.iface asserted (K0 v)) xt asserted false from congrArg (λx=>Instr.typeAssert x xt asserted false) h1];simp only[Instr.typeAssert,Sem.run_bind,run_underlying hd,Result.andThen_ok,Sem.run_pure];simp[SV.den];exact h2
  ·cases h
 ·cases h
def rEq(T:Tys)(op:BinOp)(t:Nat)(x y:SV):Option Eff :=
 match x,y with
 | .dv _ v, .nili=>match ty T t with
  | some {tk:=.iface, ..}=>match b1N op (R0 v)with
   | some (r,_)=>some ⟨some r,[],[],[],some (a7Z v)⟩
   | none=>none
  | _=>none
 | .dv _ v, .nilp=>match ty T t with
  | some {tk:=.ptr _, ..}=>match b1N op (R0 v)with
   | some (r,_)=>some ⟨some r,[],[],[],some (a3l v)⟩
   | none=>none
  | _=>none
 | .pb _ _ _, .nilp=>match ty T t with
  | some {tk:=.ptr _, ..}=>match a4G op false with
   | some (r,_)=>some ⟨some r,[],[],[],none⟩
   | none=>none
  | _=>none
 | .slb _ _ _ _ _, .nils=>match ty T t with
  | some {tk:=.slice _, ..}=>match a4G op false with
   | some (r,_)=>some ⟨some r,[],[],[],none⟩
   | none=>none
  | _=>none
 | _,_=>none
theorem b4V{T:Tys}(hT:TysOk P T)(hH:HSat W0 Fr U H ρ w){op:BinOp}{t:Nat}{xo yo:Operand}{x y:SV}{e:Eff}(h:rEq T op t x y=some e)(ho:okP e.obl)(hyo:P7 yo=true) :
  z9 W0 Fr U H ρ nm e ((((do eqGuard op t xo yo (x.den ρ) (y.den ρ);binOp op t (x.den ρ) (y.den ρ)):Sem Value) >>= λv=>(pure (.value v):Sem Next)).run P w):=by
 unfold rEq at h;split at h
 ·rename_i n v;split at h
  ·rename_i _ _ _ _ hti;obtain⟨d,hd,hk⟩:=(hT t _ hti).desc;cases d <;> simp only[G9,reduceCtorEq]at hk
   split at h
   ·rename_i r o' hr;simp only[oI9]at h;subst h;have ho:a7Z v:=ho
    have hden:(SV.dv n v).den ρ=v:=by
     simp only[SV.den];rcases ho with rfl|⟨u,z,rfl⟩ <;> simp[Value.oneCell']
    rw[hden];rcases ho with rfl|⟨u,z,rfl⟩
    ·have hg:(eqGuard op t xo yo .nilIface .nilIface).run P w=.ok () w:=by
      cases yo <;> simp[P7]at hyo
      cases xo <;> cases op <;> simp[eqGuard]
     obtain⟨h1,h2⟩:=N8 (P:=P) w ρ hr (t:=t) (x:=.nilIface) (y:=.nilIface) (by simp) (by simp) (by simp) (by simp) (P9 w hd);refine z9.same hH (SV.bd_closed U _ h2) ?_;simp only[SV.den,Sem.run_bind,hg,Result.andThen_ok,h1,Sem.run_pure]
    ·have hg:(eqGuard op t xo yo (.iface u z) .nilIface).run P w=.ok () w:=by rw[eqGuard_at_iface];rfl
     obtain⟨h1,h2⟩:=N8 (P:=P) w ρ hr (t:=t) (x:=.iface u z) (y:=.nilIface) (by simp) (by simp) (by simp) (by simp) (L9 w hd u z);refine z9.same hH (SV.bd_closed U _ h2) ?_;simp only[SV.den,Sem.run_bind,hg,Result.andThen_ok,h1,Sem.run_pure]
   ·cases h
  ·cases h
 ·rename_i n v;split at h
  ·rename_i el _ _ _ _ hti;obtain⟨d,hd,hk⟩:=(hT t _ hti).desc;cases d <;> simp only[G9,TK.ptr.injEq,reduceCtorEq]at hk
   split at h
   ·rename_i r o' hr;simp only[oI9]at h;subst h;have ho:a3l v:=ho
    have hden:(SV.dv n v).den ρ=v:=by
     simp only[SV.den];rcases ho with rfl|⟨u,rfl⟩ <;> simp[Value.oneCell']
    rw[hden]
    have hg:(eqGuard op t xo yo v (SV.nilp.den ρ)).run P w=.ok () w:=by
     rcases ho with rfl|⟨u,rfl⟩ <;> simp only[SV.den] <;> rw[eqGuard_at_pointer] <;> rfl
    have he:(Op.equal t v (SV.nilp.den ρ)).run P w=.ok (R0 v) w:=by
     rcases ho with rfl|⟨u,rfl⟩ <;> simp only[SV.den,R0] <;> rw[K9] <;> unfold Op.equalIn <;> simp[Sem.run_bind,run_underlying hd,Result.andThen_ok,Sem.run_pure]
    obtain⟨h1,h2⟩:=N8 (P:=P) w ρ hr (t:=t) (x:=v) (y:=SV.nilp.den ρ) (by rcases ho with rfl|⟨u,rfl⟩ <;> simp) (by rcases ho with rfl|⟨u,rfl⟩ <;> simp) (by rcases ho with rfl|⟨u,rfl⟩ <;> simp) (by rcases ho with rfl|⟨u,rfl⟩ <;> simp) he;refine z9.same hH (SV.bd_closed U _ h2) ?_;simp only[Sem.run_bind,hg,Result.andThen_ok,h1,Sem.run_pure]
   ·cases h
  ·cases h
 ·rename_i n b c;split at h
  ·rename_i el _ _ _ _ hti;obtain⟨d,hd,hk⟩:=(hT t _ hti).desc;cases d <;> simp only[G9,TK.ptr.injEq,reduceCtorEq]at hk
   split at h
   ·rename_i r o' hr;simp only[oI9]at h;subst h;have hg:(eqGuard op t xo yo ((SV.pb n b c).den ρ) (SV.nilp.den ρ)).run P w=.ok () w:=by simp only[SV.den];rw[eqGuard_at_pointer];rfl
    obtain⟨h1,h2⟩:=O9 (P:=P) w ρ hr (t:=t) (x:=(SV.pb n b c).den ρ) (y:=SV.nilp.den ρ) (by simp[SV.den]) (by simp[SV.den]) (by simp[SV.den]) (by simp[SV.den]) (by
     simp only[SV.den];rw[K9];unfold Op.equalIn
     simp only[Sem.run_bind,run_underlying hd,Result.andThen_ok,Sem.run_pure])
    refine z9.same hH (SV.bd_closed U _ h2) ?_;simp only[Sem.run_bind,hg,Result.andThen_ok,h1,Sem.run_pure]
   ·cases h
  ·cases h
 ·rename_i n b c sl sk;split at h
  ·rename_i el _ _ _ _ hti;obtain⟨d,hd,hk⟩:=(hT t _ hti).desc;cases d <;> simp only[G9,TK.slice.injEq,reduceCtorEq]at hk
   split at h
   ·rename_i r o' hr;simp only[oI9]at h;subst h;have hg:(eqGuard op t xo yo ((SV.slb n b c sl sk).den ρ) (SV.nils.den ρ)).run P w=.ok () w:=by simp only[SV.den];rw[eqGuard_at_slice];rfl
    obtain⟨h1,h2⟩:=O9 (P:=P) w ρ hr (t:=t) (x:=(SV.slb n b c sl sk).den ρ) (y:=SV.nils.den ρ) (by simp[SV.den]) (by simp[SV.den]) (by simp[SV.den]) (by simp[SV.den]) (by
     simp only[SV.den];rw[K9];unfold Op.equalIn
     simp only[Sem.run_bind,run_underlying hd,Result.andThen_ok,Sem.run_pure])
    refine z9.same hH (SV.bd_closed U _ h2) ?_;simp only[Sem.run_bind,hg,Result.andThen_ok,h1,Sem.run_pure]
   ·cases h
  ·cases h
 ·cases h
def c2j(T:Tys)(t:Nat)(x:SV):Option Eff :=
 match ty T t with
 | some {tk:=.slice _, ..}=>match x with
  | .slb _ _ _ len _=>some ⟨some (.int .i64 (len:Nat)),[],[],[],none⟩
  | .dv _ v=>some ⟨some (.int .i64 (slL v:Nat)),[],[],[],some (isSlN v)⟩
  | _=>none
 | _=>none
theorem b2r{T:Tys}(hT:TysOk P T)(hH:HSat W0 Fr U H ρ w){t:Nat}{x:SV}{e:Eff}(h:c2j T t x=some e)(ho:okP e.obl)(ty':Nat)(cs:Array Bool) :
  z9 W0 Fr U H ρ nm e ((builtin .len #[t] ty' cs #[x.den ρ]).run P w):=by
 unfold c2j at h;split at h
 ·rename_i hti;obtain⟨d,hd,hd2⟩:=(hT t _ hti).desc;cases d <;> simp only[G9,TK.slice.injEq,reduceCtorEq]at hd2
  split at h
  ·simp only[oI9]at h;subst h;refine z9.same hH (v:=.int .i64 _) trivial ?_;simp[builtin,Builtin.len_,run_underlying hd,SV.den,goInt]
  ·rename_i n v;simp only[oI9]at h;subst h;have ho:isSlN v:=ho;refine z9.same hH (v:=.int .i64 _) trivial ?_;rcases ho with rfl|ho
   ·simp[builtin,Builtin.len_,run_underlying hd,SV.den,goInt,Value.oneCell',slL]
   ·have:(SV.dv n v).den ρ=.slice (some ⟨slB v,slC v,none⟩) (slL v) (slK v):=by simp only[SV.den,a6Z ho,if_true];exact ho
    rw[this];simp[builtin,Builtin.len_,run_underlying hd,SV.den,goInt]
  ·cases h
 ·cases h
end
def a8E(g:Nat->Int):Nat->List Int->Nat->Int
 | _,[]=>g
 | i,x :: r=>a8E (upd g i x) (i+1) r
theorem b2U:∀(xs:List Int)(g:Nat->Int)(i j:Nat),j<i->a8E g i xs j=g j
 | [],_,_,_,_=>rfl
 | x :: r,g,i,j,h=>by
  rw[a8E,b2U r _ (i+1) j (by omega)];simp[upd];omega
theorem b3Z:∀(xs:List Int)(g:Nat->Int)(i j:Nat)(x:Int),xs[j]? = some x->a8E g i xs (i+j)=x
 | [],_,_,_,_,h=>by simp at h
 | y :: r,g,i,0,x,h=>by
  simp only[List.getElem?_cons_zero,oI9]at h;rw[a8E,b2U r _ (i+1) _ (by omega)];simp[upd,h]
 | y :: r,g,i,j+1,x,h=>by
  simp only[List.getElem?_cons_succ]at h;rw[a8E,show i+(j+1)=i+1+j by omega];exact b3Z r _ (i+1) j x h
theorem b4W(k:IntKind):kEq k k=true:=by cases k <;> rfl
theorem a7Y(k:IntKind)(n:Nat):∀(xs:List Int)(i:Nat)(g:Nat->Int),(a9.ints k n g).setN i (xs.map (SV.int k))=some (.ints k n (a8E g i xs))
 | [],_,_=>rfl
 | x :: r,i,g=>by
  simp only[List.map_cons,a9.setN,a9.set,b4W];exact a7Y k n r (i+1) _
def a7w(T:Tys)(rd:Nm->Option Ob)(t:Nat)(d s:SV):Option Eff :=
 match ty T t with
 | some {tk:=.slice e, ..}=>match ty T e with
  | some te=>match d,s with
   | .slcc dn dl, .slb sn b c sl _=>match rd dn with
    | some ⟨true,el, .ints k n _,es⟩=>match rd sn with
     | some ⟨true,_, .raw _ D sz F,_⟩=>some ⟨some (.int .i64 dl),[(dn,⟨true,el, .ints k n (λj=>p7 (F b (c+j))),es⟩)],[],[dn,sn],
       some (sl=dl/\n=dl*te.size/\0<n/\D b/\c+n<=sz b/\∀ j,j<n->B9 k (F b (c+j)))⟩
     | _=>none
    | _=>none
   | _,_=>none
  | none=>none
 | _=>none
section
variable {P:Program} {W0:World} {Fr:Nat->Prop} {U:Nm->Prop} {H:A1} {ρ:Rho} {w:World} {nm:Nm}
theorem b1m{T:Tys}(hT:TysOk P T)(hH:HSat W0 Fr U H ρ w){t:Nat}{d s:SV}{e:Eff}(h:a7w T (look H) t d s=some e)(ho:okP e.obl)(ty':Nat) :
  z9 W0 Fr U H ρ nm e ((do pure (.value (<-Builtin.copy_ #[t,t] ty' #[d.den ρ,s.den ρ])):Sem Next).run P w):=by
 unfold a7w at h;split at h
 case h_2=>cases h
 rename_i el _ _ _ _ hti;split at h
 case h_2=>cases h
 rename_i te hte;split at h
 case h_2=>cases h
 rename_i dn dl sn b c sl cap;split at h
 case h_2=>cases h
 rename_i el' k n g es hdn;split at h
 case h_2=>cases h
 rename_i el2 ts D sz F es2 hsn;simp only[oI9]at h;subst h;obtain⟨rfl,hn1,h0,hD,hfit,hint⟩:=ho;obtain⟨dd,hd,hd2⟩:=(hT t _ hti).desc;cases dd <;> simp only[G9,TK.slice.injEq,reduceCtorEq]at hd2
 subst hd2;rename_i el0;have hs:(sizeOf el0).run P w=.ok te.size w:=(hT el0 _ hte).run_size w;have hon:=hH.obj dn _ hdn
 let g':Nat->Int:=λj=>p7 (F b (c+j))
 have hlist:(List.range n).map (λj=>SV.int k (g' j))=((List.range n).map g').map (SV.int k):=by simp
 obtain⟨b1,off,cp,hρ,_⟩:=hH.cell hdn (i:=0) h0;rw[hρ]at hon;obtain⟨rfl,_⟩:=hon.2.1 rfl;have hcp1:=hon.2.2 h0
 have hld:(loadCells ⟨b,c,none⟩ (sl*te.size)).run P w=.ok (p8 ρ ((List.range n).map λj=>SV.int k (g' j))).toArray w:=by
  have:=S6 (P:=P) (w:=w) (b:=b) (o:=c) (p8 ρ ((List.range n).map λj=>SV.int k (g' j))) (λj v hv=>by
   simp only[A4,List.getElem?_map,Option.map_eq_some_iff]at hv;obtain⟨x,⟨y,hy,rfl⟩,rfl⟩:=hv;have hjn:j<n:=by simpa using (List.getElem?_eq_some_iff.1 hy).1
   have hy':y=j:=by simpa [hjn]using hy.symm
   subst hy';obtain⟨h1,_,_⟩:=hH.rawCell hsn rfl rfl hD (c:=c+y) (by omega);rw[h1]
   exact congrArg some (hint y hjn))
  rw[<-this];simp[A4,hn1]
 obtain⟨w',hrun,hH'⟩:=Q5 (P:=P) ((List.range n).map λj=>SV.int k (g' j)) hH hdn rfl hρ 0 0 (by rw[G8];intro v hv;simp only[List.mem_map]at hv;obtain⟨_,_,rfl⟩:=hv;trivial)
  (c':=.ints k n (a8E g 0 ((List.range n).map g'))) (by rw[hlist];exact a7Y k n _ _ g) (by simp[a9.inb])
 refine⟨ρ,w',λ_ _=>rfl,?_,trivial,?_⟩
 ·have hR:=hH'.recont (n:=dn) (o:=⟨true,el', .ints k n (a8E g 0 ((List.range n).map g')),es⟩) (by simp[g8]) (c':=.ints k n g') rfl rfl (λj hj=>by
   have hjn:j<n:=hj;simp only[a9.at];have:=b3Z ((List.range n).map g') g 0 j (g' j) (by simp[hjn]);rw[Nat.zero_add]at this
   rw[this])
  exact(hR.lookEq λm=>by
   simp only[List.nil_append,List.cons_append,g8]
   split <;> rfl).mono a0U
 ·rw[Sem.run_bind]
  have:(Builtin.copy_ #[t,t] ty' #[(SV.slcc dn sl).den ρ,(SV.slb sn b c sl cap).den ρ]).run P w=.ok (goInt sl) w':=by
   simp[Builtin.copy_,SV.den,Rho.addrC,Rho.cap,hρ,Rho.sp_le hcp1,run_underlying hd,Builtin.lenOf,Builtin.firstCells,hs,hld,hrun]
  rw[this];rfl
theorem b4T{T:Tys}{rd rd':Nm->Option Ob}{t:Nat}{d s:SV}{e:Eff}(h:a7w T rd t d s=some e)(hr:∀ n∈e.rds,rd' n=rd n):a7w T rd' t d s=some e:=by
 unfold a7w at h ⊢;split at h
 case h_2=>cases h
 rename_i el _ _ _ _ hti;split at h
 case h_2=>cases h
 rename_i te hte;split at h
 case h_2=>cases h
 rename_i dn dl sn b c sl cap
 have key:rd' dn=rd dn/\rd' sn=rd sn:=by
  split at h
  case h_2=>cases h
  split at h
  case h_2=>cases h
  simp only[oI9]at h;subst h;exact⟨hr _ (by simp),hr _ (by simp)⟩
 simp only[key.1,key.2];exact h
end
structure St where
 nt:Nat
 sl:Slots
 H:A1
 N:Nat
structure Sat (W0:World) (Fr:Nat->Prop) (S:St) (ρ:Rho) (a:Act) (w:World):Prop where
 h:HSat W0 Fr (·< S.N) S.H ρ w
 s:SSat (·< S.N) S.nt S.sl ρ a
abbrev Con:=List SV->(Nm->Option Ob)->Nm->Option Eff
def FOk (P:Program) (f:Nat):Prop:=∃ fn,P.funcs[f]? = some fn/\(fn.name == "runtime.NumGoroutine")=false/\fn.body.isNone=false
def CallsV(P:Program)(f:Nat)(args:Array Value)(w:World)(R:Ending->World->Prop):Prop :=
 (FOk P f/\Calls P f args w R)∨∃ v w',(callFunc f args).run P w=.ok (.value v) w'/\R (.returned v) w'
theorem CallsV.mono{P:Program}{f:Nat}{args:Array Value}{w:World}{R R':Ending->World->Prop}(h:CallsV P f args w R)(hr:∀ e w',R e w'->R' e w'):CallsV P f args w R':=by
 rcases h with⟨h1,h2⟩|⟨v,w',h1,h2⟩
 ·exact .inl ⟨h1,h2.mono hr⟩
 ·exact .inr ⟨v,w',h1,hr _ _ h2⟩
structure C4 (P:Program) (f:Nat) (c:Con):Prop where
 calls:∀ {W0:World} {Fr:Nat->Prop} {U:Nm->Prop} {H:A1} {ρ:Rho} {w:World} {nm:Nm} {args:List SV} {e:Eff},
  HSat W0 Fr U H ρ w->bdL U args->(∀ j,j<24->¬U (nm+j))->c args (look H) nm=some e->okP e.obl->
  CallsV P f (p8 ρ args).toArray w λen w'=>∃ ρ',(∀ n,U n->ρ' n=ρ n)/\HSat W0 Fr (UU U nm) (e.wr++(e.news++H)) ρ' w'/\
   ∃ v,e.val=some v/\v.bd (UU U nm)/\en=.returned (v.den ρ')
 loc:∀ {args:List SV} {rd rd':Nm->Option Ob} {nm:Nm} {e:Eff},c args rd nm=some e->(∀ n∈e.rds,rd' n=rd n)->c args rd' nm=some e
abbrev Gam:=List (Nat×Con)
def con:Gam->Nat->Option Con
 | [],_=>none
 | (m,v) :: r,n=>match Nat.beq m n with
  | true=>some v
  | false=>con r n
def j9(P:Program)(Γ:Gam):Prop:=∀ f c,con Γ f=some c->C4 P f c
theorem j9.nil{P:Program}:j9 P []:=λ_ _ h=>by simp[con]at h
theorem j9.cons{P:Program}{f:Nat}{c:Con}{Γ:Gam}(h1:C4 P f c)(h2:j9 P Γ):j9 P ((f,c) :: Γ):=λu ui h=>by
 simp only[con]at h;cases hb:Nat.beq f u
 ·rw[hb]at h;exact h2 u ui h
 ·rw[hb]at h;have:f=u:=eB9 hb;subst this;simp only[oI9]at h;subst h;exact h1
abbrev PF:=List SV->Option (SV×Option Prop)
def z4(F:PF):Con:=λargs _ _=>match F args with
 | some (v,p)=>some (Eff.pureO v p)
 | none=>none
def E8(P:Program)(f:Nat)(F:PF):Prop :=
 ∀ args v p,F args=some (v,p)->okP p->v.closed=true/\∀(ρ:Rho)(w:World),CallsV P f (p8 ρ args).toArray w λe w'=>e=.returned (v.den ρ)/\Below w.heap.size w w'
theorem C4.pure{P:Program}{f:Nat}{F:PF}(h:E8 P f F):C4 P f (z4 F) where
 calls:=by
  intro W0 Fr U H ρ w nm args e hH hb hn hc ho;unfold z4 at hc;split at hc
  ·rename_i v p hv;simp only[oI9]at hc;subst hc;obtain⟨h1,h2⟩:=h args v p hv ho;refine(h2 ρ w).mono ?_;rintro en w' ⟨rfl,hb'⟩;exact⟨ρ,λ_ _=>rfl,(hH.below hb').mono a0U,v,rfl,SV.bd_closed _ v h1,rfl⟩
  ·cases hc
 loc:=λh _=>h
structure Ctx where
 E:Env
 Γ:Gam
structure B7 (P:Program) (G:Ctx):Prop where
 E:b7O P G.E
 Γ:j9 P G.Γ
 mix:P.follows .mixedOrders=true
def a6i(rd:Nm->Option Ob)(m:Mth)(v:SV):Option (SV×List Nm) :=
 match m.off with
 | none=>some (v,[])
 | some o=>match v with
  | .ptr n i=>match rd n with
   | some ⟨_,_, .cells (_ :: _),_⟩=>some (.ptr n (i+o),[n])
   | _=>none
  | _=>none
def b0A(T:Tys)(Γ:Gam)(rd:Nm->Option Ob)(nm:Nm)(name:String)(x:SV)(vs:List SV):Option Eff :=
 match x with
 | .ifc t v=>match ty T t with
  | some ti=>match a8h ti.ms name with
   | some m=>match a6i rd m v with
    | some (v',rs)=>match con Γ m.f with
     | some k=>match k (v' :: vs) rd nm with
      | some e=>some ⟨e.val,e.wr,e.news,rs++e.rds,e.obl⟩
      | none=>none
     | none=>none
    | none=>none
   | none=>none
  | none=>none
 | _=>none
def a9Z(T:Tys)(Γ:Gam)(ev:Operand->Option SV)(rd:Nm->Option Ob)(nm:Nm)(c:Call):Option Eff :=
 match c.callee with
 | .invoke x name=>match ev x with
  | some v=>match evL ev c.args.toList with
   | some vs=>b0A T Γ rd nm name v vs
   | none=>none
  | none=>none
 | .value x=>match ev x with
  | some (.fn (.func f) first captured)=>match evL ev c.args.toList with
   | some vs=>match con Γ f with
    | some k=>k (first++(vs++captured)) rd nm
    | none=>none
   | none=>none
  | _=>none
 | _=>none
def a1D(G:Ctx)(ev:Operand->Option SV)(rd:Nm->Option Ob)(nm:Nm)(o:Op):Option Eff :=
 match o with
 | .call c=>match c.callee with
  | .builtin _=>a5i G.E ev rd nm c
  | _=>a9Z G.E.T G.Γ ev rd nm c
 | o=>P4 G.E ev rd nm o
theorem a1O(ρ:Rho):∀ a b:List SV,p8 ρ (a++b)=p8 ρ a++p8 ρ b
 | [],_=>rfl
 | x :: r,b=>by simp[p8,a1O ρ r b]
theorem a6q{U:Nm->Prop}{a b:List SV}(h:bdL U a)(h':bdL U b):bdL U (a++b):=by
 rw[G8]at *;intro v hv;rcases List.mem_append.1 hv with hv|hv
 ·exact h v hv
 ·exact h' v hv
section
variable {P:Program} {W0:World} {Fr:Nat->Prop} {U:Nm->Prop} {H:A1} {ρ:Rho} {w:World} {nm:Nm}
theorem a1J{G : Ctx}(hG : B7 P G)(hH : HSat W0 Fr U H ρ w)(hn : ∀ j, j < 24 -> ¬ U (nm + j)){ev : Operand -> Option SV}{a : Act}(hev : ∀ x v, ev x = some v -> a.eval x = v.den ρ /\ v.bd U)
   (hc : ∀ c v, ev (.const c) = some v -> c = v.den ρ) {o : Oper} {e : Eff} (h : a1D G ev (look H) nm o.op = some e) (ho : okP e.obl)
   {next : Act -> World -> Prop} {Q : Exit -> Act -> World -> Prop}
   (hk : ∀ ρ' w', (∀ n, U n -> ρ' n = ρ n) -> HSat W0 Fr (UU U nm) (e.wr ++ (e.news ++ H)) ρ' w' ->
     (match e.val with
      | some v => v.bd (UU U nm) -> next (a.put o.dst (v.den ρ')) w'
      | none => next (a.put o.dst undef) w')) : o.wp P a w next Q := by
 have plain : z9 W0 Fr U H ρ nm e ((execOp a.eval o).run P w) -> o.wp P a w next Q := by
   rintro ⟨ρ', w', h1, h2, h3⟩;have h4 := hk ρ' w' h1 h2;unfold Oper.wp;split at h3
   · rename_i v hv
     obtain ⟨h5, h6⟩ := h3;rw [h6];simp only [hv] at h4;exact h4 h5
   · rename_i hv
     rw [h3];simp only [hv] at h4;exact h4
 by_cases hcall : ∃ c, o.op = .call c
 · obtain ⟨c, hoc⟩ := hcall
   rw [hoc] at h;simp only [a1D] at h;split at h
   · rename_i b hb
     refine plain (a5C hG.E hH (by simpa using hn 0 (by decide)) hev hc (e := e) ?_ ho);rw [hoc];exact h
   · unfold a9Z at h
     split at h
     · rename_i x name hx
       split at h
       · rename_i v hv
         split at h
         · rename_i vs hvs
           unfold b0A at h;split at h
           · rename_i t u
             split at h
             · rename_i ti hti
               split at h
               · rename_i m hm
                 split at h
                 · rename_i v' rs hrecv
                   split at h
                   · rename_i k hk'
                     split at h
                     · rename_i e' he'
                       simp only [oI9] at h;subst h;obtain ⟨h1, h2⟩ := hev _ _ hv;obtain ⟨h3, h4⟩ := H3 hev hvs;obtain ⟨hmem, hname⟩ := a2o hm;have hmok := (hG.E.T t ti hti).ms m hmem
                       have hrv : v'.bd U /\ (method (P.types.size + Made.depth) t (u.den ρ) name).run P w = .ok (m.f, v'.den ρ) w := by
                         unfold a6i at hrecv;unfold MOk at hmok;split at hrecv
                         · rename_i hoff
                           simp only [oI9, pI9] at hrecv;obtain ⟨rfl, rfl⟩ := hrecv;rw [hoff, hname] at hmok;exact ⟨h2, hmok.1 _ _⟩
                         · rename_i o hoff
                           rw [hoff, hname] at hmok;split at hrecv
                           · rename_i n i
                             split at hrecv
                             · rename_i rw' el y l es hob
                               simp only [oI9, pI9] at hrecv;obtain ⟨rfl, rfl⟩ := hrecv;obtain ⟨b, off, cp, hρ⟩ := hH.there hob trivial;have e1 : (SV.ptr n i).den ρ = .pointer (some ⟨b, off + i, none⟩) := by simp [SV.den, Rho.addr, hρ]
                               have e2 : (SV.ptr n (i + o)).den ρ = .pointer (some ((⟨b, off + i, none⟩ : Addr).add o)) := by simp [SV.den, Rho.addr, hρ, Addr.add_lit, Nat.add_assoc]
                               rw [e1, e2];exact ⟨h2, hmok.1 _ _⟩
                             · cases hrecv
                           · cases hrecv
                       have hok := hG.Γ m.f k hk';have hcalls := hok.calls hH (show bdL U (v' :: vs) from ⟨hrv.1, h4⟩) hn he' ho
                       have hrun : (execOp a.eval o).run P w = (callFunc m.f (p8 ρ (v' :: vs)).toArray).run P w := by
                         have e1 : c.args.map a.eval = (p8 ρ vs).toArray := by rw [<- h3]; apply Array.ext'; simp
                         have e2 : ((#[Value.iface t (u.den ρ)] ++ (p8 ρ vs).toArray)[0]? : Option Value) = some (Value.iface t (u.den ρ)) := by simp
                         have e3 : (#[Value.iface t (u.den ρ)] ++ (p8 ρ vs).toArray).extract 1 (#[Value.iface t (u.den ρ)] ++ (p8 ρ vs).toArray).size = (p8 ρ vs).toArray := by
                           apply Array.ext'; simp
                         simp only [execOp, hoc, resolve, hx, h1, e1, SV.den, Sem.run_bind, Sem.run_pure, Result.andThen_ok, invoke, e2, callMethod, run_program, hrv.2];rw [e3];congr 2;simp [p8]
                       unfold Oper.wp;rw [hrun];rcases hcalls with ⟨⟨fn, hfn, hname', hbody⟩, hcalls⟩ | ⟨v, w', hv, ρ', h5, h6, v', h7, h8, h10⟩
                       · have hcf : (callFunc m.f (p8 ρ (v' :: vs)).toArray).run P w = .ok (.enter m.f (p8 ρ (v' :: vs)).toArray) w := by
                           simp only [callFunc, Sem.run_bind, run_program, Result.andThen_ok, hfn, hname', hbody, Bool.false_eq_true, if_false, Sem.run_pure]
                         rw [hcf];show Calls P m.f _ w _;refine hcalls.mono ?_;rintro en w' ⟨ρ', h5, h6, v, h7, h8, rfl⟩;have h9 := hk ρ' w' h5 h6;simp only [h7] at h9;exact h9 h8
                       · rw [hv]
                         have h9 := hk ρ' w' h5 h6;simp only [h7] at h9;injection h10 with h10
                         rw [h10];exact h9 h8
                     · cases h
                   · cases h
                 · cases h
               · cases h
             · cases h
           · cases h
         · cases h
       · cases h
     · rename_i x hx
       split at h
       · rename_i f first captured hf
         split at h
         · rename_i vs hvs
           split at h
           · rename_i k hk'
             obtain ⟨h1, h2⟩ := hev _ _ hf;obtain ⟨h3, h4⟩ := H3 hev hvs;simp only [SV.bd] at h2;have hok := hG.Γ f k hk';have hcalls := hok.calls hH (a6q h2.1 (a6q h4 h2.2)) hn h ho
             have hrun : (execOp a.eval o).run P w = (callFunc f (p8 ρ (first ++ (vs ++ captured))).toArray).run P w := by
               have e1 : c.args.map a.eval = (p8 ρ vs).toArray := by rw [<- h3]; apply Array.ext'; simp
               simp only [execOp, hoc, resolve, hx, h1, e1, SV.den, Deferred.ofValue, Sem.run_bind, Sem.run_pure, Result.andThen_ok, invoke];congr 2;rw [a1O, a1O];simp
             unfold Oper.wp;rw [hrun];rcases hcalls with ⟨⟨fn, hfn, hname, hbody⟩, hcalls⟩ | ⟨v, w', hv, ρ', h5, h6, v', h7, h8, h10⟩
             · have hcf : (callFunc f (p8 ρ (first ++ (vs ++ captured))).toArray).run P w = .ok (.enter f (p8 ρ (first ++ (vs ++ captured))).toArray) w := by
                 simp only [callFunc, Sem.run_bind, run_program, Result.andThen_ok, hfn, hname, hbody, Bool.false_eq_true, if_false, Sem.run_pure]
               rw [hcf];show Calls P f _ w _;refine hcalls.mono ?_;rintro en w' ⟨ρ', h5, h6, v, h7, h8, rfl⟩;have h9 := hk ρ' w' h5 h6;simp only [h7] at h9;exact h9 h8
             · rw [hv]
               have h9 := hk ρ' w' h5 h6;simp only [h7] at h9;injection h10 with h10
               rw [h10];exact h9 h8
           · cases h
         · cases h
       · cases h
     · cases h
 · have hop : P4 G.E ev (look H) nm o.op = some e := by
     unfold a1D at h;split at h
     · rename_i c hoc
       exact absurd ⟨c, hoc⟩ hcall
     · exact h
   exact plain (a5C hG.E hH (by simpa using hn 0 (by decide)) hev hc hop ho)
end
section
variable {G:Ctx} {E:Env} {ev ev':Operand->Option SV} {rd rd':Nm->Option Ob} {nm:Nm} {e:Eff}
theorem H4:∀ {xs:List Operand},(∀ x∈xs,ev' x=ev x)->evL ev' xs=evL ev xs
 | [],_=>rfl
 | x :: r,h=>by
  simp only[evL,h x (by simp),H4 (xs:=r) λy hy=>h y (by simp[hy])]
theorem S7:∀ {xs:List (Nat×Operand)},(∀ p∈xs,ev' p.2=ev p.2)->S5 ev' xs=S5 ev xs
 | [],_=>rfl
 | (i,x) :: r,h=>by
  have h1:ev' x=ev x:=h (i,x) (by simp);simp only[S5,h1,S7 (xs:=r) λy hy=>h y (by simp[hy])]
theorem V6{x:Option Operand}(h:∀ y,x=some y->ev' y=ev y):evO ev' x=evO ev x:=by
 cases x with
 | none=>rfl
 | some y=>simp only[evO,h y rfl]
theorem b5R{T:Tys}{t:Nat}{x:SV}(h:b5d T rd t x=some e)(hr:∀ n∈e.rds,rd' n=rd n):b5d T rd' t x=some e:=by
 unfold b5d at *;split at h
 ·rename_i n i;split at h
  ·rename_i ti hti;split at h
   ·rename_i hs;split at h
    ·rename_i ob hob;split at h
     ·rename_i v p hv;simp only[oI9]at h;subst h;simp only[hr n (by simp),hob,hv]
     ·cases h
    ·cases h
   ·cases h
  ·cases h
 ·cases h
theorem b7T{T:Tys}{t:Nat}{x v:SV}(h:b4U T rd t x v=some e)(hr:∀ n∈e.rds,rd' n=rd n):b4U T rd' t x v=some e:=by
 unfold b4U at *;split at h
 ·rename_i n i;split at h
  ·rename_i ti hti;split at h
   ·rename_i hs;split at h
    ·rename_i hs2;split at h
     ·rename_i el c hob;split at h
      ·rename_i c' hc';simp only[oI9]at h;subst h;simp only[hr n (by simp),hob,hc']
      ·cases h
     ·cases h
    ·cases h
   ·cases h
  ·cases h
 ·cases h
theorem a4V{T:Tys}{s:Nat}{x:SV}{i:Nat}(h:O4 T rd s x i=some e)(hr:∀ n∈e.rds,rd' n=rd n):O4 T rd' s x i=some e:=by
 unfold O4 at *;split at h
 ·rename_i n off;split at h
  ·rename_i hti;split at h
   ·rename_i hf;split at h
    ·rename_i hte;split at h
     ·rename_i hs;split at h
      ·rename_i ob hob;simp only[oI9]at h;subst h;simp only[hr n (by simp),hob]
      ·cases h
     ·cases h
    ·cases h
   ·cases h
  ·cases h
 ·cases h
theorem a3F{T:Tys}{t:Nat}{x:SV}{lo hi mx:Option SV}(h:a0s T rd t x lo hi mx=some e)(hr:∀ n∈e.rds,rd' n=rd n):a0s T rd' t x lo hi mx=some e:=by
 unfold a0s at *;split at h
 ·rename_i n len k i;split at h
  ·split at h
   ·split at h
    ·rename_i ob hob;split at h
     ·rename_i hf;simp only[oI9]at h;subst h;simp only[hr n (by simp),hob,hf]
     ·cases h
    ·cases h
   ·cases h
  ·cases h
 ·rename_i n off;split at h
  ·split at h
   ·split at h
    ·rename_i ob hob;simp only[oI9]at h;subst h;simp only[hr n (by simp),hob]
    ·cases h
   ·cases h
  ·cases h
 ·cases h
theorem a4S{T:Tys}{t:Nat}{x ix:SV}(h:O2 T rd t x ix=some e)(hr:∀ n∈e.rds,rd' n=rd n):O2 T rd' t x ix=some e:=by
 unfold O2 at *;split at h
 ·split at h
  ·rename_i n off;split at h
   ·rename_i hti;split at h
    ·rename_i hte;split at h
     ·rename_i ob hob;simp only[oI9]at h;subst h;simp only[hr n (by simp),hob]
     ·cases h
    ·cases h
   ·cases h
  ·rename_i n off len cap;split at h
   ·rename_i hti;split at h
    ·rename_i hte;split at h
     ·rename_i ob hob;simp only[oI9]at h;subst h;simp only[hr n (by simp),hob]
     ·cases h
    ·cases h
   ·cases h
  ·rename_i n len;split at h
   ·rename_i hti;split at h
    ·rename_i hte;split at h
     ·rename_i ob hob;simp only[oI9]at h;subst h;simp only[hr n (by simp),hob]
     ·cases h
    ·cases h
   ·cases h
  ·cases h
 ·cases h
theorem a4v{sz:Nat}{x:SV}{m:Nat}{vs:List SV}{mn:Nm}{p:Option Prop}(h:a4R rd sz x=some (m,vs,mn,p))(hr:rd' mn=rd mn):a4R rd' sz x=some (m,vs,mn,p):=by
 unfold a4R at *;split at h
 ·split at h
  ·rename_i ob hob;split at h
   ·rename_i us hus;have hm:=h;simp only[oI9,pI9]at hm;obtain⟨_,_,rfl,_⟩:=hm;simp only[hr,hob,hus];exact h
   ·cases h
  ·cases h
 ·split at h
  ·rename_i ob hob;split at h
   ·rename_i us hus;have hm:=h;simp only[oI9,pI9]at hm;obtain⟨_,_,rfl,_⟩:=hm;simp only[hr,hob,hus];exact h
   ·cases h
  ·cases h
 ·cases h
theorem a9q{T:Tys}{t:Nat}{s x:SV}(h:a0o T rd nm t s x=some e)(hr:∀ n∈e.rds,rd' n=rd n):a0o T rd' nm t s x=some e:=by
 unfold a0o at *;split at h
 ·split at h
  ·rename_i te hte;split at h
   ·rename_i m vs mn p hsrc;split at h
    ·rename_i hb;split at h
     ·split at h
      ·rename_i hf;have hm:=h;simp only[oI9]at hm;subst hm;simp only[a4v hsrc (hr mn (by simp)),hb,hf]
      ·cases h
     ·rename_i n len;split at h
      ·rename_i el c es hob;split at h
       ·rename_i hbe;split at h
        ·rename_i c' hc';have hm:=h;simp only[oI9]at hm;subst hm;simp only[a4v hsrc (hr mn (by simp)),hb,hr n (by simp),hob,hbe,hc']
        ·cases h
       ·cases h
      ·cases h
     ·cases h
    ·cases h
   ·cases h
  ·cases h
 ·cases h
theorem a6H{T:Tys}{x:SV}(h:R4 T rd x=some e)(hr:∀ n∈e.rds,rd' n=rd n):R4 T rd' x=some e:=by
 unfold R4 at *;split at h
 ·split at h
  ·rename_i ob hob;simp only[oI9]at h;subst h;simp only[hr _ (List.mem_singleton_self _),hob]
  ·cases h
 ·exact h
 ·split at h
  ·rename_i ti hti;split at h
   ·rename_i m hm;split at h
    ·rename_i ho
     first
     | exact h
     | (simp only[hti,hm,ho];exact h)
    ·rename_i o ho;split at h
     ·split at h
      ·rename_i ob hob;simp only[oI9]at h;subst h
       first
       | simp only[hti,hm,ho,hr _ (List.mem_singleton_self _),hob]
       | simp only[hr _ (List.mem_singleton_self _),hob]
      ·cases h
     ·cases h
   ·cases h
  ·cases h
 ·cases h
theorem a8Y{T:Tys}{op:BinOp}{t:Nat}{x y:SV}(h:a0e T rd op t x y=some e)(hr:∀ n∈e.rds,rd' n=rd n):a0e T rd' op t x y=some e:=by
 unfold a0e at *;split at h
 ·split at h
  ·split at h
   ·rename_i ob hob;split at h
    ·rename_i hl;simp only[oI9]at h;subst h;simp only[hr _ (List.mem_singleton_self _),hob]
    ·cases h
   ·cases h
  ·exact h
  ·cases h
 ·cases h
theorem b2D{T:Tys}{t:Nat}{d s:SV}(h:a4t T rd t d s=some e)(hr:∀ n∈e.rds,rd' n=rd n):a4t T rd' t d s=some e:=by
 unfold a4t at *;split at h
 ·split at h
  ·split at h
   ·split at h
    ·rename_i hdn;split at h
     ·rename_i hsn;split at h
      ·rename_i hk;simp only[oI9]at h;subst h;simp only[hr _ (List.mem_cons_self),hr _ (List.mem_cons_of_mem _ (List.mem_singleton_self _)),hdn,hsn,hk]
      ·cases h
     ·cases h
    ·cases h
   ·cases h
  ·cases h
 ·cases h
theorem b0u{o:Op}(h:P4 E ev rd nm o=some e)(hv:∀ x∈o.operands,ev' x=ev x)(hr:∀ n∈e.rds,rd' n=rd n):P4 E ev' rd' nm o=some e:=by
 cases o <;> simp only[P4,reduceCtorEq]at h
 case move x=>simp only[P4,hv x (by simp[Op.operands])];exact h
 case assign x=>simp only[P4,hv x (by simp[Op.operands])];exact h
 case pick c a b=>simp only[P4,hv c (by simp[Op.operands]),hv a (by simp[Op.operands]),hv b (by simp[Op.operands])];exact h
 case alloc t=>exact h
 case box t x=>simp only[P4,hv x (by simp[Op.operands])];exact h
 case load t x =>
  simp only[P4,hv x (by simp[Op.operands])];split at h
  ·exact b5R h hr
  ·exact h
 case store t x y =>
  simp only[P4,hv x (by simp[Op.operands]),hv y (by simp[Op.operands])];split at h
  ·exact b7T h hr
  ·cases h
 case binOp op t x y yt =>
  simp only[P4,hv x (by simp[Op.operands]),hv y (by simp[Op.operands])];split at h
  ·split at h
   ·exact h
   ·exact a8Y h hr
  ·cases h
 case nilCheck x =>
  simp only[P4,hv x (by simp[Op.operands])];split at h
  ·exact a6H h hr
  ·cases h
 case makeSlice t l c=>simp only[P4,hv l (by simp[Op.operands]),hv c (by simp[Op.operands])];exact h
 case unOp op t x=>simp only[P4,hv x (by simp[Op.operands])];exact h
 case convert s d x=>simp only[P4,hv x (by simp[Op.operands])];exact h
 case makeInterface t x=>simp only[P4,hv x (by simp[Op.operands])];exact h
 case makeFunc fn first captured =>
  simp only[P4];rw[H4 (ev:=ev) (ev':=ev') λx hx=>hv x (by simp[Op.operands];exact .inl (by simpa using hx)),H4 (ev:=ev) (ev':=ev') λx hx=>hv x (by simp[Op.operands];exact .inr (by simpa using hx))];exact h
 case slice t x lo hi mx =>
  simp only[P4,hv x (by simp[Op.operands])];rw[V6 (ev:=ev) (ev':=ev') (x:=lo) λy hy=>hv y (by simp[Op.operands,hy]),V6 (ev:=ev) (ev':=ev') (x:=hi) λy hy=>hv y (by simp[Op.operands,hy]),V6 (ev:=ev) (ev':=ev') (x:=mx) λy hy=>hv y (by simp[Op.operands,hy])];split at h
  ·split at h
   ·rename_i hs
    first|exact h|(simp only[hs];exact h)
   ·rename_i hs
    first|exact a3F h hr|(simp only[hs];exact a3F h hr)
  ·cases h
 case fieldAddr s x i =>
  simp only[P4,hv x (by simp[Op.operands])];split at h
  ·exact a4V h hr
  ·cases h
 case field s x i=>simp only[P4,hv x (by simp[Op.operands])];exact h
 case indexAddr t x i =>
  simp only[P4,hv x (by simp[Op.operands]),hv i (by simp[Op.operands])];split at h
  ·exact a4S h hr
  ·cases h
 case build t parts =>
  simp only[P4];rw[S7 (ev:=ev) (ev':=ev') λp hp=>hv p.2 (by simp only[Op.operands,List.mem_toArray,List.mem_map];exact⟨p,hp,rfl⟩)];exact h
 case buildSlice t len parts =>
  simp only[P4];rw[S7 (ev:=ev) (ev':=ev') λp hp=>hv p.2 (by simp only[Op.operands,List.mem_toArray,List.mem_map];exact⟨p,hp,rfl⟩)];exact h
 case typeAssert x t asserted ok=>simp only[P4,hv x (by simp[Op.operands])];exact h
 case extract x i=>simp only[P4,hv x (by simp[Op.operands])];exact h
 case call c =>
  simp only[P4];unfold a5i at *;split at h
  ·split at h
   ·split at h
    ·rw[H4 (ev:=ev) (ev':=ev') λx hx=>hv x (by simp[Op.operands,Call.operands];exact .inr (by simpa using hx))];split at h
     ·exact a9q h hr
     ·cases h
    ·cases h
   ·cases h
  ·split at h
   ·split at h
    ·rw[H4 (ev:=ev) (ev':=ev') λx hx=>hv x (by simp[Op.operands,Call.operands];exact .inr (by simpa using hx))];split at h
     ·exact b2D h hr
     ·cases h
    ·cases h
   ·cases h
  ·rw[H4 (ev:=ev) (ev':=ev') λx hx=>hv x (by simp[Op.operands,Call.operands];exact .inr (by simpa using hx))];exact h
  ·cases h
theorem b2e{m:Mth}{v v':SV}{rs:List Nm}(h:a6i rd m v=some (v',rs))(hr:∀ n∈rs,rd' n=rd n):a6i rd' m v=some (v',rs):=by
 unfold a6i at *;split at h
 ·exact h
 ·split at h
  ·split at h
   ·rename_i hob;simp only[oI9,pI9]at h;obtain⟨rfl,rfl⟩:=h;simp only[hr _ (List.mem_singleton_self _),hob]
   ·cases h
  ·cases h
theorem b4k{P:Program}{T:Tys}(hG:j9 P G.Γ){name:String}{x:SV}{vs:List SV}(h:b0A T G.Γ rd nm name x vs=some e)(hr:∀ n∈e.rds,rd' n=rd n):b0A T G.Γ rd' nm name x vs=some e:=by
 unfold b0A at *;split at h
 ·split at h
  ·split at h
   ·split at h
    ·rename_i hrv;split at h
     ·rename_i k hk;split at h
      ·rename_i e' he';simp only[oI9]at h;subst h;simp only[b2e hrv (λn hn=>hr n (by simp[hn])),(hG _ k hk).loc he' (λn hn=>hr n (by simp[hn]))]
      ·cases h
     ·cases h
    ·cases h
   ·cases h
  ·cases h
 ·cases h
theorem a7R{P:Program}(hG:j9 P G.Γ){o:Op}(h:a1D G ev rd nm o=some e)(hv:∀ x∈o.operands,ev' x=ev x)(hr:∀ n∈e.rds,rd' n=rd n):a1D G ev' rd' nm o=some e:=by
 unfold a1D at h;split at h
 ·rename_i c;simp only[a1D];split at h
  ·exact b0u (nm:=nm) (rd:=rd) (rd':=rd') (o:=.call c) h hv hr
  ·unfold a9Z at *;split at h
   ·rename_i x name hx;have h1:ev' x=ev x:=hv x (by simp[Op.operands,Call.operands,hx]);have h2:evL ev' c.args.toList=evL ev c.args.toList:=H4 λy hy=>hv y (by simp[Op.operands,Call.operands];exact .inr (by simpa using hy))
    simp only[h1,h2];split at h
    ·split at h
     ·exact b4k hG h hr
     ·cases h
    ·cases h
   ·rename_i x hx;have h1:ev' x=ev x:=hv x (by simp[Op.operands,Call.operands,hx]);have h2:evL ev' c.args.toList=evL ev c.args.toList:=H4 λy hy=>hv y (by simp[Op.operands,Call.operands];exact .inr (by simpa using hy))
    simp only[h1,h2];split at h
    ·split at h
     ·split at h
      ·rename_i k hk;exact(hG _ k hk).loc h hr
      ·cases h
     ·cases h
    ·cases h
   ·cases h
 ·rename_i hno;unfold a1D;split
  ·rename_i c;exact absurd rfl (hno c)
  ·exact b0u h hv hr
end
def rOp(E:Env)(ev:Operand->Option SV)(rd:Nm->Option Ob)(o:Op):Option Eff :=
 match o with
 | .load t (.global _)=>rGl E.T t
 | .load t x=>match ev x with
  | some v=>rLd E.T rd t v
  | none=>none
 | .store t x y=>match ev x,ev y with
  | some v,some u=>rSt E.T rd t v u
  | _,_=>none
 | .binOp op t x y _=>match P7 y with
  | true=>match ev x,ev y with
   | some v,some u=>rEq E.T op t v u
   | _,_=>none
  | false=>none
 | .nilCheck x=>match ev x with
  | some v=>c1W v
  | none=>none
 | .slice t x lo hi mx=>match ev x,evO ev lo,evO ev hi,evO ev mx with
  | some v,some l,some h,some m=>b2z E.T t v l h m
  | _,_,_,_=>none
 | .fieldAddr s x i=>match ev x with
  | some v=>rFA E.T s v i
  | none=>none
 | .indexAddr t x i=>match ev x,ev i with
  | some v,some u=>rIA E.T t v u
  | _,_=>none
 | .typeAssert x _ asserted ok=>match ev x with
  | some v=>b0a E.T v asserted ok
  | none=>none
 | .call c=>match c.callee with
  | .builtin .len=>match c.argTypes.toList with
   | [t]=>match evL ev c.args.toList with
    | some [x]=>c2j E.T t x
    | _=>none
   | _=>none
  | .builtin .copy=>match c.argTypes.toList with
   | [t,t']=>match Nat.beq t t' with
    | true=>match evL ev c.args.toList with
     | some [d,x]=>a7w E.T rd t d x
     | _=>none
    | false=>none
   | _=>none
  | _=>none
 | _=>none
section
variable {P:Program} {W0:World} {Fr:Nat->Prop} {U:Nm->Prop} {H:A1} {ρ:Rho} {w:World} {nm:Nm}
theorem b4m{E:Env}(hE:b7O P E)(hH:HSat W0 Fr U H ρ w){ev:Operand->Option SV}{a:Act}(hev:∀ x v,ev x=some v->a.eval x=v.den ρ/\v.bd U)
  {o:Oper} {e:Eff} (h:rOp E ev (look H) o.op=some e) (ho:okP e.obl) :
  z9 W0 Fr U H ρ nm e ((execOp a.eval o).run P w):=by
 obtain⟨dst,op,ty',pos,after,guard⟩:=o;simp only at h;cases op <;> simp only[rOp,reduceCtorEq]at h
 case load t x =>
  have plain:(match ev x with|some v=>rLd E.T (look H) t v|none=>none)=some e->z9 W0 Fr U H ρ nm e ((execOp a.eval ⟨dst, .load t x,ty',pos,after,guard⟩).run P w):=by
   intro h;split at h
   ·rename_i v hv;obtain⟨h1,h2⟩:=hev _ _ hv;have:=b4S (nm:=nm) hE.T hH h ho;simpa only[execOp,h1]using this
   ·cases h
  cases x with
  | global g =>
   simp only at h;unfold rGl at h;split at h
   ·rename_i ti hti;split at h
    ·rename_i hz;simp only[bA9]at hz;simp only[oI9]at h;subst h;have hz2:=eB9 hz.2;refine z9.same hH (v:=.agg []) trivial ?_;simp[execOp,Act.eval,Instr.loadAt,Instr.sureAddr,loadVar,(hE.T t ti hti).isAgg' w,hz.1,(hE.T t ti hti).run_size w,hz2,loadCells,loadCellsFrom,SV.den,p8]
    ·cases h
   ·cases h
  | _=>exact plain h
 case store t x y =>
  split at h
  ·rename_i v u hv hu;obtain⟨h1,h2⟩:=hev _ _ hv;obtain⟨h3,h4⟩:=hev _ _ hu;have:=b4s (nm:=nm) hE.T hH h ho;simpa only[execOp,h1,h3]using this
  ·cases h
 case binOp op t x y yt =>
  split at h
  ·rename_i hy;split at h
   ·rename_i v u hv hu;obtain⟨h1,h2⟩:=hev _ _ hv;obtain⟨h3,h4⟩:=hev _ _ hu;have:=b4V (P:=P) (nm:=nm) (xo:=x) (yo:=y) hE.T hH h ho hy;simp only[execOp,h1,h3];exact this
   ·cases h
  ·cases h
 case nilCheck x =>
  split at h
  ·rename_i v hv;obtain⟨h1,h2⟩:=hev _ _ hv;exact b2u hH h2 h ho rfl h1
  ·cases h
 case slice t x lo hi mx =>
  split at h
  ·rename_i v l hh m hv hl hhi hm;obtain⟨h1,h2⟩:=hev _ _ hv;have:=a9e (nm:=nm) hE.T hH h2 h ho;rw[<-V8 hev hl,<-V8 hev hhi,<-V8 hev hm]at this;simpa only[execOp,h1]using this
  ·cases h
 case fieldAddr s x i =>
  split at h
  ·rename_i v hv;obtain⟨h1,h2⟩:=hev _ _ hv;have:=b4R (nm:=nm) hE.T hH h2 h;simpa only[execOp,h1]using this
  ·cases h
 case indexAddr t x i =>
  split at h
  ·rename_i v u hv hu;obtain⟨h1,h2⟩:=hev _ _ hv;obtain⟨h3,h4⟩:=hev _ _ hu;have:=b5b (nm:=nm) hE.T hH h2 h ho;simpa only[execOp,h1,h3]using this
  ·cases h
 case typeAssert x t asserted ok =>
  split at h
  ·rename_i v hv;obtain⟨h1,h2⟩:=hev _ _ hv;have:=a7f (nm:=nm) (xt:=t) hE.T hH h2 h ho;simpa only[execOp,h1]using this
  ·cases h
 case call c =>
  split at h
  ·rename_i hb;split at h
   ·rename_i t hat;split at h
    ·rename_i x hvs;obtain⟨h1,h2⟩:=H3 hev hvs;have e1:c.args.map a.eval=(p8 ρ [x]).toArray:=by rw[<-h1];apply Array.ext';simp
     have e2:c.argTypes = #[t]:=by apply Array.ext';simpa using hat
     have:=b2r (P:=P) (nm:=nm) hE.T hH h ho ty' (c.args.map fun | .const _=>true|_=>false);simp only[execOp,resolve,hb,Sem.run_bind,Sem.run_pure,Result.andThen_ok,invoke,e1,e2];exact this
    ·cases h
   ·cases h
  ·rename_i hb;split at h
   ·rename_i t t' hat;split at h
    ·rename_i htt;have:=eB9 htt;subst this;split at h
     ·rename_i d x hvs;obtain⟨h1,h2⟩:=H3 hev hvs;have e1:c.args.map a.eval=(p8 ρ [d,x]).toArray:=by rw[<-h1];apply Array.ext';simp
      have e2:c.argTypes = #[t,t]:=by apply Array.ext';simpa using hat
      have:=b1m (P:=P) (nm:=nm) hE.T hH h ho ty';simp only[execOp,resolve,hb,Sem.run_bind,Sem.run_pure,Result.andThen_ok,invoke,e1,e2,builtin];simp only[Sem.run_bind,Sem.run_pure]at this;exact this
     ·cases h
    ·cases h
   ·cases h
  ·cases h
end
section
variable {E:Env} {ev ev':Operand->Option SV} {rd rd':Nm->Option Ob} {e:Eff}
theorem b8y{T:Tys}{t:Nat}{x:SV}(h:rLd T rd t x=some e)(hr:∀ n∈e.rds,rd' n=rd n):rLd T rd' t x=some e:=by
 unfold rLd at h ⊢;split at h
 ·rename_i n b c;split at h
  ·rename_i ti hti
   have key:rd' n=rd n:=by
    split at h
    ·split at h
     ·split at h
      ·simp only[oI9]at h;subst h;exact hr _ (by simp)
      ·cases h
     ·split at h <;> (simp only[oI9]at h;subst h;exact hr _ (by simp))
    ·cases h
   simp only[key];exact h
  ·cases h
 ·cases h
theorem b8C{T:Tys}{t:Nat}{x v:SV}(h:rSt T rd t x v=some e)(hr:∀ n∈e.rds,rd' n=rd n):rSt T rd' t x v=some e:=by
 unfold rSt at h ⊢;split at h
 ·rename_i n b c;split at h
  ·rename_i ti hti;split at h
   ·rename_i hl
    have key:rd' n=rd n:=by
     split at h
     ·split at h
      ·simp only[oI9]at h;subst h;exact hr _ (by simp)
      ·cases h
     ·cases h
    simp only[key];exact h
   ·cases h
  ·cases h
 ·cases h
theorem b9p{o:Op}(h:rOp E ev rd o=some e)(hv:∀ x∈o.operands,ev' x=ev x)(hr:∀ n∈e.rds,rd' n=rd n):rOp E ev' rd' o=some e:=by
 cases o <;> simp only[rOp,reduceCtorEq]at h ⊢
 case load t x =>
  cases x with
  | global g=>exact h
  | _ =>
   simp only at h ⊢;rw[hv _ (by simp[Op.operands])];split at h
   ·rename_i v hx;exact b8y h hr
   ·cases h
 case store t x y =>
  rw[hv x (by simp[Op.operands]),hv y (by simp[Op.operands])];split at h
  ·rename_i v u hx hy;exact b8C h hr
  ·cases h
 case binOp op t x y yt =>
  rw[hv x (by simp[Op.operands]),hv y (by simp[Op.operands])];exact h
 case nilCheck x =>
  rw[hv x (by simp[Op.operands])];exact h
 case slice t x lo hi mx =>
  rw[hv x (by simp[Op.operands]),V6 (x:=lo) (λy hy=>hv y (by simp[Op.operands,hy])),V6 (x:=hi) (λy hy=>hv y (by simp[Op.operands,hy])),V6 (x:=mx) (λy hy=>hv y (by simp[Op.operands,hy]))];exact h
 case fieldAddr s x i =>
  rw[hv x (by simp[Op.operands])];exact h
 case indexAddr t x i =>
  rw[hv x (by simp[Op.operands]),hv i (by simp[Op.operands])];exact h
 case typeAssert x t asserted ok =>
  rw[hv x (by simp[Op.operands])];exact h
 case call c =>
  split at h
  ·rename_i hb;rw[H4 (xs:=c.args.toList) (λx hx=>hv x (by simp[Op.operands,Call.operands];exact .inr (by simpa using hx)))];exact h
  ·rename_i hb;rw[H4 (xs:=c.args.toList) (λx hx=>hv x (by simp[Op.operands,Call.operands];exact .inr (by simpa using hx)))];split at h
   ·split at h
    ·split at h
     ·exact b4T h hr
     ·cases h
    ·cases h
   ·cases h
  ·cases h
end
structure ROp where
 ι:Type
 ne:Nonempty ι
 ev:ι->(Operand->Option SV)->(Nm->Option Ob)->Nm->Option (Eff×Prop)
structure b3O (P : Program) (R : ROp) (op : Op) : Prop where
 sound : ∀ {W0 : World} {Fr : Nat -> Prop} {U : Nm -> Prop} {H : A1} {ρ : Rho} {w : World} {nm : Nm} {ev : Operand -> Option SV} {a : Act} {o : Oper}, o.op = op ->
   HSat W0 Fr U H ρ w -> (∀ j, j < 24 -> ¬ U (nm + j)) -> (∀ x v, ev x = some v -> a.eval x = v.den ρ /\ v.bd U) ->
   (∀ i, ∃ e p, R.ev i ev (look H) nm = some (e, p) /\ okP e.obl) -> ∀ {next : Act -> World -> Prop} {Q : Exit -> Act -> World -> Prop},
   (∀ i e p ρ' w', R.ev i ev (look H) nm = some (e, p) -> p -> (∀ n, U n -> ρ' n = ρ n) -> HSat W0 Fr (UU U nm) (e.wr ++ (e.news ++ H)) ρ' w' ->
     (match e.val with
      | some v => v.bd (UU U nm) -> next (a.put o.dst (v.den ρ')) w'
      | none => next (a.put o.dst undef) w')) -> o.wp P a w next Q
 loc : ∀ {i : R.ι} {ev ev' : Operand -> Option SV} {rd rd' : Nm -> Option Ob} {nm : Nm} {e : Eff} {p : Prop}, R.ev i ev rd nm = some (e, p) -> (∀ x ∈ op.operands, ev' x = ev x) -> (∀ n ∈ e.rds, rd' n = rd n) -> R.ev i ev' rd' nm = some (e, p)
theorem z9.wp{P : Program}{W0 : World}{Fr : Nat -> Prop}{U : Nm -> Prop}{H : A1}{ρ : Rho}{w : World}{nm : Nm}{e : Eff}{a : Act}{o : Oper}(h : z9 W0 Fr U H ρ nm e ((execOp a.eval o).run P w))
   {next : Act -> World -> Prop} {Q : Exit -> Act -> World -> Prop}
   (hk : ∀ ρ' w', (∀ n, U n -> ρ' n = ρ n) -> HSat W0 Fr (UU U nm) (e.wr ++ (e.news ++ H)) ρ' w' ->
     (match e.val with
      | some v => v.bd (UU U nm) -> next (a.put o.dst (v.den ρ')) w'
      | none => next (a.put o.dst undef) w')) : o.wp P a w next Q := by
 obtain ⟨ρ', w', h1, h2, h3⟩ := h;have h4 := hk ρ' w' h1 h2;unfold Oper.wp;split at h3
 · rename_i v hv
   obtain ⟨h5, h6⟩ := h3;rw [h6];simp only [hv] at h4;exact h4 h5
 · rename_i hv
   rw [h3];simp only [hv] at h4;exact h4
def rz(T:Tys)(t:Nat)(c:Nat):Value:=match ty T t with
 | some ti=>(ti.zero.at c).den λ_=>none
 | none=>.bool false
def a0L:a9->Bool
 | .cells l=>a5z l
 | .ints _ _ _=>true
 | .flts _ _ _=>true
 | _=>false
theorem a3g{c:a9}(h:a0L c=true):∀ i,i<c.size->(c.at i).one=true:=by
 intro i hi
 cases c with
 | cells l =>
  have hi':i<l.length:=hi;simp only[a9.at,E6,List.getElem?_eq_getElem hi',Option.getD_some];exact a2g h _ (List.getElem_mem hi')
 | ints k n g=>rfl
 | flts k n g=>rfl
 | gen n f=>simp[a0L]at h
 | upto n l=>simp[a0L]at h
 | raw ts D sz F=>simp[a0L]at h
noncomputable def a1R(T:Tys)(n:Nm)(t b:Nat)(rd:Nm->Option Ob):Option (Eff×Prop) :=
 match ty T t with
 | some ti=>match a0L ti.zero with
  | true=>match rd n with
   | some ⟨true,el, .raw ts D sz F,es⟩=>some (⟨some (.pb n b 0),[(n,⟨true,el, .raw ts (K5 D b) (K2 D sz b ti.size) (I4 D F b (rz T t)),es⟩)],[],[n],none⟩,¬D b)
   | _=>none
  | false=>none
 | none=>none
section
variable {P:Program} {W0:World} {Fr:Nat->Prop} {U:Nm->Prop} {H:A1} {ρ:Rho} {w:World} {nm:Nm}
theorem a9t{T:Tys}(hT:TysOk P T)(hH:HSat W0 Fr U H ρ w){t n b0:Nat}{e:Eff}{p:Prop}(h:a1R T n t b0 (look H)=some (e,p)) :
  ∃ b e p,a1R T n t b (look H)=some (e,p)/\p/\z9 W0 Fr U H ρ nm e ((do pure (.value (<-Instr.alloc t true (.tuple #[]))):Sem Next).run P w):=by
 unfold a1R at h;split at h
 ·rename_i ti hti;split at h
  ·rename_i hall;split at h
   ·rename_i el ts D sz F es hob;have ht:=hT t ti hti;obtain⟨z,hz,hzs,hzv⟩:=ht.run_zero w
    obtain⟨h1,h2⟩:=hH.rawAlloc hob rfl rfl (arr:=z.cells) (t:=t) (z:=rz T t) (λc hc=>by
     have hc':c<ti.zero.size:=by rw[<-hzs];exact hc
     have:=hzv (λ_=>none) c hc';simp only[rz,hti]
     exact⟨this,SV.one_den _ (a3g hall c hc')⟩)
    refine⟨w.heap.size,⟨some (.pb n w.heap.size 0),[(n,⟨true,el, .raw ts (K5 D w.heap.size) (K2 D sz w.heap.size ti.size) (I4 D F w.heap.size (rz T t)),es⟩)],[],[n],none⟩,¬D w.heap.size,by simp only[a1R,hti,hall,hob],h1,ρ,w.alloc (.cells z.cells t),λ_ _=>rfl,?_,?_⟩
    ·have hs:z.cells.size=ti.size:=by rw[hzs,ht.zsz]
     rw[hs]at h2;rw[Q7 h1,Q2 h1];exact h2.mono a0U
    ·refine⟨.inl (hH.used n _ hob),?_⟩;simp[Instr.alloc,hz,newVar,newRow,SV.den]
   ·cases h
  ·cases h
 ·cases h
def a4W(F:Nat->Nat->Value)(b c n1:Nat)(vs:List Value)(z:Nat->Value):Nat->Value:=λj =>
 if j<n1 then F b (c+j)else if j<n1+vs.length then vs.getD (j-n1) (.bool false)else z j
def a3K(q p:Option Prop):Option Prop:=match p with
 | some p=>a3A q p
 | none=>q
def b8q:SV->Option (Nat×Nat×Nat×Nat×Option Prop)
 | .slb _ b c l k=>some (b,c,l,k,none)
 | .dv _ v=>some (slB v,slC v,slL v,slK v,some (isSlN v))
 | .nils=>some (0,0,0,0,none)
 | _=>none
def a7e(T:Tys)(n:Nm)(t:Nat)(s x:SV)(i:Option (Nat×Nat×(Nat->Value)))(rd:Nm->Option Ob):Option (Eff×Prop) :=
 match ty T t with
 | some {tk:=.slice e, ..}=>match ty T e with
  | some te=>match a4R rd te.size x with
   | some (m,vs,mn,p)=>match Nat.ble 1 te.size&&(Nat.ble 1 m&&a0L te.zero)with
    | true=>match a1q vs p with
     | some (us,q)=>match b8q s with
      | some (b,c,l,k,p1)=>match rd n with
       | some ⟨true,el, .raw ts D sz F,es⟩=>match i with
        | none=>some (⟨some (.slb n b c (l+m) k),[(n,⟨true,el, .raw ts D sz (a3u F b (c+l*te.size) us),es⟩)],[],[n,mn],
          a3A (a3K q p1) (l+m<=k->D b/\c+(l+m)*te.size<=sz b)⟩,l+m<=k)
        | some (b',k',z)=>some (⟨some (.slb n b' 0 (l+m) k'),[(n,⟨true,el, .raw ts (K5 D b') (D8 sz b' (k'*te.size)) (C8 F b' (a4W F b c (l*te.size) us z)),es⟩)],[],[n,mn],
          a3A (a3K q p1) ((0<l->D b/\c+l*te.size<=sz b)/\(l+m)*te.bytes<=140737488355328/\l+m<=maxLen)⟩,¬D b'/\k<l+m/\l+m<=k'/\k'<=maxLen)
       | _=>none
      | none=>none
     | none=>none
    | false=>none
   | none=>none
  | none=>none
 | _=>none
theorem a8l{s:SV}{b c l k:Nat}{p:Option Prop}(h:b8q s=some (b,c,l,k,p))(hp:okP p)(ρ:Rho) :
  s.den ρ=.slice (some ⟨b,c,none⟩) l k∨(s.den ρ=.slice none 0 0/\l=0/\k=0):=by
 unfold b8q at h;split at h
 ·simp only[oI9,pI9]at h;obtain⟨rfl,rfl,rfl,rfl,rfl⟩:=h;exact .inl rfl
 ·rename_i n v;simp only[oI9,pI9]at h;obtain⟨rfl,rfl,rfl,rfl,rfl⟩:=h;have hp:isSlN v:=hp;rcases hp with rfl|hp
  ·exact .inr ⟨by simp[SV.den,Value.oneCell'],rfl,rfl⟩
  ·refine .inl ?_;simp only[SV.den];rw[if_pos (a6Z hp)];exact hp
 ·simp only[oI9,pI9]at h;obtain⟨rfl,rfl,rfl,rfl,rfl⟩:=h;exact .inr ⟨rfl,rfl,rfl⟩
 ·cases h
theorem a7d{z:Array Value}(hz:∀ i,i<z.size->∃ v,z[i]? = some v/\v.oneCell'=true)(hpos:0<z.size){n j:Nat}{v:Value}(h:(Builtin.zeroCells z n)[j]? = some v):v.oneCell'=true:=by
 unfold Builtin.zeroCells at h;rw[Array.getElem?_map]at h;rw[Option.map_eq_some_iff]at h;obtain⟨a,ha,rfl⟩:=h;have hm:=Nat.mod_lt a hpos;obtain⟨v,hv,ho⟩:=hz _ hm;rw[getElem!_pos z _ hm];rw[Array.getElem?_eq_getElem hm]at hv;injection hv with hv
 rw[hv];exact ho
theorem b1J{T:Tys}(hT:TysOk P T)(hH:HSat W0 Fr U H ρ w){n t:Nat}{s x:SV}(h:∀ i,∃ e p,a7e T n t s x i (look H)=some (e,p)/\okP e.obl)(ty':Nat) :
  ∃ i e p,a7e T n t s x i (look H)=some (e,p)/\p/\z9 W0 Fr U H ρ nm e ((do pure (.value (<-Builtin.append_ #[t,t] ty' #[s.den ρ,x.den ρ])):Sem Next).run P w):=by
 obtain⟨e0,p0,h0,ho0⟩:=h none;have hgrow:=λb' k' z=>h (some (b',k',z))
 clear h;unfold a7e at h0;split at h0
 case h_2=>cases h0
 rename_i el0 _ _ _ _ hti;split at h0
 case h_2=>cases h0
 rename_i te hte;split at h0
 case h_2=>cases h0
 rename_i m vs mn p hsrc;split at h0
 case h_2=>cases h0
 rename_i hb;split at h0
 case h_2=>cases h0
 rename_i us q hus;split at h0
 case h_2=>cases h0
 rename_i b c l k p1 hdst;split at h0
 case h_2=>cases h0
 rename_i el ts D sz F es hob;simp only[oI9,pI9]at h0;obtain⟨rfl,rfl⟩:=h0
 have hcalc:∀ i,a7e T n t s x i (look H)=(match i with
   | none=>some (⟨some (.slb n b c (l+m) k),[(n,⟨true,el, .raw ts D sz (a3u F b (c+l*te.size) us),es⟩)],[],[n,mn],
     a3A (a3K q p1) (l+m<=k->D b/\c+(l+m)*te.size<=sz b)⟩,l+m<=k)
   | some (b',k',z)=>some (⟨some (.slb n b' 0 (l+m) k'),[(n,⟨true,el, .raw ts (K5 D b') (D8 sz b' (k'*te.size)) (C8 F b' (a4W F b c (l*te.size) us z)),es⟩)],[],[n,mn],
     a3A (a3K q p1) ((0<l->D b/\c+l*te.size<=sz b)/\(l+m)*te.bytes<=140737488355328/\l+m<=maxLen)⟩,¬D b'/\k<l+m/\l+m<=k'/\k'<=maxLen)):=by
  intro i
  cases i with
  | none=>simp only[a7e,hti,hte,hsrc,hb,hus,hdst,hob]
  | some j=>obtain⟨b',k',z⟩:=j;simp only[a7e,hti,hte,hsrc,hb,hus,hdst,hob]
 simp only[bA9]at hb;have hsz:=Nat.le_of_ble_eq_true hb.1;have hm:=Nat.le_of_ble_eq_true hb.2.1;obtain⟨hq,hroomO⟩:=Y8 ho0
 have hqp:okP q/\okP p1:=by
  cases p1 with
  | none=>exact⟨hq,trivial⟩
  | some p1=>exact Y8 hq
 obtain⟨hp,hden,hone⟩:=Y5 ρ hus hqp.1;obtain⟨a,off,cap,hx,hl,_,hcell⟩:=a1V (w:=w) hsz hH hsrc hp hm;rw[hden]at hcell;have hul:us.length=m*te.size:=by rw[<-hden,A4,List.length_map,hl]
 obtain⟨d,hd,hd2⟩:=(hT t _ hti).desc;cases d <;> simp only[G9,TK.slice.injEq,reduceCtorEq]at hd2
 subst hd2;rename_i el0;obtain⟨i,z,hi,hz,hsi,hby,hzs⟩:=(hT el0 _ hte).zero_row
 have hzone:∀ j,j<z.cells.size->∃ v,z.cells[j]? = some v/\v.oneCell'=true:=by
  intro j hj;obtain⟨z',hz',hzs',hzv⟩:=(hT el0 _ hte).run_zero w
  have:z'=z:=by
   simp[zeroValue,typeInfo,hi,hz]at hz';exact hz'.symm
  subst this;have hj':j<te.zero.size:=by rw[<-hzs'];exact hj
  exact⟨_,hzv (λ_=>none) j hj',SV.one_den _ (a3g hb.2.2 j hj')⟩
 have hU:=hH.used n _ hob;by_cases hroom:l+m<=k
 ·obtain⟨hD,hfit⟩:=hroomO hroom;refine⟨none,_,_,hcalc none,hroom,?_⟩
  have hs:s.den ρ=.slice (some ⟨b,c,none⟩) l k:=by
   rcases a8l hdst hqp.2 ρ with h1|⟨_,h2,h3⟩
   ·exact h1
   ·omega
  have hlen:c+l*te.size+us.length<=sz b:=by rw[hul];rw[Nat.add_mul]at hfit;omega
  obtain⟨w',hrun,hH'⟩:=a0D (P:=P) hD us F hH hob (c+l*te.size) 0 (by omega) hone
  have hr:=run_append_room_cells (P:=P) (w:=w) t ty' el0 i hd hi b c l k ⟨a,off,none⟩ m cap us (by rw[hul,hsi]) hcell hone hroom (λj hj=>by
    obtain⟨h1,_,_⟩:=hH.rawCell hob rfl rfl hD (c:=c+l*i.size+j) (by rw[hsi];omega)
    rw[h1];rfl) (λj hj=>(hH.rawCell hob rfl rfl hD (c:=c+l*i.size+j) (by rw[hsi];omega)).2.2)
  have hst:=run_storeCells_cells (P:=P) b (c+l*te.size) us 0 w (λj hj=>by
    obtain⟨h1,_,_⟩:=hH.rawCell hob rfl rfl hD (c:=c+l*te.size+0+j) (by omega)
    rw[h1];rfl) (λj hj=>(hH.rawCell hob rfl rfl hD (c:=c+l*te.size+0+j) (by omega)).2.2) hone
  rw[hrun]at hst;injection hst with _ hst
  refine⟨ρ,w',λ_ _=>rfl,by simpa using hH'.mono a0U, .inl hU,?_⟩;rw[hs,hx,Sem.run_bind,hr,hsi,hst];simp[SV.den]
 ·
  have key:∀(olds:List Value),olds.length=l*te.size->(∀ j v,olds[j]? = some v->v=F b (c+j)/\v.oneCell'=true)->
    (Builtin.append_ #[t,t] ty' #[s.den ρ,x.den ρ]).run P w=.ok (.slice (some ⟨w.heap.size,0,none⟩) (l+m) (grownCap w (l+m) k el0))
     (w.drew.alloc (.cells (olds.toArray++us.toArray++Builtin.zeroCells z.cells (grownCap w (l+m) k el0-(l+m))) el0))->
    ∃ i e p,a7e T n t s x i (look H)=some (e,p)/\p/\z9 W0 Fr U H ρ nm e ((do pure (.value (<-Builtin.append_ #[t,t] ty' #[s.den ρ,x.den ρ])):Sem Next).run P w):=by
   intro olds hol holds hr
   let arr:=olds.toArray++us.toArray++Builtin.zeroCells z.cells (grownCap w (l+m) k el0-(l+m))
   obtain⟨e1,p1',h1,ho1⟩:=hgrow 0 0 λ_=>.bool false
   rw[hcalc]at h1;simp only[oI9,pI9]at h1;obtain⟨rfl,rfl⟩:=h1;obtain⟨_,_,_,hlm⟩:=Y8 ho1;have hge:=grownCap_ge w (l+m) k el0;have hcm:=grownCap_le_maxLen w (l+m) k el0 hlm
   have hsize:arr.size=grownCap w (l+m) k el0*te.size:=by
    simp only[arr,Array.size_append,List.size_toArray,size_zeroCells,hzs,hul,hol,<-Nat.add_mul];congr 1;omega
   obtain⟨h2,h3⟩:=hH.drew.rawAlloc hob rfl rfl (arr:=arr) (t:=el0) (z:=a4W F b c (l*te.size) us λj=>(arr[j]?).getD (.bool false)) (λj hj=>by
    unfold a4W;by_cases hj1:j<l*te.size
    ·rw[if_pos hj1];have hjo:j<olds.length:=by omega
     have:arr[j]? = some olds[j]:=by
      simp only[arr];rw[Array.getElem?_append_left (by simp;omega),Array.getElem?_append_left (by simpa using hjo)];simp[hjo]
     obtain⟨h4,h5⟩:=holds j olds[j] (List.getElem?_eq_getElem hjo);rw[this,<-h4];exact⟨rfl,h5⟩
    ·rw[if_neg hj1];by_cases hj2:j<l*te.size+us.length
     ·rw[if_pos hj2];have hju:j-l*te.size<us.length:=by omega
      have:arr[j]? = some us[j-l*te.size]:=by
       simp only[arr];rw[Array.getElem?_append_left (by simp;omega),Array.getElem?_append_right (by simp;omega)];simp[hol,hju]
      rw[this,List.getD_eq_getElem?_getD,List.getElem?_eq_getElem hju];exact⟨rfl,hone _ (List.getElem_mem hju)⟩
     ·rw[if_neg hj2];have hv:arr[j]? = some arr[j]:=Array.getElem?_eq_getElem hj;refine⟨by simp only[hv,Option.getD_some],?_⟩;show ((arr[j]?).getD (.bool false)).oneCell'=true;rw[hv];show (arr[j]).oneCell'=true;simp only[arr]at hv;rw[Array.getElem?_append_right (by simp;omega)]at hv
      exact a7d hzone (by omega) hv)
   have hwz:(w.drew).heap.size=w.heap.size:=rfl;rw[hwz]at h2 h3;refine⟨some (w.heap.size,grownCap w (l+m) k el0,λj=>(arr[j]?).getD (.bool false)),_,_,hcalc _,⟨h2,by omega,hge,hcm⟩,ρ,w.drew.alloc (.cells arr el0),λ_ _=>rfl,?_, .inl hU,?_⟩
   ·rw[hsize]at h3;exact h3.mono a0U
   ·rw[Sem.run_bind,hr];rfl
  obtain⟨e1,p1',h1,ho1⟩:=hgrow 0 0 λ_=>.bool false
  rw[hcalc]at h1;simp only[oI9,pI9]at h1;obtain⟨rfl,rfl⟩:=h1;obtain⟨_,hDl,hby2,hlm⟩:=Y8 ho1;rcases a8l hdst hqp.2 ρ with hs|⟨hs,hl0,hk0⟩
  ·have hcells:∀ j,j<l*te.size->w.cell? ⟨b,c+j,none⟩=some (F b (c+j))/\(F b (c+j)).oneCell'=true:=by
    intro j hj
    have hl0:0<l:=by
     rcases Nat.eq_zero_or_pos l with h0|h0
     ·subst h0;simp at hj
     ·exact h0
    obtain⟨hD,hfit⟩:=hDl hl0;obtain⟨h4,h5,_⟩:=hH.rawCell hob rfl rfl hD (c:=c+j) (by omega);exact⟨h4,h5⟩
   refine key (fvs F b c (l*te.size)) (a5v _ _ _ _) (λj v hj=>?_) ?_
   ·obtain⟨h4,h5⟩:=a5n F b _ _ _ _ hj;exact⟨h5,by rw[h5];exact(hcells j h4).2⟩
   ·rw[hs,hx]
    exact run_append_grow (P:=P) w t ty' el0 i z hd hi hz ⟨b,c,none⟩ l k (fvs F b c (l*te.size)) (by rw[a5v,hsi]) (λj v hj=>by
     obtain⟨h4,h5⟩:=a5n F b _ _ _ _ hj
     rw[Addr.add_lit,h5];exact(hcells j h4).1) ⟨a,off,none⟩ m cap us (by rw[hul,hsi]) hcell (by omega) (by simp only[maxLen]at hlm;omega) (growslice_fits (by omega) (by rw[hby];exact hby2))
  ·subst hl0 hk0;refine key [] (by simp) (λj v hj=>by simp at hj) ?_;have hr:=run_append_nil (P:=P) w t ty' el0 i z hd hi hz ⟨a,off,none⟩ m cap us (by rw[hul,hsi]) hcell (by omega) (by simp only[maxLen]at hlm;omega) (by rw[hby];rw[Nat.zero_add]at hby2;omega);rw[hs,hx,hr];simp
end
section
variable {P:Program} {W0:World} {Fr:Nat->Prop} {U:Nm->Prop} {H:A1} {ρ:Rho} {w:World} {nm:Nm}
def a1F(T:Tys)(n:Nm)(t len:Nat)(ps:List (Nat×SV))(b:Nat)(rd:Nm->Option Ob):Option (Eff×Prop) :=
 match ty T t with
 | some {tk:=.slice e, ..}=>match ty T e with
  | some {zero:=.cells z,size:=sz, ..}=>match Nat.ble 1 (len*sz)&&Nat.ble (len*sz) 16777216 with
   | true=>match U6 (λi=>some (i*sz,sz)) (a4Y z len) ps with
    | some r=>match a1q r none with
     | some (us,q)=>match rd n with
      | some ⟨true,el, .raw ts D sz' F,es⟩=>some (⟨some (.slb n b 0 len len),[(n,⟨true,el, .raw ts (K5 D b) (D8 sz' b (len*sz)) (C8 F b λj=>us.getD j (.bool false)),es⟩)],[],[n],q⟩,¬D b)
      | _=>none
     | none=>none
    | none=>none
   | false=>none
  | _=>none
 | _=>none
theorem a6F{T:Tys}(hT:TysOk P T){t len el:Nat}{ps:List (Nat×SV)}{s1 b1:Nat}{z1:a9}{m1:List Mth}(hti:ty T t=some ⟨.slice el,s1,b1,z1,m1⟩){tk:TK}{sz by':Nat}{z:List SV}{msx:List Mth}(hte:ty T el=some ⟨tk,sz,by', .cells z,msx⟩)
  (h1':1<=len*sz) (h2':len*sz<=16777216) {r:List SV} (hr:U6 (λi=>some (i*sz,sz)) (a4Y z len) ps=some r) :
  (p8 ρ r).length=len*sz/\(Instr.buildSlice t len (ps.map λp=>(p.1,p.2.den ρ)).toArray).run P w=.ok (.slice (some ⟨w.heap.size,0,none⟩) len len) (w.alloc (.cells (p8 ρ r).toArray el)):=by
 have hte':=hT el _ hte;obtain⟨d,hd,hd2⟩:=(hT t _ hti).desc;cases d <;> simp only[G9,TK.slice.injEq,reduceCtorEq]at hd2
 subst hd2;obtain⟨v,hz1,hz2,hz3⟩:=R8 hte' rfl ρ w;have hzl:z.length=sz:=hte'.zsz;have hrl:r.length=len*sz:=by rw[a0J hr,U0,hzl]
 have hs:(sizeOf ‹Nat›).run P w=.ok sz w:=hte'.run_size w
 have hinit:((Array.range (len*sz)).map λi=>(p8 ρ z).toArray[i % (p8 ρ z).toArray.size]!)=(p8 ρ (a4Y z len)).toArray:=by
  apply Array.ext_getElem?
  intro i;by_cases hi:i<len*sz
  ·have hp0:0<z.length:=by
    rw[hzl];rcases Nat.eq_zero_or_pos sz with h0|h0
    ·rw[h0]at h1';simp at h1'
    ·exact h0
   have h3:i % z.length<z.length:=Nat.mod_lt _ hp0;have h4:i<len*z.length:=by rw[hzl];exact hi
   simp only[Array.getElem?_map,Array.getElem?_range,hi,if_true,Option.map_some,A4,List.getElem?_toArray,List.getElem?_map,a6G z len i h4,List.getElem?_eq_getElem h3];simp[h3]
  ·have h4:¬i<len*z.length:=by rw[hzl];exact hi
   rw[Array.getElem?_eq_none (by simp;omega),Array.getElem?_eq_none (by simp[A4,U0];omega)]
 refine⟨by simp[A4,hrl],?_⟩;have hne:len*sz≠0:=by omega
 simp only[Instr.buildSlice,Sem.run_bind,run_underlying hd,Result.andThen_ok,hs,Sem.run_ite,hne,if_false,hz1,hz2,Sem.run_pure];have hle2:¬len*sz > 2 ^ 24:=by omega
 simp only[hle2,if_false,Sem.run_bind,Sem.run_pure,hinit,a3I ρ hr];simp[newRow]
theorem a8V{T:Tys}(hT:TysOk P T)(hH:HSat W0 Fr U H ρ w){n t len b0:Nat}{ps:List (Nat×SV)}{e:Eff}{p:Prop}(h:a1F T n t len ps b0 (look H)=some (e,p))(ho:okP e.obl) :
  ∃ b e p,a1F T n t len ps b (look H)=some (e,p)/\p/\z9 W0 Fr U H ρ nm e ((do pure (.value (<-Instr.buildSlice t len (ps.map λp=>(p.1,p.2.den ρ)).toArray)):Sem Next).run P w):=by
 unfold a1F at h;split at h
 case h_2=>cases h
 rename_i el _ _ _ _ hti;split at h
 case h_2=>cases h
 rename_i tk sz by' z msx hte;split at h
 case h_2=>cases h
 rename_i hb;split at h
 case h_2=>cases h
 rename_i r hr;split at h
 case h_2=>cases h
 rename_i us q hus;split at h
 case h_2=>cases h
 rename_i el' ts D sz' F es hob;simp only[oI9,pI9]at h;obtain⟨rfl,rfl⟩:=h;have hb2:=hb;simp only[bA9]at hb2;obtain⟨_,hden,hone⟩:=Y5 ρ hus ho;obtain⟨hl,hrun⟩:=a6F (ρ:=ρ) (w:=w) hT hti hte (Nat.le_of_ble_eq_true hb2.1) (Nat.le_of_ble_eq_true hb2.2) hr;rw[hden]at hl hrun
 obtain⟨h1,h2⟩:=hH.rawAlloc hob rfl rfl (arr:=us.toArray) (t:=el) (z:=λj=>us.getD j (.bool false)) (λc hc=>by
  have hc':c<us.length:=by simpa using hc
  simp only[List.getElem?_toArray,List.getElem?_eq_getElem hc',List.getD_eq_getElem?_getD,Option.getD_some]
  exact⟨trivial,hone _ (List.getElem_mem hc')⟩)
 refine⟨w.heap.size,⟨some (.slb n w.heap.size 0 len len),[(n,⟨true,el', .raw ts (K5 D w.heap.size) (D8 sz' w.heap.size (len*sz)) (C8 F w.heap.size λj=>us.getD j (.bool false)),es⟩)],[],[n],q⟩,¬D w.heap.size,
  by simp only[a1F,hti,hte,hb,hr,hus,hob],h1,ρ,w.alloc (.cells us.toArray el),λ_ _=>rfl,?_, .inl (hH.used n _ hob),?_⟩
 ·have hs:us.toArray.size=len*sz:=by simpa using hl
  rw[hs]at h2;exact h2.mono a0U
 ·rw[Sem.run_bind,hrun];rfl
structure ApI where
 b:Nat
 c:Nat
 k:Nat
 D:Nat->Prop
 S:Nat->Nat
 F:Nat->Nat->Value
def P1(D:Nat->Prop)(sz:Nat->Nat)(F:Nat->Nat->Value)(z b c l k m:Nat)(us:List Value)(i:ApI):Prop :=
 (l+m<=k/\i.b=b/\i.c=c/\i.k=k/\i.D=D/\i.S=sz/\i.F=a3u F b (c+l*z) us)∨
 (k<l+m/\¬D i.b/\i.c=0/\l+m<=i.k/\i.k<=maxLen/\i.D=K5 D i.b/\i.S=D8 sz i.b (i.k*z)/\∃ zz,i.F=C8 F i.b (a4W F b c (l*z) us zz))
def appO(D:Nat->Prop)(sz:Nat->Nat)(z y b c l k m:Nat):Prop :=
 (l+m<=k->D b/\c+(l+m)*z<=sz b)/\(0<l->D b/\c+l*z<=sz b)/\(l+m)*y<=140737488355328/\l+m<=maxLen
def a3w(T:Tys)(n:Nm)(t:Nat)(s x:SV)(i:ApI)(rd:Nm->Option Ob):Option (Eff×Prop) :=
 match ty T t with
 | some {tk:=.slice e, ..}=>match ty T e with
  | some te=>match a4R rd te.size x with
   | some (m,vs,mn,p)=>match Nat.ble 1 te.size&&(Nat.ble 1 m&&a0L te.zero)with
    | true=>match a1q vs p with
     | some (us,q)=>match b8q s with
      | some (b,c,l,k,p1)=>match rd n with
       | some ⟨true,el, .raw ts D sz F,es⟩=>some (⟨some (.slb n i.b i.c (l+m) i.k),[(n,⟨true,el, .raw ts i.D i.S i.F,es⟩)],[],[n,mn],
          a3A (a3K q p1) (appO D sz te.size te.bytes b c l k m)⟩,P1 D sz F te.size b c l k m us i)
       | _=>none
      | none=>none
     | none=>none
    | false=>none
   | none=>none
  | none=>none
 | _=>none
theorem b0N{T:Tys}(hT:TysOk P T)(hH:HSat W0 Fr U H ρ w){n t:Nat}{s x:SV}(h:∀ i,∃ e p,a3w T n t s x i (look H)=some (e,p)/\okP e.obl)(ty':Nat) :
  ∃ i e p,a3w T n t s x i (look H)=some (e,p)/\p/\z9 W0 Fr U H ρ nm e ((do pure (.value (<-Builtin.append_ #[t,t] ty' #[s.den ρ,x.den ρ])):Sem Next).run P w):=by
 obtain⟨e0,p0,h0,ho0⟩:=h ⟨0,0,0,λ_=>False,λ_=>0,λ_ _=>.bool false⟩;clear h;unfold a3w at h0;split at h0
 case h_2=>cases h0
 rename_i el0 _ _ _ _ hti;split at h0
 case h_2=>cases h0
 rename_i te hte;split at h0
 case h_2=>cases h0
 rename_i m vs mn p hsrc;split at h0
 case h_2=>cases h0
 rename_i hb;split at h0
 case h_2=>cases h0
 rename_i us q hus;split at h0
 case h_2=>cases h0
 rename_i b c l k p1 hdst;split at h0
 case h_2=>cases h0
 rename_i el ts D sz F es hob;simp only[oI9,pI9]at h0;obtain⟨rfl,rfl⟩:=h0;obtain⟨hq,hO1,hO2,hO3,hO4⟩:=Y8 ho0
 have hcalc:∀ i,a3w T n t s x i (look H)=some (⟨some (.slb n i.b i.c (l+m) i.k),[(n,⟨true,el, .raw ts i.D i.S i.F,es⟩)],[],[n,mn],
   a3A (a3K q p1) (appO D sz te.size te.bytes b c l k m)⟩,P1 D sz F te.size b c l k m us i):=by
  intro i;simp only[a3w,hti,hte,hsrc,hb,hus,hdst,hob]
 have hcalc2:∀ i,a7e T n t s x i (look H)=(match i with
   | none=>some (⟨some (.slb n b c (l+m) k),[(n,⟨true,el, .raw ts D sz (a3u F b (c+l*te.size) us),es⟩)],[],[n,mn],
     a3A (a3K q p1) (l+m<=k->D b/\c+(l+m)*te.size<=sz b)⟩,l+m<=k)
   | some (b',k',z)=>some (⟨some (.slb n b' 0 (l+m) k'),[(n,⟨true,el, .raw ts (K5 D b') (D8 sz b' (k'*te.size)) (C8 F b' (a4W F b c (l*te.size) us z)),es⟩)],[],[n,mn],
     a3A (a3K q p1) ((0<l->D b/\c+l*te.size<=sz b)/\(l+m)*te.bytes<=140737488355328/\l+m<=maxLen)⟩,¬D b'/\k<l+m/\l+m<=k'/\k'<=maxLen)):=by
  intro i
  cases i with
  | none=>simp only[a7e,hti,hte,hsrc,hb,hus,hdst,hob]
  | some j=>obtain⟨b',k',z⟩:=j;simp only[a7e,hti,hte,hsrc,hb,hus,hdst,hob]
 have andP_mk:∀ {q:Option Prop} {r:Prop},okP q->r->okP (a3A q r):=by
  intro q r h1 h2
  cases q with
  | none=>exact h2
  | some q=>exact⟨h1,h2⟩
 obtain⟨j,e,p',h1,h2,h3⟩:=b1J (nm:=nm) hT hH (n:=n) (t:=t) (s:=s) (x:=x) (λj=>by
  rw[hcalc2]
  cases j with
  | none=>exact⟨_,_,rfl,andP_mk hq hO1⟩
  | some j=>obtain⟨b',k',z⟩:=j;exact⟨_,_,rfl,andP_mk hq ⟨hO2,hO3,hO4⟩⟩) ty'
 rw[hcalc2]at h1
 cases j with
 | none =>
  simp only[oI9,pI9]at h1;obtain⟨rfl,rfl⟩:=h1;exact⟨⟨b,c,k,D,sz,a3u F b (c+l*te.size) us⟩,_,_,hcalc _, .inl ⟨h2,rfl,rfl,rfl,rfl,rfl,rfl⟩,h3⟩
 | some j =>
  obtain⟨b',k',z⟩:=j;simp only[oI9,pI9]at h1;obtain⟨rfl,rfl⟩:=h1;obtain⟨h4,h5,h6,h7⟩:=h2;exact⟨⟨b',0,k',K5 D b',D8 sz b' (k'*te.size),C8 F b' (a4W F b c (l*te.size) us z)⟩,_,_,hcalc _, .inr ⟨h5,h4,rfl,h6,h7,rfl,rfl,z,rfl⟩,h3⟩
end
structure a8L where
 ι:Type
 ne:Nonempty ι
 c:ι->List SV->(Nm->Option Ob)->Nm->Option (Eff×Prop)
structure z0 (P:Program) (f:Nat) (R:a8L):Prop where
 calls:∀ {W0:World} {Fr:Nat->Prop} {U:Nm->Prop} {H:A1} {ρ:Rho} {w:World} {nm:Nm} {args:List SV},
  HSat W0 Fr U H ρ w->bdL U args->(∀ j,j<24->¬U (nm+j))->(∀ i,∃ e p,R.c i args (look H) nm=some (e,p)/\okP e.obl)->
  CallsV P f (p8 ρ args).toArray w λen w'=>∃ i e p,R.c i args (look H) nm=some (e,p)/\p/\∃ ρ',(∀ n,U n->ρ' n=ρ n)/\HSat W0 Fr (UU U nm) (e.wr++(e.news++H)) ρ' w'/\
   ∃ v,e.val=some v/\v.bd (UU U nm)/\en=.returned (v.den ρ')
 loc:∀ {i:R.ι} {args:List SV} {rd rd':Nm->Option Ob} {nm:Nm} {e:Eff} {p:Prop},R.c i args rd nm=some (e,p)->(∀ n∈e.rds,rd' n=rd n)->R.c i args rd' nm=some (e,p)
abbrev b9C:=List (Nat×a8L)
def b7a:b9C->Nat->Option a8L
 | [],_=>none
 | (m,v) :: r,n=>match Nat.beq m n with
  | true=>some v
  | false=>b7a r n
def q8(P:Program)(Γ:b9C):Prop:=∀ f c,b7a Γ f=some c->z0 P f c
theorem q8.nil{P:Program}:q8 P []:=λ_ _ h=>by simp[b7a]at h
theorem q8.cons{P:Program}{f:Nat}{c:a8L}{Γ:b9C}(h1:z0 P f c)(h2:q8 P Γ):q8 P ((f,c) :: Γ):=λu ui h=>by
 simp only[b7a]at h;cases hb:Nat.beq f u
 ·rw[hb]at h;exact h2 u ui h
 ·rw[hb]at h;have:f=u:=eB9 hb;subst this;simp only[oI9]at h;subst h;exact h1
structure F3 where
 G:Ctx
 R:b9C
 al:List (Nat×Nm)
 bs:List (Nat×Nm)
 ap:List (Nat×Nm)
structure A7 (P:Program) (X:F3):Prop where
 G:B7 P X.G
 R:q8 P X.R
def b7p:List (Nat×Nm)->Nat->Option Nm
 | [],_=>none
 | (m,v) :: r,n=>match Nat.beq m n with
  | true=>some v
  | false=>b7p r n
def nrm(T:Tys)(t:Nat)(v:SV):SV×Option Prop :=
 match v with
 | .dv n x=>match ty T t with
  | some {tk:=.ptr _, ..}=>(.pb n (ptB x) (ptC x),some (a1d x))
  | _=>(v,none)
 | _=>(v,none)
def a3X(T:Tys):List Nat->List SV->Option Prop->List SV×Option Prop
 | t :: ts,v :: vs,p=>((nrm T t v).1 :: (a3X T ts vs (a3K p (nrm T t v).2)).1,(a3X T ts vs (a3K p (nrm T t v).2)).2)
 | _,vs,p=>(vs,p)
theorem b3S{q p:Option Prop}(h:okP (a3K q p)):okP q/\okP p:=by
 cases p with
 | none=>exact⟨h,trivial⟩
 | some p=>exact Y8 h
theorem b7J{T:Tys}{t:Nat}{v:SV}(h:okP (nrm T t v).2)(ρ:Rho)(U:Nm->Prop):(nrm T t v).1.den ρ=v.den ρ/\(v.bd U->(nrm T t v).1.bd U):=by
 unfold nrm at h ⊢;split
 ·rename_i n x;split
  ·rename_i hti;simp only[hti]at h;have h:a1d x:=h;refine⟨?_,λhb=>hb⟩;simp only[SV.den];rw[if_pos (b1j h)];exact h.symm
  ·exact⟨rfl,λhb=>hb⟩
 ·exact⟨rfl,λhb=>hb⟩
theorem a8p{T:Tys}(ρ:Rho)(U:Nm->Prop):∀ {ts:List Nat} {vs:List SV} {p:Option Prop},okP (a3X T ts vs p).2->okP p/\p8 ρ (a3X T ts vs p).1=p8 ρ vs/\(bdL U vs->bdL U (a3X T ts vs p).1)
 | t :: ts,v :: vs,p,h=>by
  simp only[a3X]at h ⊢;obtain⟨h1,h2,h3⟩:=a8p ρ U (ts:=ts) (vs:=vs) h;obtain⟨h4,h5⟩:=b3S h1;obtain⟨h6,h7⟩:=b7J h5 ρ U;exact⟨h4,by simp[p8,h6,h2],λhb=>⟨h7 hb.1,h3 hb.2⟩⟩
 | [],vs,p,h=>⟨h,rfl,λhb=>hb⟩
 | _ :: _,[],p,h=>⟨h,rfl,λhb=>hb⟩
def a7z(T:Tys)(k:a8L)(c:Call)(i:k.ι)(ev:Operand->Option SV)(rd:Nm->Option Ob)(nm:Nm):Option (Eff×Prop) :=
 match evL ev c.args.toList with
 | some vs=>match k.c i (a3X T c.argTypes.toList vs none).1 rd nm with
  | some (e,p)=>some (⟨e.val,e.wr,e.news,e.rds,a3K e.obl (a3X T c.argTypes.toList vs none).2⟩,p)
  | none=>none
 | none=>none
noncomputable def b0k(X:F3)(o:Op):Option ROp :=
 match o with
 | .alloc t=>match b7p X.al t with
  | some n=>some ⟨Nat,⟨0⟩,λb _ rd _=>a1R X.G.E.T n t b rd⟩
  | none=>none
 | .buildSlice t len parts=>match b7p X.bs t with
  | some n=>some ⟨Nat,⟨0⟩,λb ev rd _=>match S5 ev parts.toList with
   | some ps=>a1F X.G.E.T n t len ps b rd
   | none=>none⟩
  | none=>none
 | .call c=>match c.callee with
  | .value (.func f)=>match b7a X.R f with
   | some k=>some ⟨k.ι,k.ne,λi ev rd nm=>a7z X.G.E.T k c i ev rd nm⟩
   | none=>none
  | .builtin .append=>match c.argTypes.toList with
   | [t,t']=>match Nat.beq t t' with
    | true=>match b7p X.ap t with
     | some n=>some ⟨ApI,⟨⟨0,0,0,λ_=>False,λ_=>0,λ_ _=>.bool false⟩⟩,λi ev rd _=>match evL ev c.args.toList with
      | some [s,x]=>a3w X.G.E.T n t s x i rd
      | _=>none⟩
     | none=>none
    | false=>none
   | _=>none
  | _=>none
 | _=>none
section
variable {P:Program}
theorem b1D{T:Tys}{n t b:Nat}{rd rd':Nm->Option Ob}{e:Eff}{p:Prop}(h:a1R T n t b rd=some (e,p))(hr:∀ m∈e.rds,rd' m=rd m):a1R T n t b rd'=some (e,p):=by
 unfold a1R at h ⊢;split at h
 ·rename_i ti hti;split at h
  ·rename_i hall
   have key:rd' n=rd n:=by
    split at h
    ·simp only[oI9,pI9]at h;obtain⟨rfl,_⟩:=h;exact hr _ (by simp)
    ·cases h
   simp only[key];exact h
  ·cases h
 ·cases h
theorem b2Q{T:Tys}{n t len b:Nat}{ps:List (Nat×SV)}{rd rd':Nm->Option Ob}{e:Eff}{p:Prop}(h:a1F T n t len ps b rd=some (e,p))(hr:∀ m∈e.rds,rd' m=rd m):a1F T n t len ps b rd'=some (e,p):=by
 unfold a1F at h ⊢;split at h
 case h_2=>cases h
 rename_i el _ _ _ _ hti;split at h
 case h_2=>cases h
 rename_i tk sz by' z msx hte;split at h
 case h_2=>cases h
 rename_i hb;split at h
 case h_2=>cases h
 rename_i r hr';split at h
 case h_2=>cases h
 rename_i us q hus
 have key:rd' n=rd n:=by
  split at h
  ·simp only[oI9,pI9]at h;obtain⟨rfl,_⟩:=h;exact hr _ (by simp)
  ·cases h
 simp only[key];exact h
theorem b4B{T:Tys}{n t:Nat}{s x:SV}{i:ApI}{rd rd':Nm->Option Ob}{e:Eff}{p:Prop}(h:a3w T n t s x i rd=some (e,p))(hr:∀ m∈e.rds,rd' m=rd m):a3w T n t s x i rd'=some (e,p):=by
 unfold a3w at h ⊢;split at h
 case h_2=>cases h
 rename_i el0 _ _ _ _ hti;split at h
 case h_2=>cases h
 rename_i te hte;split at h
 case h_2=>cases h
 rename_i m vs mn p hsrc;split at h
 case h_2=>cases h
 rename_i hb;split at h
 case h_2=>cases h
 rename_i us q hus;split at h
 case h_2=>cases h
 rename_i b c l k p1 hdst
 have key:rd' n=rd n/\rd' mn=rd mn:=by
  split at h
  ·simp only[oI9,pI9]at h;obtain⟨rfl,_⟩:=h;exact⟨hr _ (by simp),hr _ (by simp)⟩
  ·cases h
 simp only[a4v hsrc key.2,hb,hus,key.1];exact h
theorem b0w{X:F3}(hX:A7 P X){op:Op}{R:ROp}(h:b0k X op=some R):b3O P R op:=by
 unfold b0k at h;split at h
 ·
  rename_i t;split at h
  ·rename_i n hn;simp only[oI9]at h;subst h;refine⟨?_,λh _ hr=>b1D h hr⟩;intro W0 Fr U H ρ w nm ev a o ho hH hfr hev hall next Q hk;obtain⟨e,p,h1,h2⟩:=hall (0:Nat);obtain⟨b,e',p',h3,h4,h5⟩:=a9t (nm:=nm) hX.G.E.T hH h1;obtain⟨dst,op',ty',pos,after,guard⟩:=o;simp only at ho;subst ho;exact z9.wp (e:=e') h5 λρ' w' h6 h7=>hk b e' p' ρ' w' h3 h4 h6 h7
  ·cases h
 ·
  rename_i t len parts;split at h
  ·rename_i n hn;simp only[oI9]at h;subst h;refine⟨?_,fun {i ev ev' rd rd' nm e p} h hv hr=>?_⟩
   ·intro W0 Fr U H ρ w nm ev a o ho hH hfr hev hall next Q hk;obtain⟨e,p,h1,h2⟩:=hall (0:Nat);simp only at h1;split at h1
    ·rename_i ps hps;obtain⟨h8,h9⟩:=S3 hev hps;obtain⟨b,e',p',h3,h4,h5⟩:=a8V (nm:=nm) hX.G.E.T hH h1 h2;obtain⟨dst,op',ty',pos,after,guard⟩:=o;simp only at ho;subst ho;refine z9.wp (e:=e') ?_ λρ' w' h6 h7=>hk b e' p' ρ' w' (by simp only[hps];exact h3) h4 h6 h7
     rw[<-h8]at h5;have e1:(parts.map λp=>(p.1,a.eval p.2))=(parts.toList.map λp=>(p.1,a.eval p.2)).toArray:=by apply Array.ext';simp
     simp only[execOp];rw[show (parts.map λ(i,x)=>(i,a.eval x))=(parts.map λp=>(p.1,a.eval p.2))from rfl,e1];exact h5
    ·cases h1
   ·simp only at h ⊢;rw[S7 (ev:=ev) (ev':=ev') λp hp=>hv p.2 (by simp[Op.operands];exact⟨p.1,by simpa using hp⟩)];split at h
    ·exact b2Q h hr
    ·cases h
  ·cases h
 ·rename_i c;split at h
  ·
   rename_i f hf;split at h
   ·rename_i k hk;simp only[oI9]at h;subst h;have hok:=hX.R f k hk;refine⟨?_,fun {i ev ev' rd rd' nm e p} h hv hr=>?_⟩
    ·intro W0 Fr U H ρ w nm ev a o ho hH hfr hev hall next Q hkk
     have hargs:∃ vs,evL ev c.args.toList=some vs:=by
      obtain⟨i0⟩:=k.ne;obtain⟨e,p,h1,_⟩:=hall i0;simp only[a7z]at h1;split at h1
      ·rename_i vs hvs;exact⟨vs,hvs⟩
      ·cases h1
     obtain⟨vs,hvs⟩:=hargs;obtain⟨h3,h4⟩:=H3 hev hvs
     have each:∀ i,∃ e p,k.c i (a3X X.G.E.T c.argTypes.toList vs none).1 (look H) nm=some (e,p)/\okP e.obl/\okP (a3X X.G.E.T c.argTypes.toList vs none).2:=by
      intro i;obtain⟨e,p,h1,h2⟩:=hall i;simp only[a7z,hvs]at h1;split at h1
      ·rename_i e' p' he;simp only[oI9,pI9]at h1;obtain⟨rfl,rfl⟩:=h1;obtain⟨h5,h6⟩:=b3S h2;exact⟨e',p',he,h5,h6⟩
      ·cases h1
     have hq:okP (a3X X.G.E.T c.argTypes.toList vs none).2:=by
      obtain⟨i0⟩:=k.ne;obtain⟨_,_,_,_,h⟩:=each i0;exact h
     obtain⟨_,hden,hbd⟩:=a8p ρ U hq
     have hcalls:=hok.calls hH (hbd h4) hfr λi=>by
      obtain⟨e,p,h1,h2,_⟩:=each i;exact⟨e,p,h1,h2⟩
     rw[hden]at hcalls
     have hrun:(execOp a.eval o).run P w=(callFunc f (p8 ρ vs).toArray).run P w:=by
      have e1:c.args.map a.eval=(p8 ρ vs).toArray:=by rw[<-h3];apply Array.ext';simp
      simp only[execOp,ho,resolve,hf,Act.eval,e1,Deferred.ofValue,Sem.run_bind,Sem.run_pure,Result.andThen_ok,invoke];congr 2;simp
     unfold Oper.wp;rw[hrun];rcases hcalls with⟨⟨fn,hfn,hname,hbody⟩,hcalls⟩|⟨v,w',hv,i,e,p,h5,hp,ρ',h6,h7,v',h8,h9,h10⟩
     ·have hcf:(callFunc f (p8 ρ vs).toArray).run P w=.ok (.enter f (p8 ρ vs).toArray) w:=by
       simp only[callFunc,Sem.run_bind,run_program,Result.andThen_ok,hfn,hname,hbody,Bool.false_eq_true,if_false,Sem.run_pure]
      rw[hcf];show Calls P f _ w _;refine hcalls.mono ?_;rintro en w' ⟨i,e,p,h5,hp,ρ',h6,h7,v,h8,h9,rfl⟩;have:=hkk i ⟨e.val,e.wr,e.news,e.rds,a3K e.obl (a3X X.G.E.T c.argTypes.toList vs none).2⟩ p ρ' w' (by simp only[a7z,hvs,h5]) hp h6 h7;simp only[h8]at this;exact this h9
     ·rw[hv];have:=hkk i ⟨e.val,e.wr,e.news,e.rds,a3K e.obl (a3X X.G.E.T c.argTypes.toList vs none).2⟩ p ρ' w' (by simp only[a7z,hvs,h5]) hp h6 h7;simp only[h8]at this;injection h10 with h10
      rw[h10];exact this h9
    ·simp only[a7z]at h ⊢;rw[H4 (ev:=ev) (ev':=ev') λx hx=>hv x (by simp[Op.operands,Call.operands];exact .inr (by simpa using hx))];split at h
     ·split at h
      ·rename_i e' p' he;simp only[oI9,pI9]at h;obtain⟨rfl,rfl⟩:=h;rw[hok.loc he hr]
      ·cases h
     ·cases h
   ·cases h
  ·
   rename_i hf;split at h
   ·rename_i t t' hat;split at h
    ·rename_i htt;have:=eB9 htt;subst this;split at h
     ·rename_i n hn;simp only[oI9]at h;subst h;refine⟨?_,fun {i ev ev' rd rd' nm e p} h hv hr=>?_⟩
      ·intro W0 Fr U H ρ w nm ev a o ho hH hfr hev hall next Q hk
       have hargs:∃ s x,evL ev c.args.toList=some [s,x]:=by
        obtain⟨e,p,h1,_⟩ := hall ⟨0,0,0,λ_=>False,λ_=>0,λ_ _=>.bool false⟩;simp only at h1;split at h1
        ·rename_i s x hvs;exact⟨s,x,hvs⟩
        ·cases h1
       obtain⟨s,x,hvs⟩:=hargs;obtain⟨h3,h4⟩:=H3 hev hvs;obtain⟨dst,op',ty',pos,after,guard⟩:=o;simp only at ho;subst ho
       obtain⟨i,e',p',h5,h6,h7⟩:=b0N (P:=P) (n:=n) (nm:=nm) (t:=t) (s:=s) (x:=x) hX.G.E.T hH (λi=>by
        obtain⟨e,p,h1,h2⟩:=hall i;simp only[hvs]at h1
        exact⟨e,p,h1,h2⟩) ty'
       refine z9.wp (e:=e') ?_ λρ' w' h8 h9=>hk i e' p' ρ' w' (by simp only[hvs];exact h5) h6 h8 h9
       have e1:c.args.map a.eval=(p8 ρ [s,x]).toArray:=by rw[<-h3];apply Array.ext';simp
       have e2:c.argTypes = #[t,t]:=by apply Array.ext';simpa using hat
       simp only[execOp,resolve,hf,Sem.run_bind,Sem.run_pure,Result.andThen_ok,invoke,e1,e2,builtin];simp only[Sem.run_bind,Sem.run_pure]at h7;exact h7
      ·simp only at h ⊢;rw[H4 (ev:=ev) (ev':=ev') λx hx=>hv x (by simp[Op.operands,Call.operands];exact .inr (by simpa using hx))];split at h
       ·exact b4B h hr
       ·cases h
     ·cases h
    ·cases h
   ·cases h
  ·cases h
 ·cases h
end
def S9(S:St)(d:Nat)(v:SV):St:={S with sl:=(d,v) :: S.sl}
def St.app(S:St)(dst:Option Nat)(e:Eff):St :=
 {nt:=S.nt
  sl:=match dst with
   | some d=>match e.val with
    | some v=>(d,v) :: S.sl
    | none=>(d, .tup []) :: S.sl
   | none=>S.sl
  H:=e.wr++(e.news++S.H)
  N:=S.N+24}
def okK:Option Prop->Prop->Prop
 | none,q=>q
 | some p,q=>p/\q
theorem U7{p:Option Prop}{q:Prop}(h:okK p q):okP p/\q:=by
 cases p with
 | none=>exact⟨trivial,h⟩
 | some p=>exact h
def a2w(S:St):Option Nat->Bool
 | none=>true
 | some d=>Nat.blt d S.nt
def D4(k:FloatKind)(a b r:Nat):Prop :=
 match floatBits .quo k a b with
 | some v=>r=v
 | none=>(k.decode r).isNaN=true
def c2X(S:St)(o:Op):Option (FloatKind×Nat×Nat) :=
 match o with
 | .binOp .quo _ x y _=>match opr S.sl x,opr S.sl y with
  | some (.flt k a),some (.flt k' b)=>match a4c k k' with
   | true=>some (k,a,b)
   | false=>none
  | _,_=>none
 | _=>none
def a4D(G:Ctx)(o:Oper)(S:St)(K:St->Prop):Prop :=
 match a2w S o.dst with
 | true=>match c2X S o.op with
  | some (k,a,b)=>∀ r,D4 k a b r->K (S.app o.dst (Eff.pure (.flt k r)))
  | none=>match a1D G (opr S.sl) (look S.H) S.N o.op with
   | some e=>okK e.obl (K (S.app o.dst e))
   | none=>False
 | false=>False
def a1a(o:Oper)(S:St)(K:St->Prop):Prop :=
 match a2w S o.dst with
 | true=>match o.dst with
  | some d=>K (S9 S d (.tup []))
  | none=>K S
 | false=>False
def a4Z(ops:List Oper)(j:Nat):Option Nat :=
 match nth ops j with
 | some o=>o.dst
 | none=>none
def b7s(G:Ctx)(ops:List Oper)(o:Oper)(S:St)(K:St->Prop):Prop :=
 match o.guard with
 | none=>a4D G o S K
 | some (j,want)=>match a4Z ops j with
  | none=>False
  | some d=>match slot S.sl d with
   | some .tt=>match want with
    | true=>a4D G o S K
    | false=>a1a o S K
   | some .ff=>match want with
    | true=>a1a o S K
    | false=>a4D G o S K
   | some (.tup [])=>a1a o S K
   | some (.bool b) =>
    (b=true->match want with
     | true=>a4D G o (S9 S d .tt) K
     | false=>a1a o (S9 S d .tt) K)/\
    (b=false->match want with
     | true=>a1a o (S9 S d .ff) K
     | false=>a4D G o (S9 S d .ff) K)
   | _=>False
def a9N(G:Ctx)(ops:List Oper):List Oper->St->(St->Prop)->Prop
 | [],S,K=>K S
 | o :: r,S,K=>b7s G ops o S (λS'=>a9N G ops r S' K)
section
variable {P:Program} {W0:World} {Fr:Nat->Prop} {G:Ctx} {S:St} {ρ:Rho} {a:Act} {w:World}
def a1v(W0:World)(Fr:Nat->Prop)(N0:Nat)(ρ0:Rho)(K:St->Prop)(Q:Act->World->Prop):Prop :=
 ∀ S' ρ' a' w',K S'->Sat W0 Fr S' ρ' a' w'->N0<=S'.N->(∀ n,n<N0->ρ' n=ρ0 n)->Q a' w'
theorem a2q{sl:Slots}{c:Value}{v:SV}(h:opr sl (.const c)=some v)(ρ:Rho):c=v.den ρ:=((a8O (v:=c) (s:=v) h ρ (λ_=>True)).1).symm
theorem Sat.put(h:Sat W0 Fr S ρ a w){d:Nat}(hd:d<S.nt){v:SV}(hv:v.bd (·< S.N)):Sat W0 Fr (S9 S d v) ρ (a.put (some d) (v.den ρ)) w :=
 ⟨h.h,h.s.put hd hv⟩
theorem Sat.set(h:Sat W0 Fr S ρ a w){d:Nat}{v u:SV}(hu:slot S.sl d=some u)(he:u.den ρ=v.den ρ)(hv:v.bd (·< S.N)):Sat W0 Fr (S9 S d v) ρ a w :=
 ⟨h.h,{h.s with
  bd:=λt x hx=>by
   simp only[S9,F7]at hx;split at hx
   ·cases hx;exact hv
   ·exact h.s.bd t x hx
  val:=λt x hx=>by
   simp only[S9,F7]at hx;split at hx
   ·rename_i e;subst e;cases hx;rw[<-he];exact h.s.val _ u hu
   ·exact h.s.val t x hx}⟩
theorem b1e(f:Ieee.Format)(b:Nat)(h1:¬b % f.signWeight<f.binade)(h2:¬b % f.signWeight<f.infRung)(h3:¬b % f.signWeight=f.infRung):(f.read b).isNaN=true:=by
 simp[Ieee.Format.read,h1,h2,h3,Ieee.Datum.isNaN]
theorem b8x(k:FloatKind)(x y t:Nat):(k.decode ((Question.nanBits k x y).cut t)).isNaN=true:=by
 cases k
 ·have hs:(t / 2) % (2 ^ 23-1)<2 ^ 23-1:=Nat.mod_lt _ (by decide);simp only[Question.cut];generalize (t / 2) % (2 ^ 23-1)=s at hs
  have hm:((t % 2)*2 ^ 31+0x7f800000+1+s) % Ieee.single.signWeight=0x7f800000+1+s:=by
   rw[show Ieee.single.signWeight=2 ^ 31 by decide];omega
  refine b1e Ieee.single _ ?_ ?_ ?_ <;> rw[hm]
  ·rw[show Ieee.single.binade=2 ^ 23 by decide];omega
  ·rw[show Ieee.single.infRung=0x7f800000 by decide];omega
  ·rw[show Ieee.single.infRung=0x7f800000 by decide];omega
 ·have hs:(t / 2) % (2 ^ 52-1)<2 ^ 52-1:=Nat.mod_lt _ (by decide);simp only[Question.cut];generalize (t / 2) % (2 ^ 52-1)=s at hs
  have hm:((t % 2)*2 ^ 63+0x7ff0000000000000+1+s) % Ieee.double.signWeight=0x7ff0000000000000+1+s:=by
   rw[show Ieee.double.signWeight=2 ^ 63 by decide];omega
  refine b1e Ieee.double _ ?_ ?_ ?_ <;> rw[hm]
  ·rw[show Ieee.double.binade=2 ^ 52 by decide];omega
  ·rw[show Ieee.double.infRung=0x7ff0000000000000 by decide];omega
  ·rw[show Ieee.double.infRung=0x7ff0000000000000 by decide];omega
theorem b9m{P:Program}(w:World)(t:TypeId)(k:FloatKind)(a b:Nat):∃ r w',(binOp .quo t (.float k a) (.float k b)).run P w=.ok (.float k r) w'/\D4 k a b r/\(w'=w∨w'=w.drew):=by
 unfold D4
 cases hq:floatBits .quo k a b with
 | some v=>exact⟨v,w,run_float_arith w .quo t k a b v hq,rfl, .inl rfl⟩
 | none =>
  have hd:k.format.div a b=none:=hq;refine⟨(Question.nanBits k a b).cut (w.tape w.drawn (.nanBits k a b)),w.drew,?_,b8x k a b _, .inr rfl⟩;simp[binOp,Op.floatArith,hd,Question.forced]
theorem O0(hG:B7 P G){N0:Nat}{ρ0:Rho}{o:Oper}{K:St->Prop}(h:a4D G o S K)(hS:Sat W0 Fr S ρ a w)(hN:N0<=S.N)(hρ:∀ n,n<N0->ρ n=ρ0 n)
  {next:Act->World->Prop} {Q:Exit->Act->World->Prop} (hK:a1v W0 Fr N0 ρ0 K next):o.wp P a w next Q:=by
 unfold a4D at h;split at h
 ·rename_i hd;split at h
  ·rename_i k x y hq;unfold c2X at hq;split at hq
   ·rename_i t xo yo yt hop;split at hq
    ·rename_i k1 a1 k2 b1 hx hy;split at hq
     ·rename_i hk;have:=P3 hk;subst this;simp only[oI9,pI9]at hq;obtain⟨rfl,rfl,rfl⟩:=hq;obtain⟨r,w',hrun,hrel,hw'⟩:=b9m (P:=P) w t k1 a1 b1;have e1:=(H6 hS.s hx).1;have e2:=(H6 hS.s hy).1;simp only[SV.den]at e1 e2
      have hexec:(execOp a.eval o).run P w=.ok (.value (.float k1 r)) w':=by
       simp only[execOp,hop,e1,e2,eqGuard_quo,Sem.run_bind,Sem.run_pure,Result.andThen_ok,hrun]
      have hS':Sat W0 Fr S ρ a w':=by
       rcases hw' with rfl|rfl
       ·exact hS
       ·exact⟨hS.h.drew,hS.s⟩
      unfold Oper.wp;rw[hexec];have hH':=hS'.h.mono (U':=(·< S.N+24)) (λn hn=>Nat.lt_of_lt_of_le hn (Nat.le_add_right _ _));have hs':=hS'.s.mono (U':=(·< S.N+24)) (λn hn=>Nat.lt_of_lt_of_le hn (Nat.le_add_right _ _)) (λ_ _=>rfl);refine hK (S.app o.dst (Eff.pure (.flt k1 r))) ρ _ _ (h r hrel) ⟨hH',?_⟩ (Nat.le_trans hN (Nat.le_add_right _ _)) hρ
      cases hdst:o.dst with
      | none=>simpa [St.app,Act.put]using hs'
      | some d =>
       have hd':d<S.nt:=by rw[hdst]at hd;simpa [a2w]using hd
       exact hs'.put (v:=.flt k1 r) hd' trivial
     ·cases hq
    ·cases hq
   ·cases hq
  split at h
  ·rename_i e he;obtain⟨h1,h2⟩:=U7 h;refine a1J hG hS.h (λj _=>by simp) (λx v hx=>H6 hS.s hx) (λc v hc=>a2q hc ρ) he h1 (λρ' w' hr hH=>?_)
   have hU:∀ n,UU (·< S.N) S.N n->n<S.N+24:=by
    intro n hn;rcases hn with hn|hn
    ·exact Nat.lt_of_lt_of_le hn (Nat.le_add_right _ _)
    ·exact hn.2
   have hH':=hH.mono (U':=(·< S.N+24)) hU;have hs':=hS.s.mono (U':=(·< S.N+24)) (λn hn=>Nat.lt_of_lt_of_le hn (Nat.le_add_right _ _)) hr;have hρ':∀ n,n<N0->ρ' n=ρ0 n:=λn hn=>(hr n (Nat.lt_of_lt_of_le hn hN)).trans (hρ n hn)
   have hN':N0<=S.N+24:=Nat.le_trans hN (Nat.le_add_right _ _);split
   ·rename_i v hv;intro hb;refine hK (S.app o.dst e) ρ' _ _ h2 ⟨hH',?_⟩ hN' hρ'
    cases hdst:o.dst with
    | none=>simpa [St.app,Act.put]using hs'
    | some d =>
     have hd':d<S.nt:=by rw[hdst]at hd;simpa [a2w]using hd
     simp only[St.app,hv];exact hs'.put hd' (SV.bd_mono hU v hb)
   ·rename_i hv;refine hK (S.app o.dst e) ρ' _ _ h2 ⟨hH',?_⟩ hN' hρ'
    cases hdst:o.dst with
    | none=>simpa [St.app,Act.put]using hs'
    | some d =>
     have hd':d<S.nt:=by rw[hdst]at hd;simpa [a2w]using hd
     simp only[St.app,hv];exact hs'.put (v:=.tup []) hd' (by simp[SV.bd,bdL])
  ·exact h.elim
 ·exact h.elim
theorem G4{N0:Nat}{ρ0:Rho}{o:Oper}{K:St->Prop}(h:a1a o S K)(hS:Sat W0 Fr S ρ a w)(hN:N0<=S.N)(hρ:∀ n,n<N0->ρ n=ρ0 n)
  {next:Act->World->Prop} (hK:a1v W0 Fr N0 ρ0 K next):next (a.put o.dst undef) w:=by
 unfold a1a at h;split at h
 ·rename_i hd;split at h
  ·rename_i d hdst;rw[hdst]at hd ⊢;have hd':d<S.nt:=by simpa [a2w]using hd
   exact hK _ ρ _ _ h (hS.put (v:=.tup []) hd' (by simp[SV.bd,bdL])) hN hρ
  ·rename_i hdst;rw[hdst];exact hK _ ρ _ _ h hS hN hρ
 ·exact h.elim
def a7r(P:Program)(ops:Array Oper)(o:Oper)(a:Act)(w:World)(next:Act->World->Prop)(Q:Exit->Act->World->Prop):Prop :=
 if Region.wanted o (yielded ops a.tmps)then o.wp P a w next Q∨(o.asks P a w/\LetsOut Q)else next (a.put o.dst undef) w
theorem b1d(hG:B7 P G){N0:Nat}{ρ0:Rho}{ops:List Oper}{o:Oper}{K:St->Prop}(h:b7s G ops o S K)(hS:Sat W0 Fr S ρ a w)(hN:N0<=S.N)(hρ:∀ n,n<N0->ρ n=ρ0 n)
  {next:Act->World->Prop} {Q:Exit->Act->World->Prop} (hK:a1v W0 Fr N0 ρ0 K next):a7r P ops.toArray o a w next Q:=by
 unfold b7s at h;unfold a7r;split at h
 ·rename_i hg;rw[if_pos (by simp[Region.wanted,hg])];exact .inl (O0 hG h hS hN hρ hK)
 ·rename_i j want hg;split at h
  ·exact h.elim
  ·rename_i d hd
   have hdst:(ops.toArray[j]?).bind (·.dst)=some d:=by
    unfold a4Z at hd;rw[U3]at hd;split at hd
    ·rename_i o' ho';simp[ho',hd]
    ·cases hd
   have wantedIs:∀(v:Value),a.tmps[d]? = some v->Region.wanted o (yielded ops.toArray a.tmps)=((match v with | .bool b=>some b|_=>none)==some want):=by
    intro v hv;simp only[Region.wanted,hg,yielded,hdst,Option.bind_some,hv];cases v <;> rfl
   split at h
   ·rename_i hv;have hw:=wantedIs _ (hS.s.val _ _ hv);simp only[SV.den]at hw;split at h
    ·rw[hw];exact .inl (O0 hG h hS hN hρ hK)
    ·rw[hw];exact G4 h hS hN hρ hK
   ·rename_i hv;have hw:=wantedIs _ (hS.s.val _ _ hv);simp only[SV.den]at hw;split at h
    ·rw[hw];exact G4 h hS hN hρ hK
    ·rw[hw];exact .inl (O0 hG h hS hN hρ hK)
   ·rename_i hv;have hw:=wantedIs _ (hS.s.val _ _ hv);simp only[SV.den]at hw;rw[hw];exact G4 h hS hN hρ hK
   ·rename_i b hv;have hw:=wantedIs _ (hS.s.val _ _ hv);simp only[SV.den]at hw;rw[hw];cases b
    ·have h2:=h.2 rfl;have hS':Sat W0 Fr (S9 S d .ff) ρ a w:=hS.set hv rfl trivial;split at h2
     ·exact G4 h2 hS' hN hρ hK
     ·exact .inl (O0 hG h2 hS' hN hρ hK)
    ·have h1:=h.1 rfl;have hS':Sat W0 Fr (S9 S d .tt) ρ a w:=hS.set hv rfl trivial;split at h1
     ·exact .inl (O0 hG h1 hS' hN hρ hK)
     ·exact G4 h1 hS' hN hρ hK
   ·exact h.elim
theorem a3q(hG:B7 P G){N0:Nat}{ρ0:Rho}{ops:List Oper}{Q:Exit->Act->World->Prop}:∀(l:List Oper)(k:Nat) {S:St} {ρ:Rho} {a:Act} {w:World} {K:St->Prop},(∀ j,l[j]? = ops[k+j]?)->
  a9N G ops l S K->Sat W0 Fr S ρ a w->N0<=S.N->(∀ n,n<N0->ρ n=ρ0 n)->a1v W0 Fr N0 ρ0 K (Q .normal)->wpOps P ops.toArray Q (List.range' k l.length) a w
 | [],k,S,ρ,a,w,K,_,h,hS,hN,hρ,hK=>hK S ρ a w h hS hN hρ
 | o :: r,k,S,ρ,a,w,K,hl,h,hS,hN,hρ,hK=>by
  have ho:ops[k]? = some o:=by simpa using (hl 0).symm
  simp only[List.length_cons,List.range'_succ];unfold wpOps;simp only[List.getElem?_toArray,ho];refine b1d hG h hS hN hρ λS' ρ' a' w' h' hS' hN' hρ'=>?_
  refine a3q hG r (k+1) (λj=>?_) h' hS' hN' hρ' hK;have:=hl (j+1);simp only[List.getElem?_cons_succ]at this;rw[this];congr 1;omega
end
abbrev AS:=Slots×A1
abbrev Ent:=Nat×Oper×Eff
def a2D:Eff:=⟨some (.tup []),[],[],[],none⟩
def c1h:List (Nat×Bool)->Nat->Option Bool
 | [],_=>none
 | (m,v) :: r,n=>match Nat.beq m n with
  | true=>some v
  | false=>c1h r n
def c3T:Bool->SV
 | true=>.tt
 | false=>.ff
def c7L(p:Option Prop)(q:Prop):Option Prop :=
 match p with
 | none=>some q
 | some p=>some (p/\q)
def a3c(dec:List (Nat×Bool))(i:Nat)(e:Eff):Eff :=
 match c1h dec i with
 | none=>e
 | some c=>match e with
  | ⟨some (.bool b),wr,news,rds,obl⟩=>⟨some (c3T c),wr,news,rds,c7L obl (b=c)⟩
  | e=>e
def b0P(G:Ctx)(N:Nat)(dec:List (Nat×Bool))(i:Nat)(o:Oper)(s:AS):Option Eff :=
 match a1D G (opr s.1) (look s.2) (N+24*i) o.op with
 | some e=>some (a3c dec i e)
 | none=>none
def a0T(G:Ctx)(nt N:Nat)(ops:List Oper)(dec:List (Nat×Bool))(i:Nat)(o:Oper)(s:AS):Option Eff :=
 match (match o.dst with|none=>true|some d=>Nat.blt d nt)with
 | false=>none
 | true=>match o.guard with
  | none=>b0P G N dec i o s
  | some (j,want)=>match a4Z ops j with
   | none=>none
   | some d=>match slot s.1 d with
    | some .tt=>match want with
     | true=>b0P G N dec i o s
     | false=>some a2D
    | some .ff=>match want with
     | true=>some a2D
     | false=>b0P G N dec i o s
    | some (.tup [])=>some a2D
    | _=>none
def E4(o:Oper)(e:Eff)(s:AS):AS :=
 (match o.dst with
  | some d=>match e.val with
   | some v=>(d,v) :: s.1
   | none=>(d, .tup []) :: s.1
  | none=>s.1,e.wr++(e.news++s.2))
def b0j:A1->List Nm
 | []=>[]
 | (n,_) :: r=>n :: b0j r
def a2M(e:Eff):List Nm:=b0j e.wr++b0j e.news
theorem E0(n:Nm):∀(a b:A1),look (a++b) n=match look a n with|some o=>some o|none=>look b n
 | [],b=>by simp[look]
 | (m,o) :: r,b=>by
  simp only[List.cons_append,g8,E0 n r b];split <;> rfl
theorem G5{n:Nm}:∀ {a:A1},n∉b0j a->look a n=none
 | [],_=>rfl
 | (m,o) :: r,h=>by
  simp only[b0j,List.mem_cons,not_or]at h;rw[g8,if_neg (λe=>h.1 e.symm),G5 h.2]
theorem O8{o:Oper}{e:Eff}{s:AS}{n:Nm}(h:n∉a2M e):look (E4 o e s).2 n=look s.2 n:=by
 simp only[a2M,List.mem_append,not_or]at h;simp only[E4,E0,G5 h.1,G5 h.2]
theorem F6{o:Oper}{e:Eff}{s:AS}{t:Nat}(h:o.dst≠some t):slot (E4 o e s).1 t=slot s.1 t:=by
 simp only[E4]
 cases hd:o.dst with
 | none=>rfl
 | some d =>
  have:d≠t:=λe=>h (by rw[hd,e])
  cases e.val <;> simp[F7,this]
def R7(s s':AS):Prop:=(∀ t,slot s'.1 t=slot s.1 t)/\∀ n,look s'.2 n=look s.2 n
theorem R7.refl(s:AS):R7 s s:=⟨λ_=>rfl,λ_=>rfl⟩
theorem R7.trans{a b c:AS}(h:R7 a b)(h':R7 b c):R7 a c:=⟨λt=>(h'.1 t).trans (h.1 t),λn=>(h'.2 n).trans (h.2 n)⟩
theorem R7.app{s s':AS}(h:R7 s s')(o:Oper)(e:Eff):R7 (E4 o e s) (E4 o e s'):=by
 refine⟨λt=>?_,λn=>?_⟩
 ·simp only[E4]
  cases o.dst with
  | none=>exact h.1 t
  | some d=>cases e.val <;> simp[F7,h.1 t]
 ·simp only[E4,E0,h.2 n]
section
variable {P:Program} {G:Ctx} {nt N:Nat} {ops:List Oper} {dec:List (Nat×Bool)}
theorem a6l(hG:j9 P G.Γ){i:Nat}{o:Oper}{s s':AS}{e:Eff}(h:b0P G N dec i o s=some e)(hs:∀ t,Operand.tmp t∈o.op.operands->slot s'.1 t=slot s.1 t)(hr:∀ n∈e.rds,look s'.2 n=look s.2 n) :
  b0P G N dec i o s'=some e:=by
 unfold b0P at *;split at h
 ·rename_i e1 h1;simp only[oI9]at h
  have hrd:e.rds=e1.rds:=by
   rw[<-h];unfold a3c;split
   ·rfl
   ·split <;> rfl
  rw[hrd]at hr;have:=a7R hG (ev':=opr s'.1) (rd':=look s'.2) h1 (λx hx=>by cases x <;> first|exact hs _ hx|rfl) hr;rw[this,<-h]
 ·cases h
theorem a4g(hG:j9 P G.Γ){i:Nat}{o:Oper}{s s':AS}{e:Eff}(h:a0T G nt N ops dec i o s=some e)(hs:∀ t∈o.looksAt ops.toArray,slot s'.1 t=slot s.1 t)(hr:∀ n∈e.rds,look s'.2 n=look s.2 n) :
  a0T G nt N ops dec i o s'=some e:=by
 have hop:∀ t,Operand.tmp t∈o.op.operands->slot s'.1 t=slot s.1 t:=λt ht=>hs t (by
  simp only[Oper.looksAt,List.mem_append,List.mem_filterMap]
  exact .inl ⟨.tmp t,by simpa using ht,rfl⟩)
 unfold a0T at *;split at h
 ·cases h
 ·split at h
  ·exact a6l hG h hop hr
  ·rename_i j want hg;split at h
   ·cases h
   ·rename_i d hgd
    have hdst:(ops.toArray[j]?).bind (·.dst)=some d:=by
     unfold a4Z at hgd;rw[U3]at hgd;split at hgd
     ·rename_i o' ho';simp[ho',hgd]
     ·cases hgd
    have hsd:slot s'.1 d=slot s.1 d:=hs d (by
     simp only[Oper.looksAt,hg,List.mem_append];refine .inr ?_
     rw[hdst];simp)
    rw[hsd];split at h
    ·split at h
     ·exact a6l hG h hop hr
     ·exact h
    ·split at h
     ·exact h
     ·exact a6l hG h hop hr
    ·exact h
    ·cases h
structure a4O (ops:List Oper) (oi oj:Oper) (ei ej:Eff):Prop where
 ap:oi.apart ops.toArray oj=true
 rd:∀ n∈ej.rds,n∉a2M ei
 dr:∀ n∈ei.rds,n∉a2M ej
 wr:∀ n∈a2M ei,n∉a2M ej
theorem swap(hG:j9 P G.Γ){i j:Nat}{oi oj:Oper}{s:AS}{ei ej:Eff}(hi:a0T G nt N ops dec i oi s=some ei)(hj:a0T G nt N ops dec j oj (E4 oi ei s)=some ej)(h:a4O ops oi oj ei ej) :
  a0T G nt N ops dec j oj s=some ej/\a0T G nt N ops dec i oi (E4 oj ej s)=some ei/\R7 (E4 oj ej (E4 oi ei s)) (E4 oi ei (E4 oj ej s)):=by
 obtain⟨h1,h2,h3⟩:=Oper.apart_spec h.ap;refine⟨?_,?_,?_,?_⟩
 ·exact a4g hG hj (λt ht=>(F6 (λhd=>h1 t hd ht)).symm) (λn hn=>(O8 (h.rd n hn)).symm)
 ·exact a4g hG hi (λt ht=>F6 (λhd=>h3 t hd ht)) (λn hn=>O8 (h.dr n hn))
 ·intro t;by_cases ht:oi.dst=some t
  ·have hne:oj.dst≠some t:=h2 t ht;rw[F6 hne];simp only[E4,ht];cases ei.val <;> simp[F7]
  ·rw[F6 ht];by_cases ht2:oj.dst=some t
   ·simp only[E4,ht2];cases ej.val <;> simp[F7]
   ·rw[F6 ht2,F6 ht2,F6 ht]
 ·intro n;by_cases hn:n∈a2M ei
  ·have hn2:=h.wr n hn;rw[O8 hn2];simp only[E4,E0];simp only[a2M,List.mem_append,not_or]at hn hn2
   cases hw:look ei.wr n with
   | some x=>rfl
   | none =>
    cases hw2:look ei.news n with
    | some x=>rfl
    | none=>simp[G5 hn2.1,G5 hn2.2]
  ·rw[O8 hn];simp only[E4,E0];simp only[a2M,List.mem_append,not_or]at hn;simp[G5 hn.1,G5 hn.2]
def a7c(G:Ctx)(nt N:Nat)(ops:List Oper)(dec:List (Nat×Bool)):List Ent->AS->Prop
 | [],_=>True
 | (i,o,e) :: r,s=>a0T G nt N ops dec i o s=some e/\a7c G nt N ops dec r (E4 o e s)
def fin:List Ent->AS->AS
 | [],s=>s
 | (_,o,e) :: r,s=>fin r (E4 o e s)
theorem a7c.same(hG:j9 P G.Γ):∀ {l:List Ent} {s s':AS},R7 s s'->a7c G nt N ops dec l s->a7c G nt N ops dec l s'/\R7 (fin l s) (fin l s')
 | [],s,s',h,_=>⟨trivial,h⟩
 | (i,o,e) :: r,s,s',h,hr=>by
  obtain⟨h1,h2⟩:=hr;have h3:=a4g hG h1 (s':=s') (λt _=>h.1 t) (λn _=>h.2 n);obtain⟨h4,h5⟩:=a7c.same hG (h.app o e) h2;exact⟨⟨h3,h4⟩,h5⟩
theorem b6H(hG:j9 P G.Γ){i:Nat}{o:Oper}{e:Eff}{post:List Ent}:∀ {pre:List Ent} {s:AS},a7c G nt N ops dec (pre++(i,o,e) :: post) s->(∀ x∈pre,a4O ops x.2.1 o x.2.2 e)->
  a0T G nt N ops dec i o s=some e/\a7c G nt N ops dec (pre++post) (E4 o e s)/\R7 (fin (pre++(i,o,e) :: post) s) (fin (pre++post) (E4 o e s))
 | [],s,h,_=>⟨h.1,h.2,R7.refl _⟩
 | (k,ok,ek) :: pre,s,h,hi=>by
  obtain⟨h1,h2⟩:=h;obtain⟨h3,h4,h5⟩:=b6H hG h2 (λx hx=>hi x (by simp[hx]));obtain⟨h6,h7,h8⟩:=swap hG h1 h3 (hi (k,ok,ek) (by simp));obtain⟨h9,h10⟩:=a7c.same hG h8 h4;exact⟨h6,⟨h7,h9⟩,h5.trans h10⟩
end
def P5(acc:List Nat)(o:Oper):Nat :=
 o.after.toList.foldl (λs e=>match Region.binds .any e with
  | true=>(s ||| 2 ^ e.on) ||| ((nth acc e.on).getD 0)
  | false=>s) 0
def I8:List Oper->List Nat->List Nat
 | [],acc=>acc
 | o :: r,acc=>I8 r (acc++[P5 acc o])
theorem a2L:∀(l:List Oper)(acc:List Nat),(I8 l acc).take acc.length=acc
 | [],acc=>by simp[I8]
 | o :: r,acc=>by
  have h:=a2L r (acc++[P5 acc o]);simp only[I8]
  have h2:(I8 r (acc++[P5 acc o])).take acc.length=((I8 r (acc++[P5 acc o])).take (acc++[P5 acc o]).length).take acc.length:=by
   rw[List.take_take];congr 1;simp
  rw[h2,h];simp
theorem a7N:∀(l:List Oper)(acc:List Nat)(i:Nat)(o:Oper),l[i]? = some o->(I8 l acc)[acc.length+i]? = some (P5 ((I8 l acc).take (acc.length+i)) o)
 | [],acc,i,o,h=>by simp at h
 | x :: r,acc,0,o,h=>by
  simp only[List.getElem?_cons_zero,oI9]at h;subst h;simp only[I8,Nat.add_zero];have h1:=a2L r (acc++[P5 acc x])
  have h2:(I8 r (acc++[P5 acc x]))[acc.length]? = ((I8 r (acc++[P5 acc x])).take (acc++[P5 acc x]).length)[acc.length]? := by
   rw[List.getElem?_take,if_pos (by simp)]
  have h3:(I8 r (acc++[P5 acc x])).take acc.length=acc:=by
   have:=a2L (x :: r) acc;simpa [I8]using this
  rw[h2,h1,h3];simp
 | x :: r,acc,i+1,o,h=>by
  have:=a7N r (acc++[P5 acc x]) i o (by simpa using h);simp only[I8];rw[show (acc++[P5 acc x]).length+i=acc.length+(i+1) by simp;omega]at this;exact this
theorem a7S{acc:List Nat}{k:Nat}:∀(es:List Edge)(s:Nat),(es.foldl (λs e=>match Region.binds .any e with
  | true=>(s ||| 2 ^ e.on) ||| ((nth acc e.on).getD 0)
  | false=>s) s).testBit k=true->s.testBit k=true∨∃ e∈es,Region.binds .any e=true/\(k=e.on∨((acc[e.on]?).getD 0).testBit k=true)
 | [],s,h=>.inl h
 | e :: r,s,h=>by
  simp only[List.foldl_cons]at h;rcases a7S r _ h with h1|⟨e',he',h2⟩
  ·split at h1
   ·rename_i hb;simp only[Nat.testBit_or,Bool.or_eq_true,U3]at h1;rcases h1 with(h1|h1)|h1
    ·exact .inl h1
    ·rw[Nat.testBit_two_pow]at h1;exact .inr ⟨e,by simp,hb, .inl (oT9 h1).symm⟩
    ·exact .inr ⟨e,by simp,hb, .inr h1⟩
   ·exact .inl h1
  ·exact .inr ⟨e',by simp[he'],h2⟩
theorem a3J{ops:List Oper}{L:Nat->Prop}(hL:∀ i o,ops[i]? = some o->L i->∀ e∈o.after,Region.binds .any e=true->L e.on):∀(i:Nat)(o:Oper),ops[i]? = some o->(∀ e∈o.after,Region.binds .any e=true->L e.on)->
  ∀ k,(((I8 ops [])[i]?).getD 0).testBit k=true->L k:=by
 intro i
 induction i using Nat.strongRecOn with
 | _ i ih =>
  intro o ho hr k hk;have hg:=a7N ops [] i o ho;simp only[List.length_nil,Nat.zero_add]at hg;rw[hg,Option.getD_some,P5]at hk;rcases a7S _ _ hk with h0|⟨e,he,hb,h1⟩
  ·simp at h0
  ·have hle:L e.on:=hr e (by simpa using he) hb;rcases h1 with rfl|h1
   ·exact hle
   ·rw[List.getElem?_take]at h1;split at h1
    ·rename_i hlt
     cases hoe:ops[e.on]? with
     | none =>
      have hlen:∀(l:List Oper)(acc:List Nat),(I8 l acc).length=acc.length+l.length:=by
       intro l
       induction l with
       | nil=>intro acc;simp[I8]
       | cons x r ihr=>intro acc;simp[I8,ihr];omega
      have:ops.length<=e.on:=List.getElem?_eq_none_iff.1 hoe;rw[List.getElem?_eq_none (by rw[hlen];simpa using this)]at h1;simp at h1
     | some oe=>exact ih e.on hlt oe hoe (λe' he' hb'=>hL e.on oe hoe hle e' he' hb') k h1
    ·simp at h1
def a2n(ops:List Oper):Bool:=go ops 0
 where
 go:List Oper->Nat->Bool
  | [],_=>true
  | o :: r,i=>(o.after.toList.all λe=>match Region.binds .any e with
   | true=>Nat.blt e.on i
   | false=>true)&&go r (i+1)
theorem a2T:∀(l:List Oper)(k:Nat),a2n.go l k=true->∀ i o,l[i]? = some o->∀ e∈o.after,Region.binds .any e=true->e.on<k+i
 | [],_,_,i,o,h=>by simp at h
 | x :: r,k,h,i,o,ho=>by
  simp only[a2n.go,bA9]at h
  cases i with
  | zero =>
   simp only[List.getElem?_cons_zero,oI9]at ho;subst ho;intro e he hb;have:=List.all_eq_true.1 h.1 e (by simpa using he);rw[hb]at this;simpa using this
  | succ i =>
   intro e he hb;have:=a2T r (k+1) h.2 i o (by simpa using ho) e he hb;omega
def b5T(a b:List Nm):Bool:=a.all λx=>b.all λy => !(Nat.beq x y)
theorem a5Q{a b:List Nm}(h:b5T a b=true):∀ x∈a,x∉b:=by
 intro x hx hb;have:=List.all_eq_true.1 (List.all_eq_true.1 h x hx) x hb;simp at this
def b1T(ops:List Oper)(x y:Ent):Bool :=
 x.2.1.apart ops.toArray y.2.1&&(b5T (a2M x.2.2) (y.2.2.rds++a2M y.2.2)&&b5T (a2M y.2.2) x.2.2.rds)
theorem b0p{ops:List Oper}{x y:Ent}(h:b1T ops x y=true):a4O ops x.2.1 y.2.1 x.2.2 y.2.2:=by
 simp only[b1T,bA9]at h;obtain⟨h1,h2,h3⟩:=h;have h4:=a5Q h2;have h5:=a5Q h3;exact⟨h1,λn hn hf=>h4 n hf (by simp[hn]),λn hn hf=>h5 n hf hn,λn hn hf=>h4 n hn (by simp[hf])⟩
def a1s(ops:List Oper)(ms:List Nat):List Ent->Bool
 | []=>true
 | x :: r=>(r.all λy=>((nth ms y.1).getD 0).testBit x.1||b1T ops x y)&&a1s ops ms r
def chk(ops:List Oper)(log:List Ent):Bool:=a2n ops&&a1s ops (I8 ops []) log
def c3C(ops:List Oper)(x y:Ent):Prop:=(((I8 ops [])[y.1]?).getD 0).testBit x.1=true∨a4O ops x.2.1 y.2.1 x.2.2 y.2.2
theorem S2{ops:List Oper}:∀ {l:List Ent},a1s ops (I8 ops []) l=true->l.Pairwise (c3C ops)
 | [],_=>.nil
 | x :: r,h=>by
  simp only[a1s,bA9]at h;refine .cons (λy hy=>?_) (S2 h.2);have:=List.all_eq_true.1 h.1 y hy;simp only[Bool.or_eq_true,U3]at this;exact this.imp id b0p
def UD(N M:Nat)(l:List Ent):Nm->Prop:=λ(n:Nat)=>n<N+24*M/\∀ x∈l,¬(N+24*x.1<=n/\n<N+24*x.1+24)
section
variable {P:Program} {W0:World} {Fr:Nat->Prop} {G:Ctx} {nt N:Nat} {ops:List Oper} {dec:List (Nat×Bool)}
theorem a8B{i : Nat}{e : Eff}(h : okP (a3c dec i e).obl) : okP e.obl /\ (a3c dec i e).wr = e.wr /\ (a3c dec i e).news = e.news /\
   (match e.val with
    | some v => ∃ v', (a3c dec i e).val = some v' /\ (∀ ρ : Rho, v'.den ρ = v.den ρ) /\ ∀ U : Nm -> Prop, v.bd U -> v'.bd U
    | none => (a3c dec i e).val = none) := by
 unfold a3c at h ⊢;split
 · refine ⟨by simpa [*] using h, rfl, rfl, ?_⟩
   cases e.val with
   | none => rfl
   | some v => exact ⟨v, rfl, λ_ => rfl, λ_ h => h⟩
 · rename_i c hc
   simp only [hc] at h;split at h
   · rename_i b wr news rds obl
     have h2 : okP obl /\ b = c := by
       cases obl with
       | none => exact ⟨trivial, h⟩
       | some p => exact h
     refine ⟨h2.1, rfl, rfl, c3T c, rfl, λρ => ?_, λU _ => ?_⟩
     · rw [h2.2]; cases c <;> rfl
     · cases c <;> trivial
   · refine ⟨h, rfl, rfl, ?_⟩
     cases e.val with
     | none => rfl
     | some v => exact ⟨v, rfl, λ_ => rfl, λ_ h => h⟩
structure a6L (W0:World) (Fr:Nat->Prop) (nt:Nat) (U:Nm->Prop) (s:AS) (ρ:Rho) (a:Act) (w:World):Prop where
 h:HSat W0 Fr U s.2 ρ w
 s:SSat U nt s.1 ρ a
theorem c3W(hG:B7 P G){M:Nat}{l l':List Ent}{i:Nat}{o:Oper}{e:Eff}{s:AS}{ρ:Rho}{a:Act}{w:World}
  (h:a0T G nt N ops dec i o s=some e) (ho:okP e.obl) (hS:a6L W0 Fr nt (UD N M l) s ρ a w) (hin:(i,o,e)∈l) (hiM:i<M) (hsub:∀ x∈l',x∈l) (hne:∀ x∈l',x.1≠i)
  {next:Act->World->Prop} {Q:Exit->Act->World->Prop}
  (hk:∀ ρ' a' w',a6L W0 Fr nt (UD N M l') (E4 o e s) ρ' a' w'->(∀ n,UD N M l n->ρ' n=ρ n)->next a' w'):a7r P ops.toArray o a w next Q:=by
 have hmono:∀ n,UD N M l n->UD N M l' n:=λn hn=>⟨hn.1,λx hx=>hn.2 x (hsub x hx)⟩
 have hU:∀ n,UU (UD N M l) (N+24*i) n->UD N M l' n:=by
  intro n hn;rcases hn with hn|hn
  ·exact hmono n hn
  ·refine⟨?_,λx hx hx2=>?_⟩
   ·have h1:n<N+24*i+24:=hn.2;omega
   ·have h1:N+24*i<=n/\n<N+24*i+24:=hn;have:=hne x hx;omega
 have hn4:∀ j:Nat,j<24->¬UD N M l (N+24*i+j):=by
  intro j hj hu;exact hu.2 (i,o,e) hin ⟨Nat.le_add_right _ _,by show N+24*i+j<N+24*i+24;omega⟩
 have skip:e=a2D->(∀ d,o.dst=some d->d<nt)->next (a.put o.dst undef) w:=by
  intro he hd;subst he;refine hk ρ _ w ⟨?_,?_⟩ (λ_ _=>rfl)
  ·exact hS.h.mono hmono
  ·have hs:=hS.s.mono hmono (λ_ _=>rfl);simp only[E4,a2D]
   cases hdst:o.dst with
   | none=>simpa [Act.put]using hs
   | some d=>exact hs.put (v:=.tup []) (hd d hdst) (by simp[SV.bd,bdL])
 have run:b0P G N dec i o s=some e->(∀ d,o.dst=some d->d<nt)->o.wp P a w next Q:=by
  intro hr hd;unfold b0P at hr;split at hr
  ·rename_i e1 h1;simp only[oI9]at hr;subst hr;obtain⟨h2,h3,h4,h5⟩:=a8B ho;refine a1J hG hS.h hn4 (λx v hx=>H6 hS.s hx) (λc v hc=>a2q hc ρ) h1 h2 (λρ' w' hr' hH=>?_)
   have hH':HSat W0 Fr (UD N M l') ((a3c dec i e1).wr++((a3c dec i e1).news++s.2)) ρ' w':=by
    rw[h3,h4];exact hH.mono hU
   have hs:=hS.s.mono hmono hr';split
   ·rename_i v hv;intro hb;rw[hv]at h5;obtain⟨v',h6,h7,h8⟩:=h5;refine hk ρ' _ w' ⟨hH',?_⟩ hr';rw[<-h7 ρ'];simp only[E4,h6]
    cases hdst:o.dst with
    | none=>simpa [Act.put]using hs
    | some d=>exact hs.put (hd d hdst) (h8 _ (SV.bd_mono hU v hb))
   ·rename_i hv;rw[hv]at h5;refine hk ρ' _ w' ⟨hH',?_⟩ hr';simp only[E4,h5]
    cases hdst:o.dst with
    | none=>simpa [Act.put]using hs
    | some d=>exact hs.put (v:=.tup []) (hd d hdst) (by simp[SV.bd,bdL])
  ·cases hr
 unfold a0T at h;split at h
 ·cases h
 ·rename_i hd0
  have hd:∀ d,o.dst=some d->d<nt:=by
   intro d hd;rw[hd]at hd0;simpa using hd0
  unfold a7r;split at h
  ·rename_i hg;rw[if_pos (by simp[Region.wanted,hg])];exact .inl (run h hd)
  ·rename_i j want hg;split at h
   ·cases h
   ·rename_i d hgd
    have hdst:(ops.toArray[j]?).bind (·.dst)=some d:=by
     unfold a4Z at hgd;rw[U3]at hgd;split at hgd
     ·rename_i o' ho';simp[ho',hgd]
     ·cases hgd
    have wantedIs:∀(v:Value),a.tmps[d]? = some v->Region.wanted o (yielded ops.toArray a.tmps)=((match v with | .bool b=>some b|_=>none)==some want):=by
     intro v hv;simp only[Region.wanted,hg,yielded,hdst,Option.bind_some,hv];cases v <;> rfl
    split at h
    ·rename_i hv;have hw:=wantedIs _ (hS.s.val _ _ hv);simp only[SV.den]at hw;split at h
     ·rw[hw];exact .inl (run h hd)
     ·rw[hw];exact skip (by simpa using h.symm) hd
    ·rename_i hv;have hw:=wantedIs _ (hS.s.val _ _ hv);simp only[SV.den]at hw;split at h
     ·rw[hw];exact skip (by simpa using h.symm) hd
     ·rw[hw];exact .inl (run h hd)
    ·rename_i hv;have hw:=wantedIs _ (hS.s.val _ _ hv);simp only[SV.den]at hw;rw[hw];exact skip (by simpa using h.symm) hd
    ·cases h
end
def b1M:List Ent->Prop
 | []=>True
 | (_,_,e) :: r=>okP e.obl/\b1M r
theorem R3:∀ {l:List Ent},b1M l->∀ x∈l,okP x.2.2.obl
 | [],_,x,hx=>by simp at hx
 | (i,o,e) :: r,h,x,hx=>by
  rcases List.mem_cons.1 hx with rfl|hx
  ·exact h.1
  ·exact R3 h.2 x hx
section
variable {P:Program} {W0:World} {Fr:Nat->Prop} {G:Ctx} {nt N:Nat} {ops:List Oper} {dec:List (Nat×Bool)}
theorem a8w(hG:B7 P G)(hback:a2n ops=true){F:AS}{ρ0:Rho}{N0:Nat}(hN0:N0<=N){Q:Exit->Act->World->Prop}
  (hQ:∀ ρ a w,a6L W0 Fr nt (UD N ops.length []) F ρ a w->(∀ n,n<N0->ρ n=ρ0 n)->Q .normal a w) :
  ∀(fuel:Nat)(l:List Ent)(listed:Array Bool)(s:AS)(ρ:Rho)(a:Act)(w:World),l.length=fuel->listed.size=ops.length->
   (∀ j,j<ops.length->listed[j]? = some (!decide (∃ x∈l,x.1=j)))->
   (∀ x∈l,ops[x.1]? = some x.2.1)->l.Pairwise (λx y=>x.1<y.1)->l.Pairwise (c3C ops)->(∀ x∈l,okP x.2.2.obl)->
   (∀ i o,ops[i]? = some o->listed.getD i false=true->∀ e∈o.after,Region.binds .any e=true->listed.getD e.on false=true)->
   a7c G nt N ops dec l s->R7 F (fin l s)->a6L W0 Fr nt (UD N ops.length l) s ρ a w->(∀ n,n<N0->ρ n=ρ0 n)->
   wpAny P .any ops.toArray Q fuel listed a w:=by
 have hb:=a2T ops 0 hback;intro fuel
 induction fuel with
 | zero =>
  intro l listed s ρ a w hl hsz hli hops hsort hpair hobl hcl hruns hF hS hρ;have hl0:l=[]:=List.length_eq_zero_iff.1 hl;subst hl0;refine⟨?_,hQ ρ a w ?_ hρ⟩
  ·refine List.eq_nil_iff_forall_not_mem.2 λj hj=>?_
   rw[mem_ready]at hj;obtain⟨h1,o,ho,_⟩:=hj
   have hlt:j<ops.length:=by
    have:=(Array.getElem?_eq_some_iff.1 ho).1;simpa using this
   have:=hli j hlt;simp[Array.getD_eq_getD_getElem?,this]at h1
  ·exact⟨hS.h.lookEq λn=>(hF.2 n).symm,{hS.s with
    bd:=λt v hv=>hS.s.bd t v (by rw[<-hv];exact hF.1 t)
    val:=λt v hv=>hS.s.val t v (by rw[<-hv];exact hF.1 t)}⟩
 | succ fuel ih =>
  intro l listed s ρ a w hl hsz hli hops hsort hpair hobl hcl hruns hF hS hρ
  have pend:∀ j,j<ops.length->(listed.getD j true=false↔∃ x∈l,x.1=j):=by
   intro j hj;simp[Array.getD_eq_getD_getElem?,hli j hj]
  have isl:∀ j,listed.getD j false=true↔(j<ops.length/\¬∃ x∈l,x.1=j):=by
   intro j;by_cases hj:j<ops.length
   ·simp[Array.getD_eq_getD_getElem?,hli j hj,hj]
   ·have:listed[j]? = none:=Array.getElem?_eq_none (by omega);simp[Array.getD_eq_getD_getElem?,this,hj]
  refine⟨λhre=>?_,λi hi=>?_⟩
  ·exfalso
   match l,hl with
   | x :: r,hl =>
    have hox:=hops x (by simp);have hlt:x.1<ops.length:=(List.getElem?_eq_some_iff.1 hox).1
    have hmem:x.1∈Region.ready .any ops.toArray listed:=by
     rw[mem_ready];refine⟨(pend x.1 hlt).2 ⟨x,by simp,rfl⟩,x.2.1,by simpa using hox,λe he hbe=>?_⟩;have h1:=hb x.1 x.2.1 hox e he hbe;rw[isl];refine⟨by omega,λ⟨y,hy,hye⟩=>?_⟩;rcases List.mem_cons.1 hy with rfl|hy
     ·omega
     ·have:=(List.pairwise_cons.1 hsort).1 y hy;omega
    rw[hre]at hmem;cases hmem
  ·rw[mem_ready]at hi;obtain⟨h1,o',ho',hedges⟩:=hi
   have hlt:i<ops.length:=by
    have:=(Array.getElem?_eq_some_iff.1 ho').1;simpa using this
   obtain⟨x,hx,hxi⟩:=(pend i hlt).1 h1;have hox:=hops x hx;rw[hxi]at hox;have ho2:ops[i]? = some o':=by simpa using ho'
   rw[ho2]at hox;injection hox with hox
   obtain⟨i',o,e⟩:=x;simp only at hxi hox;subst hxi hox;obtain⟨pre,post,rfl⟩:=List.append_of_mem hx
   have hind:∀ y∈pre,a4O ops y.2.1 o' y.2.2 e:=by
    intro y hy;have hp:=(List.pairwise_append.1 hpair).2.2 y hy (i',o',e) (by simp);rcases hp with hp|hp
    ·exfalso;have:=a3J (ops:=ops) (L:=λj=>listed.getD j false=true) hcl i' o' ho2 hedges y.1 hp;rw[isl]at this;exact this.2 ⟨y,by simp[hy],rfl⟩
    ·exact hp
   obtain⟨h2,h3,h4⟩:=b6H hG.Γ hruns hind
   have hsub:∀ y∈pre++post,y∈pre++(i',o',e) :: post:=by
    intro y hy;rcases List.mem_append.1 hy with hy|hy <;> simp[hy]
   have hne:∀ y∈pre++post,y.1≠i':=by
    intro y hy;have hs:=List.pairwise_append.1 hsort;rcases List.mem_append.1 hy with hy|hy
    ·exact Nat.ne_of_lt (hs.2.2 y hy (i',o',e) (by simp))
    ·exact Nat.ne_of_gt ((List.pairwise_cons.1 hs.2.1).1 y hy)
   have hsublist:(pre++post).Sublist (pre++(i',o',e) :: post):=by
    refine List.Sublist.append (List.Sublist.refl _) (List.sublist_cons_self _ _)
   unfold wpOp;rw[ho'];refine c3W hG (l:=pre++(i',o',e) :: post) (l':=pre++post) (M:=ops.length) h2 (hobl _ hx) hS hx hlt hsub hne λρ' a' w' hS' hρ'=>?_
   refine ih (pre++post) _ _ ρ' a' w' ?_ ?_ ?_ (λy hy=>hops y (hsub y hy)) (hsort.sublist hsublist) (hpair.sublist hsublist) (λy hy=>hobl y (hsub y hy)) ?_ h3 (hF.trans h4) hS' ?_
   ·simp only[List.length_append,List.length_cons]at hl ⊢;omega
   ·simpa using hsz
   ·intro j hj;by_cases hji:i'=j
    ·subst hji;rw[Array.getElem?_setIfInBounds_self_of_lt (by omega)];congr 1;have:¬∃ y∈pre++post,y.1=i':=λ⟨y,hy,hye⟩=>hne y hy hye
     rw[decide_eq_false this];rfl
    ·rw[Array.getElem?_setIfInBounds_ne hji,hli j hj];congr 2
     apply decide_eq_decide.2
     constructor
     ·rintro⟨y,hy,hye⟩;rcases List.mem_append.1 hy with hy|hy
      ·exact⟨y,by simp[hy],hye⟩
      ·rcases List.mem_cons.1 hy with rfl|hy
       ·exact absurd hye hji
       ·exact⟨y,by simp[hy],hye⟩
     ·rintro⟨y,hy,hye⟩;exact⟨y,hsub y hy,hye⟩
   ·intro k ok hok hk e' he' hb';by_cases hki:i'=k
    ·subst hki;rw[ho2]at hok;injection hok with hok
     subst hok;exact getD_set_true (hedges e' he' hb')
    ·rw[getD_set_ne false hki]at hk;exact getD_set_true (hcl k ok hok hk e' he' hb')
   ·intro n hn
    have hu:UD N ops.length (pre++(i',o',e) :: post) n:=by
     have hnN:n<N:=Nat.lt_of_lt_of_le hn hN0;refine⟨Nat.lt_of_lt_of_le hnN (Nat.le_add_right _ _),λy _ hy=>?_⟩;have h5:N+24*y.1<=n:=hy.1;have h6:N<=n:=Nat.le_trans (Nat.le_add_right _ _) h5;exact absurd hnN (Nat.not_lt.2 h6)
    exact(hρ' n hu).trans (hρ n hn)
end
inductive DR where
 | done (s:AS) (log:List Ent)
 | need (j:Nat) (b:Bool)
 | fail
def c6q(ops:List Oper)(o:Oper)(s:AS):DR :=
 match o.guard with
 | some (j,_)=>match a4Z ops j with
  | some d=>match slot s.1 d with
   | some (.bool b)=>.need j b
   | _=>.fail
  | none=>.fail
 | none=>.fail
def b4n(G:Ctx)(nt N:Nat)(ops:List Oper)(dec:List (Nat×Bool)):List Oper->Nat->AS->DR
 | [],_,s=>.done s []
 | o :: r,i,s=>match a0T G nt N ops dec i o s with
  | some e=>match b4n G nt N ops dec r (i+1) (E4 o e s)with
   | .done s' log=>.done s' ((i,o,e) :: log)
   | x=>x
  | none=>c6q ops o s
def b1f:List Ent->Prop->Prop
 | [],q=>q
 | (_,_,e) :: r,q=>okK e.obl (b1f r q)
theorem F4:∀ {l:List Ent} {q:Prop},b1f l q->b1M l/\q
 | [],_,h=>⟨trivial,h⟩
 | (_,_,_) :: _,_,h=>⟨⟨(U7 h).1,(F4 (U7 h).2).1⟩,(F4 (U7 h).2).2⟩
def b2J(G:Ctx)(ops:List Oper)(S:St)(K:St->Prop):Nat->List (Nat×Bool)->Prop
 | fuel,dec=>match b4n G S.nt S.N ops dec ops 0 (S.sl,S.H)with
  | .done s log=>b1f log (chk ops log=true/\K {nt:=S.nt,sl:=s.1,H:=s.2,N:=S.N+24*ops.length})
  | .need j b=>match fuel with
   | 0=>False
   | f+1=>(b=true->b2J G ops S K f ((j,true) :: dec))/\(b=false->b2J G ops S K f ((j,false) :: dec))
  | .fail=>False
section
variable {P:Program} {W0:World} {Fr:Nat->Prop} {G:Ctx}
theorem a3T{nt N:Nat}{ops:List Oper}{dec:List (Nat×Bool)}:∀(l:List Oper)(k:Nat)(s s':AS)(log:List Ent),(∀ j,l[j]? = ops[k+j]?)->b4n G nt N ops dec l k s=.done s' log->
  a7c G nt N ops dec log s/\fin log s=s'/\(∀ x∈log,ops[x.1]? = some x.2.1/\k<=x.1/\x.1<k+l.length)/\log.Pairwise (λx y=>x.1<y.1)/\(∀ j,k<=j->j<k+l.length->∃ x∈log,x.1=j)/\log.length=l.length
 | [],k,s,s',log,_,h=>by
  simp only[b4n,DR.done.injEq]at h;obtain⟨rfl,rfl⟩:=h;exact⟨trivial,rfl,by simp, .nil,λj h1 h2=>by simp at h2;omega,rfl⟩
 | o :: r,k,s,s',log,hl,h=>by
  have ho:ops[k]? = some o:=by simpa using (hl 0).symm
  simp only[b4n]at h;split at h
  ·rename_i e he;split at h
   ·rename_i s1 log1 h1;simp only[DR.done.injEq]at h;obtain⟨rfl,rfl⟩:=h
    obtain⟨h2,h3,h4,h5,h6,h7⟩:=a3T r (k+1) _ _ _ (λj=>by
     have:=hl (j+1);simp only[List.getElem?_cons_succ]at this
     rw[this];congr 1;omega) h1
    refine⟨⟨he,h2⟩,h3,?_,?_,?_,by simp[h7]⟩
    ·intro x hx;rcases List.mem_cons.1 hx with rfl|hx
     ·exact⟨ho,Nat.le_refl _,by simp⟩
     ·obtain⟨h8,h9,h10⟩:=h4 x hx;exact⟨h8,by omega,by simp;omega⟩
    ·refine .cons (λx hx=>?_) h5;have:=(h4 x hx).2.1;show k<x.1;omega
    ·intro j hj1 hj2;by_cases hjk:j=k
     ·exact⟨(k,o,e),by simp,hjk.symm⟩
     ·obtain⟨x,hx,hxj⟩:=h6 j (by omega) (by simp at hj2;omega);exact⟨x,by simp[hx],hxj⟩
   ·rename_i x hno
    cases hx:b4n G nt N ops dec r (k+1) (E4 o e s)with
    | done s1 log1=>exact absurd hx (hno s1 log1)
    | need j b=>rw[hx]at h;cases h
    | fail=>rw[hx]at h;cases h
  ·unfold c6q at h;split at h
   ·split at h
    ·split at h <;> cases h
    ·cases h
   ·cases h
theorem b1Q(hG:B7 P G)(hm:P.follows .mixedOrders=true){N0:Nat}{ρ0:Rho}{id:Nat}{ops:Array Oper}{S:St}{K:St->Prop}{Q:Exit->Act->World->Prop}:∀(fuel:Nat)(dec:List (Nat×Bool)),b2J G ops.toList S K fuel dec->
  ∀ {ρ:Rho} {a:Act} {w:World},Sat W0 Fr S ρ a w->N0<=S.N->(∀ n,n<N0->ρ n=ρ0 n)->a1v W0 Fr N0 ρ0 K (Q .normal)->(Code.region id ops true).wp P Q a w:=by
 intro fuel
 induction fuel with
 | zero =>
  intro dec h;unfold b2J at h;split at h
  ·rename_i s log hrun;intro ρ a w hS hN hρ hK;obtain⟨hobl,hchk,hq⟩:=F4 h;simp only[chk,bA9]at hchk;obtain⟨h2,h3,h4,h5,h6,h7⟩:=a3T ops.toList 0 _ _ _ (λj=>by simp) hrun;refine wp_region_any hm ?_;have:=a8w (Q:=Q) (W0:=W0) (Fr:=Fr) (F:=s) (ρ0:=ρ0) hG hchk.1 hN (λρ' a' w' hS' hρ'=>?_) log.length log (Array.replicate ops.size false) (S.sl,S.H) ρ a {w with drawn:=w.drawn+1} rfl (by simp) ?_ (λx hx=>(h4 x hx).1) h5 (S2 hchk.2) (R3 hobl) ?_ h2 ?_ ?_ hρ
   ·rw[h7]at this;simpa using this
   ·refine hK _ ρ' a' w' hq ⟨?_,?_⟩ ?_ hρ'
    ·exact hS'.h.mono λn hn=>hn.1
    ·exact hS'.s.mono (λn hn=>hn.1) (λ_ _=>rfl)
    ·exact Nat.le_trans hN (Nat.le_add_right _ _)
   ·intro j hj;have hj':j<ops.size:=by simpa using hj
    obtain⟨x,hx,hxj⟩:=h6 j (Nat.zero_le _) (by simpa using hj);have:∃ x∈log,x.1=j:=⟨x,hx,hxj⟩;simp[hj',this]
   ·intro i o _ hl;rw[Array.getD_eq_getD_getElem?,Array.getElem?_replicate]at hl;split at hl <;> simp at hl
   ·rw[h3];exact R7.refl _
   ·have hU:∀ n,n<S.N->UD S.N ops.toList.length log n:=λn hn=>⟨Nat.lt_of_lt_of_le hn (Nat.le_add_right _ _),λx _ hx=>absurd (Nat.lt_of_lt_of_le hn (Nat.le_trans (Nat.le_add_right _ _) hx.1)) (Nat.lt_irrefl _)⟩
    exact⟨(hS.h.mono hU).drew,hS.s.mono hU (λ_ _=>rfl)⟩
  ·exact h.elim
  ·exact h.elim
 | succ fuel ih =>
  intro dec h;unfold b2J at h;split at h
  ·rename_i s log hrun;intro ρ a w hS hN hρ hK;obtain⟨hobl,hchk,hq⟩:=F4 h;simp only[chk,bA9]at hchk;obtain⟨h2,h3,h4,h5,h6,h7⟩:=a3T ops.toList 0 _ _ _ (λj=>by simp) hrun;refine wp_region_any hm ?_;have:=a8w (Q:=Q) (W0:=W0) (Fr:=Fr) (F:=s) (ρ0:=ρ0) hG hchk.1 hN (λρ' a' w' hS' hρ'=>?_) log.length log (Array.replicate ops.size false) (S.sl,S.H) ρ a {w with drawn:=w.drawn+1} rfl (by simp) ?_ (λx hx=>(h4 x hx).1) h5 (S2 hchk.2) (R3 hobl) ?_ h2 ?_ ?_ hρ
   ·rw[h7]at this;simpa using this
   ·refine hK _ ρ' a' w' hq ⟨?_,?_⟩ ?_ hρ'
    ·exact hS'.h.mono λn hn=>hn.1
    ·exact hS'.s.mono (λn hn=>hn.1) (λ_ _=>rfl)
    ·exact Nat.le_trans hN (Nat.le_add_right _ _)
   ·intro j hj;have hj':j<ops.size:=by simpa using hj
    obtain⟨x,hx,hxj⟩:=h6 j (Nat.zero_le _) (by simpa using hj);have:∃ x∈log,x.1=j:=⟨x,hx,hxj⟩;simp[hj',this]
   ·intro i o _ hl;rw[Array.getD_eq_getD_getElem?,Array.getElem?_replicate]at hl;split at hl <;> simp at hl
   ·rw[h3];exact R7.refl _
   ·have hU:∀ n,n<S.N->UD S.N ops.toList.length log n:=λn hn=>⟨Nat.lt_of_lt_of_le hn (Nat.le_add_right _ _),λx _ hx=>absurd (Nat.lt_of_lt_of_le hn (Nat.le_trans (Nat.le_add_right _ _) hx.1)) (Nat.lt_irrefl _)⟩
    exact⟨(hS.h.mono hU).drew,hS.s.mono hU (λ_ _=>rfl)⟩
  ·rename_i j b hrun;intro ρ a w hS hN hρ hK
   cases b with
   | true=>exact ih _ (h.1 rfl) hS hN hρ hK
   | false=>exact ih _ (h.2 rfl) hS hN hρ hK
  ·exact h.elim
end
def SV.rawS:SV->Bool
 | .pb _ _ _=>true
 | .dv _ _=>true
 | .slb _ _ _ _ _=>true
 | _=>false
def a4p(ev:Operand->Option SV)(x:Operand):Bool :=
 match ev x with
 | some v=>v.rawS
 | none=>false
def a9F(ev:Operand->Option SV)(o:Op):Bool :=
 match o with
 | .load _ (.global _)=>true
 | .load _ x=>a4p ev x
 | .store _ x _=>a4p ev x
 | .binOp _ _ x _ _=>a4p ev x
 | .nilCheck x=>a4p ev x
 | .slice _ x _ _ _=>a4p ev x
 | .fieldAddr _ x _=>a4p ev x
 | .indexAddr _ x _=>a4p ev x
 | .typeAssert x _ _ _=>a4p ev x
 | .call c=>match c.callee with
  | .builtin .len=>match c.args.toList with
   | [x]=>a4p ev x
   | _=>false
  | .builtin .copy=>match c.args.toList with
   | [_,x]=>a4p ev x
   | _=>false
  | _=>false
 | _=>false
def evX(X:F3)(ev:Operand->Option SV)(rd:Nm->Option Ob)(nm:Nm)(o:Op):Option Eff :=
 match a9F ev o with
 | true=>rOp X.G.E ev rd o
 | false=>a1D X.G ev rd nm o
theorem b0b{ev ev':Operand->Option SV}{o:Op}(hv:∀ x∈o.operands,ev' x=ev x):a9F ev' o=a9F ev o:=by
 have key:∀ x,x∈o.operands->a4p ev' x=a4p ev x:=λx hx=>by unfold a4p;rw[hv x hx]
 cases o <;> try rfl
 case load t x=>cases x <;> first|rfl|exact key _ (by simp[Op.operands])
 case call c =>
  simp only[a9F];split
  ·split
   ·rename_i x hx
    exact key x (by
     simp[Op.operands,Call.operands];refine .inr ?_;have:x∈c.args.toList:=by rw[hx];simp
     simpa using this)
   ·rfl
  ·split
   ·rename_i y x hx
    exact key x (by
     simp[Op.operands,Call.operands];refine .inr ?_;have:x∈c.args.toList:=by rw[hx];simp
     simpa using this)
   ·rfl
  ·rfl
 all_goals exact key _ (by simp[Op.operands])
section
variable {P:Program} {X:F3}
theorem b8m(hX:A7 P X){ev ev':Operand->Option SV}{rd rd':Nm->Option Ob}{nm:Nm}{e:Eff}{o:Op}(h:evX X ev rd nm o=some e)(hv:∀ x∈o.operands,ev' x=ev x)(hr:∀ n∈e.rds,rd' n=rd n):evX X ev' rd' nm o=some e:=by
 unfold evX at *;rw[b0b hv];split at h
 ·exact b9p h hv hr
 ·exact a7R hX.G.Γ h hv hr
theorem a8u(hX : A7 P X){W0 : World}{Fr : Nat -> Prop}{U : Nm -> Prop}{H : A1}{ρ : Rho}{w : World}{nm : Nm}(hH : HSat W0 Fr U H ρ w)(hn : ∀ j, j < 24 -> ¬ U (nm + j)){ev : Operand -> Option SV}{a : Act}(hev : ∀ x v, ev x = some v -> a.eval x = v.den ρ /\ v.bd U)
   (hc : ∀ c v, ev (.const c) = some v -> c = v.den ρ) {o : Oper} {e : Eff} (h : evX X ev (look H) nm o.op = some e) (ho : okP e.obl)
   {next : Act -> World -> Prop} {Q : Exit -> Act -> World -> Prop}
   (hk : ∀ ρ' w', (∀ n, U n -> ρ' n = ρ n) -> HSat W0 Fr (UU U nm) (e.wr ++ (e.news ++ H)) ρ' w' ->
     (match e.val with
      | some v => v.bd (UU U nm) -> next (a.put o.dst (v.den ρ')) w'
      | none => next (a.put o.dst undef) w')) : o.wp P a w next Q := by
 unfold evX at h;split at h
 · exact z9.wp (b4m (nm := nm) hX.G.E hH hev h ho) hk
 · exact a1J hX.G hH hn hev hc h ho hk
def a4E(X:F3)(N:Nat)(dec:List (Nat×Bool))(i:Nat)(o:Oper)(s:AS):Option Eff :=
 match evX X (opr s.1) (look s.2) (N+24*i) o.op with
 | some e=>some (a3c dec i e)
 | none=>none
def a2h(X:F3)(nt N:Nat)(ops:List Oper)(dec:List (Nat×Bool))(i:Nat)(o:Oper)(s:AS):Option Eff :=
 match (match o.dst with|none=>true|some d=>Nat.blt d nt)with
 | false=>none
 | true=>match o.guard with
  | none=>a4E X N dec i o s
  | some (j,want)=>match a4Z ops j with
   | none=>none
   | some d=>match slot s.1 d with
    | some .tt=>match want with
     | true=>a4E X N dec i o s
     | false=>some a2D
    | some .ff=>match want with
     | true=>some a2D
     | false=>a4E X N dec i o s
    | some (.tup [])=>some a2D
    | _=>none
variable {nt N:Nat} {ops:List Oper} {dec:List (Nat×Bool)}
theorem a4e(hX:A7 P X){i:Nat}{o:Oper}{s s':AS}{e:Eff}(h:a4E X N dec i o s=some e)(hs:∀ t,Operand.tmp t∈o.op.operands->slot s'.1 t=slot s.1 t)(hr:∀ n∈e.rds,look s'.2 n=look s.2 n) :
  a4E X N dec i o s'=some e:=by
 unfold a4E at *;split at h
 ·rename_i e1 h1;simp only[oI9]at h
  have hrd:e.rds=e1.rds:=by
   rw[<-h];unfold a3c;split
   ·rfl
   ·split <;> rfl
  rw[hrd]at hr;have:=b8m hX (ev':=opr s'.1) (rd':=look s'.2) h1 (λx hx=>by cases x <;> first|exact hs _ hx|rfl) hr;rw[this,<-h]
 ·cases h
theorem b1U(hX:A7 P X){i:Nat}{o:Oper}{s s':AS}{e:Eff}(h:a2h X nt N ops dec i o s=some e)(hs:∀ t∈o.looksAt ops.toArray,slot s'.1 t=slot s.1 t)(hr:∀ n∈e.rds,look s'.2 n=look s.2 n) :
  a2h X nt N ops dec i o s'=some e:=by
 have hop:∀ t,Operand.tmp t∈o.op.operands->slot s'.1 t=slot s.1 t:=λt ht=>hs t (by
  simp only[Oper.looksAt,List.mem_append,List.mem_filterMap]
  exact .inl ⟨.tmp t,by simpa using ht,rfl⟩)
 unfold a2h at *;split at h
 ·cases h
 ·split at h
  ·exact a4e hX h hop hr
  ·rename_i j want hg;split at h
   ·cases h
   ·rename_i d hgd
    have hdst:(ops.toArray[j]?).bind (·.dst)=some d:=by
     unfold a4Z at hgd;rw[U3]at hgd;split at hgd
     ·rename_i o' ho';simp[ho',hgd]
     ·cases hgd
    have hsd:slot s'.1 d=slot s.1 d:=hs d (by
     simp only[Oper.looksAt,hg,List.mem_append];refine .inr ?_
     rw[hdst];simp)
    rw[hsd];split at h
    ·split at h
     ·exact a4e hX h hop hr
     ·exact h
    ·split at h
     ·exact h
     ·exact a4e hX h hop hr
    ·exact h
    ·cases h
abbrev ChF:=(Operand->Option SV)->(Nm->Option Ob)->Nm->Option (Eff×Prop)
def b0c(g:ChF)(op:Op):Prop:=∀ {ev ev':Operand->Option SV} {rd rd':Nm->Option Ob} {nm:Nm} {e:Eff} {p:Prop},g ev rd nm=some (e,p)->(∀ x∈op.operands,ev' x=ev x)->(∀ n∈e.rds,rd' n=rd n)->g ev' rd' nm=some (e,p)
def a2y(X:F3)(nt N:Nat)(ops:List Oper)(dec:List (Nat×Bool))(r:Nat)(g:ChF)(asm:Prop)(i:Nat)(o:Oper)(s:AS)(e:Eff):Prop :=
 (i=r/\(∀ d,o.dst=some d->d<nt)/\o.guard=none/\g (opr s.1) (look s.2) (N+24*i)=some (e,asm))∨(i≠r/\a2h X nt N ops dec i o s=some e)
variable {r:Nat} {g:ChF} {asm:Prop}
theorem a2y.loc(hX:A7 P X)(hg:∀ o,ops[r]? = some o->b0c g o.op){i:Nat}{o:Oper}{s s':AS}{e:Eff}(hio:ops[i]? = some o)(h:a2y X nt N ops dec r g asm i o s e)(hs:∀ t∈o.looksAt ops.toArray,slot s'.1 t=slot s.1 t)(hr:∀ n∈e.rds,look s'.2 n=look s.2 n) :
  a2y X nt N ops dec r g asm i o s' e:=by
 rcases h with⟨rfl,h1,h2,h3⟩|⟨h1,h2⟩
 ·refine .inl ⟨rfl,h1,h2,hg o hio h3 (λx hx=>?_) hr⟩
  cases x with
  | tmp t =>
   exact hs t (by
    simp only[Oper.looksAt,List.mem_append,List.mem_filterMap]
    exact .inl ⟨.tmp t,by simpa using hx,rfl⟩)
  | _=>rfl
 ·exact .inr ⟨h1,b1U hX h2 hs hr⟩
def a0u(X:F3)(nt N:Nat)(ops:List Oper)(dec:List (Nat×Bool))(r:Nat)(g:ChF)(asm:Prop):List Ent->AS->Prop
 | [],_=>True
 | (i,o,e) :: l,s=>a2y X nt N ops dec r g asm i o s e/\a0u X nt N ops dec r g asm l (E4 o e s)
theorem a0u.same(hX:A7 P X)(hg:∀ o,ops[r]? = some o->b0c g o.op):∀ {l:List Ent} {s s':AS},(∀ x∈l,ops[x.1]? = some x.2.1)->R7 s s'->a0u X nt N ops dec r g asm l s->a0u X nt N ops dec r g asm l s'/\R7 (fin l s) (fin l s')
 | [],s,s',_,h,_=>⟨trivial,h⟩
 | (i,o,e) :: l,s,s',hl,h,hr=>by
  obtain⟨h1,h2⟩:=hr;have h3:=h1.loc hX hg (hl (i,o,e) (by simp)) (s':=s') (λt _=>h.1 t) (λn _=>h.2 n);obtain⟨h4,h5⟩:=a0u.same hX hg (λx hx=>hl x (by simp[hx])) (h.app o e) h2;exact⟨⟨h3,h4⟩,h5⟩
theorem c6I(hX:A7 P X)(hg:∀ o,ops[r]? = some o->b0c g o.op){i j:Nat}{oi oj:Oper}{s:AS}{ei ej:Eff}(hoi:ops[i]? = some oi)(hoj:ops[j]? = some oj)(hi:a2y X nt N ops dec r g asm i oi s ei)(hj:a2y X nt N ops dec r g asm j oj (E4 oi ei s) ej)(h:a4O ops oi oj ei ej) :
  a2y X nt N ops dec r g asm j oj s ej/\a2y X nt N ops dec r g asm i oi (E4 oj ej s) ei/\R7 (E4 oj ej (E4 oi ei s)) (E4 oi ei (E4 oj ej s)):=by
 obtain⟨h1,h2,h3⟩:=Oper.apart_spec h.ap;refine⟨?_,?_,?_,?_⟩
 ·exact hj.loc hX hg hoj (λt ht=>(F6 (λhd=>h1 t hd ht)).symm) (λn hn=>(O8 (h.rd n hn)).symm)
 ·exact hi.loc hX hg hoi (λt ht=>F6 (λhd=>h3 t hd ht)) (λn hn=>O8 (h.dr n hn))
 ·intro t;by_cases ht:oi.dst=some t
  ·have hne:oj.dst≠some t:=h2 t ht;rw[F6 hne];simp only[E4,ht];cases ei.val <;> simp[F7]
  ·rw[F6 ht];by_cases ht2:oj.dst=some t
   ·simp only[E4,ht2];cases ej.val <;> simp[F7]
   ·rw[F6 ht2,F6 ht2,F6 ht]
 ·intro n;by_cases hn:n∈a2M ei
  ·have hn2:=h.wr n hn;rw[O8 hn2];simp only[E4,E0];simp only[a2M,List.mem_append,not_or]at hn hn2
   cases hw:look ei.wr n with
   | some x=>rfl
   | none =>
    cases hw2:look ei.news n with
    | some x=>rfl
    | none=>simp[G5 hn2.1,G5 hn2.2]
  ·rw[O8 hn];simp only[E4,E0];simp only[a2M,List.mem_append,not_or]at hn;simp[G5 hn.1,G5 hn.2]
theorem b3G(hX:A7 P X)(hg:∀ o,ops[r]? = some o->b0c g o.op){i:Nat}{o:Oper}{e:Eff}{post:List Ent}:∀ {pre:List Ent} {s:AS},(∀ x∈pre++(i,o,e) :: post,ops[x.1]? = some x.2.1)->a0u X nt N ops dec r g asm (pre++(i,o,e) :: post) s->(∀ x∈pre,a4O ops x.2.1 o x.2.2 e)->
  a2y X nt N ops dec r g asm i o s e/\a0u X nt N ops dec r g asm (pre++post) (E4 o e s)/\R7 (fin (pre++(i,o,e) :: post) s) (fin (pre++post) (E4 o e s))
 | [],s,_,h,_=>⟨h.1,h.2,R7.refl _⟩
 | (k,ok,ek) :: pre,s,hl,h,hi=>by
  obtain⟨h1,h2⟩:=h;obtain⟨h3,h4,h5⟩:=b3G hX hg (λx hx=>hl x (List.mem_cons_of_mem _ hx)) h2 (λx hx=>hi x (by simp[hx]));obtain⟨h6,h7,h8⟩:=c6I hX hg (hl (k,ok,ek) (by simp)) (hl (i,o,e) (by simp)) h1 h3 (hi (k,ok,ek) (by simp))
  obtain⟨h9,h10⟩:=a0u.same hX hg (λx hx=>hl x (by
   simp only[List.cons_append,List.mem_cons,List.mem_append]at hx ⊢;rcases hx with hx|hx
   ·exact .inr (.inl hx)
   ·exact .inr (.inr (.inr hx)))) h8 h4
  exact⟨h6,⟨h7,h9⟩,h5.trans h10⟩
end
def UI(N M:Nat)(idx:List Nat):Nm->Prop:=λ(n:Nat)=>n<N+24*M/\∀ j∈idx,¬(N+24*j<=n/\n<N+24*j+24)
section
variable {P:Program} {W0:World} {Fr:Nat->Prop} {X:F3} {nt N:Nat} {ops:List Oper} {dec:List (Nat×Bool)}
theorem UI.grow{M:Nat}{idx idx':List Nat}{i:Nat}(hiM:i<M)(hsub:∀ x∈idx',x∈idx)(hne:∀ x∈idx',x≠i):∀ n,UU (UI N M idx) (N+24*i) n->UI N M idx' n:=by
 intro n hn;rcases hn with hn|hn
 ·exact⟨hn.1,λx hx=>hn.2 x (hsub x hx)⟩
 ·refine⟨?_,λx hx hx2=>?_⟩
  ·have h1:n<N+24*i+24:=hn.2;omega
  ·have h1:N+24*i<=n/\n<N+24*i+24:=hn;have:=hne x hx;omega
theorem c3c(hX:A7 P X){M:Nat}{idx idx':List Nat}{i:Nat}{o:Oper}{e:Eff}{s:AS}{ρ:Rho}{a:Act}{w:World}
  (h:a2h X nt N ops dec i o s=some e) (ho:okP e.obl) (hS:a6L W0 Fr nt (UI N M idx) s ρ a w) (hin:i∈idx) (hiM:i<M) (hsub:∀ x∈idx',x∈idx) (hne:∀ x∈idx',x≠i)
  {next:Act->World->Prop} {Q:Exit->Act->World->Prop}
  (hk:∀ ρ' a' w',a6L W0 Fr nt (UI N M idx') (E4 o e s) ρ' a' w'->(∀ n,UI N M idx n->ρ' n=ρ n)->next a' w'):a7r P ops.toArray o a w next Q:=by
 have hmono:∀ n,UI N M idx n->UI N M idx' n:=λn hn=>⟨hn.1,λx hx=>hn.2 x (hsub x hx)⟩
 have hU:=UI.grow (N:=N) (M:=M) (idx:=idx) (idx':=idx') hiM hsub hne
 have hn4:∀ j:Nat,j<24->¬UI N M idx (N+24*i+j):=by
  intro j hj hu;exact hu.2 i hin ⟨Nat.le_add_right _ _,by omega⟩
 have skip:e=a2D->(∀ d,o.dst=some d->d<nt)->next (a.put o.dst undef) w:=by
  intro he hd;subst he;refine hk ρ _ w ⟨?_,?_⟩ (λ_ _=>rfl)
  ·exact hS.h.mono hmono
  ·have hs:=hS.s.mono hmono (λ_ _=>rfl);simp only[E4,a2D]
   cases hdst:o.dst with
   | none=>simpa [Act.put]using hs
   | some d=>exact hs.put (v:=.tup []) (hd d hdst) (by simp[SV.bd,bdL])
 have run:a4E X N dec i o s=some e->(∀ d,o.dst=some d->d<nt)->o.wp P a w next Q:=by
  intro hr hd;unfold a4E at hr;split at hr
  ·rename_i e1 h1;simp only[oI9]at hr;subst hr;obtain⟨h2,h3,h4,h5⟩:=a8B ho;refine a8u hX hS.h hn4 (λx v hx=>H6 hS.s hx) (λc v hc=>a2q hc ρ) h1 h2 (λρ' w' hr' hH=>?_)
   have hH':HSat W0 Fr (UI N M idx') ((a3c dec i e1).wr++((a3c dec i e1).news++s.2)) ρ' w':=by
    rw[h3,h4];exact hH.mono hU
   have hs:=hS.s.mono hmono hr';split
   ·rename_i v hv;intro hb;rw[hv]at h5;obtain⟨v',h6,h7,h8⟩:=h5;refine hk ρ' _ w' ⟨hH',?_⟩ hr';rw[<-h7 ρ'];simp only[E4,h6]
    cases hdst:o.dst with
    | none=>simpa [Act.put]using hs
    | some d=>exact hs.put (hd d hdst) (h8 _ (SV.bd_mono hU v hb))
   ·rename_i hv;rw[hv]at h5;refine hk ρ' _ w' ⟨hH',?_⟩ hr';simp only[E4,h5]
    cases hdst:o.dst with
    | none=>simpa [Act.put]using hs
    | some d=>exact hs.put (v:=.tup []) (hd d hdst) (by simp[SV.bd,bdL])
  ·cases hr
 unfold a2h at h;split at h
 ·cases h
 ·rename_i hd0
  have hd:∀ d,o.dst=some d->d<nt:=by
   intro d hd;rw[hd]at hd0;simpa using hd0
  unfold a7r;split at h
  ·rename_i hg;rw[if_pos (by simp[Region.wanted,hg])];exact .inl (run h hd)
  ·rename_i j want hg;split at h
   ·cases h
   ·rename_i d hgd
    have hdst:(ops.toArray[j]?).bind (·.dst)=some d:=by
     unfold a4Z at hgd;rw[U3]at hgd;split at hgd
     ·rename_i o' ho';simp[ho',hgd]
     ·cases hgd
    have wantedIs:∀(v:Value),a.tmps[d]? = some v->Region.wanted o (yielded ops.toArray a.tmps)=((match v with | .bool b=>some b|_=>none)==some want):=by
     intro v hv;simp only[Region.wanted,hg,yielded,hdst,Option.bind_some,hv];cases v <;> rfl
    split at h
    ·rename_i hv;have hw:=wantedIs _ (hS.s.val _ _ hv);simp only[SV.den]at hw;split at h
     ·rw[hw];exact .inl (run h hd)
     ·rw[hw];exact skip (by simpa using h.symm) hd
    ·rename_i hv;have hw:=wantedIs _ (hS.s.val _ _ hv);simp only[SV.den]at hw;split at h
     ·rw[hw];exact skip (by simpa using h.symm) hd
     ·rw[hw];exact .inl (run h hd)
    ·rename_i hv;have hw:=wantedIs _ (hS.s.val _ _ hv);simp only[SV.den]at hw;rw[hw];exact skip (by simpa using h.symm) hd
    ·cases h
theorem c5z{R:ROp}{M:Nat}{idx idx':List Nat}{i:Nat}{o:Oper}(hR:b3O P R o.op){s:AS}{ρ:Rho}{a:Act}{w:World}
  (hgd:o.guard=none) (hd:∀ d,o.dst=some d->d<nt) (hall:∀ x,∃ e p,R.ev x (opr s.1) (look s.2) (N+24*i)=some (e,p)/\okP e.obl)
  (hS:a6L W0 Fr nt (UI N M idx) s ρ a w) (hin:i∈idx) (hiM:i<M) (hsub:∀ x∈idx',x∈idx) (hne:∀ x∈idx',x≠i)
  {next:Act->World->Prop} {Q:Exit->Act->World->Prop}
  (hk:∀ x e p ρ' a' w',R.ev x (opr s.1) (look s.2) (N+24*i)=some (e,p)->p->a6L W0 Fr nt (UI N M idx') (E4 o e s) ρ' a' w'->(∀ n,UI N M idx n->ρ' n=ρ n)->next a' w'):a7r P ops.toArray o a w next Q:=by
 have hmono:∀ n,UI N M idx n->UI N M idx' n:=λn hn=>⟨hn.1,λx hx=>hn.2 x (hsub x hx)⟩
 have hU:=UI.grow (N:=N) (M:=M) (idx:=idx) (idx':=idx') hiM hsub hne
 have hn4:∀ j:Nat,j<24->¬UI N M idx (N+24*i+j):=by
  intro j hj hu;exact hu.2 i hin ⟨Nat.le_add_right _ _,by omega⟩
 unfold a7r;rw[if_pos (by simp[Region.wanted,hgd])];refine .inl (hR.sound rfl hS.h hn4 (λx v hx=>H6 hS.s hx) hall λx e p ρ' w' h1 h2 hr' hH=>?_);have hs:=hS.s.mono hmono hr';split
 ·rename_i v hv;intro hb;refine hk x e p ρ' _ w' h1 h2 ⟨hH.mono hU,?_⟩ hr';simp only[E4,hv]
  cases hdst:o.dst with
  | none=>simpa [Act.put]using hs
  | some d=>exact hs.put (hd d hdst) (SV.bd_mono hU v hb)
 ·rename_i hv;refine hk x e p ρ' _ w' h1 h2 ⟨hH.mono hU,?_⟩ hr';simp only[E4,hv]
  cases hdst:o.dst with
  | none=>simpa [Act.put]using hs
  | some d=>exact hs.put (v:=.tup []) (hd d hdst) (by simp[SV.bd,bdL])
theorem b2N{pre post:List Ent}{x:Ent}(h:∀ y∈pre++post,y.1≠x.1):(pre++x :: post).filter (λy => !(y.1==x.1))=pre++post:=by
 have key:∀ l:List Ent,(∀ y∈l,y.1≠x.1)->l.filter (λy => !(y.1==x.1))=l:=λl hl=>List.filter_eq_self.2 λy hy=>by simpa using hl y hy
 rw[List.filter_append,key pre (λy hy=>h y (by simp[hy]))];congr 1;rw[List.filter_cons];simp only[beq_self_eq_true,Bool.not_true,Bool.false_eq_true,if_false];exact key post (λy hy=>h y (by simp[hy]))
theorem b2d(hX:A7 P X)(hback:a2n ops=true){R:ROp}{r:Nat}(hR:∀ o,ops[r]? = some o->b3O P R o.op){asm:R.ι->Prop}{F:R.ι->AS}{ρ0:Rho}{N0:Nat}(hN0:N0<=N){Q:Exit->Act->World->Prop}
  (hQ:∀ i,asm i->∀ ρ a w,a6L W0 Fr nt (UI N ops.length []) (F i) ρ a w->(∀ n,n<N0->ρ n=ρ0 n)->Q .normal a w) :
  ∀(fuel:Nat)(idx:List Nat)(J:R.ι->Prop)(L:R.ι->List Ent)(listed:Array Bool)(s:AS)(ρ:Rho)(a:Act)(w:World),idx.length=fuel->listed.size=ops.length->
   (∀ j,j<ops.length->listed[j]? = some (!decide (j∈idx)))->(∃ i,J i)->(∀ i,J i->(L i).map (·.1)=idx)->
   (∀ i,J i->∀ x∈L i,ops[x.1]? = some x.2.1)->idx.Pairwise (·< ·)->(∀ i,J i->(L i).Pairwise (c3C ops))->(∀ i,J i->∀ x∈L i,okP x.2.2.obl∨((((I8 ops [])[x.1]?).getD 0).testBit r=true/\(asm i->okP x.2.2.obl)))->
   (∀ i o,ops[i]? = some o->listed.getD i false=true->∀ e∈o.after,Region.binds .any e=true->listed.getD e.on false=true)->
   ((r∈idx/\∀ i,J i)∨(r∉idx/\∀ i,J i->asm i))->
   (∀ i,J i->a0u X nt N ops dec r (R.ev i) (asm i) (L i) s)->(∀ i,J i->R7 (F i) (fin (L i) s))->a6L W0 Fr nt (UI N ops.length idx) s ρ a w->(∀ n,n<N0->ρ n=ρ0 n)->
   wpAny P .any ops.toArray Q fuel listed a w:=by
 have hb:=a2T ops 0 hback;have hg:∀ i:R.ι,∀ o,ops[r]? = some o->b0c (R.ev i) o.op:=λi o ho=>λh1 h2 h3=>(hR o ho).loc h1 h2 h3
 intro fuel
 induction fuel with
 | zero =>
  intro idx J L listed s ρ a w hl hsz hli hJ hLi hops hsort hpair hobl hcl hph hruns hF hS hρ;have hl0:idx=[]:=List.length_eq_zero_iff.1 hl;subst hl0;obtain⟨i0,hi0⟩:=hJ
  have hasm:asm i0:=by
   rcases hph with⟨h,_⟩|⟨_,h⟩
   ·simp at h
   ·exact h i0 hi0
  have hLe:L i0=[]:=List.map_eq_nil_iff.1 (hLi i0 hi0);have hF0:=hF i0 hi0;rw[hLe]at hF0;refine⟨?_,hQ i0 hasm ρ a w ?_ hρ⟩
  ·refine List.eq_nil_iff_forall_not_mem.2 λj hj=>?_
   rw[mem_ready]at hj;obtain⟨h1,o,ho,_⟩:=hj
   have hlt:j<ops.length:=by
    have:=(Array.getElem?_eq_some_iff.1 ho).1;simpa using this
   have:=hli j hlt;simp[Array.getD_eq_getD_getElem?,this]at h1
  ·exact⟨hS.h.lookEq λn=>(hF0.2 n).symm,{hS.s with
    bd:=λt v hv=>hS.s.bd t v (by rw[<-hv];exact hF0.1 t)
    val:=λt v hv=>hS.s.val t v (by rw[<-hv];exact hF0.1 t)}⟩
 | succ fuel ih =>
  intro idx J L listed s ρ a w hl hsz hli hJ hLi hops hsort hpair hobl hcl hph hruns hF hS hρ
  have pend:∀ j,j<ops.length->(listed.getD j true=false↔j∈idx):=by
   intro j hj;simp[Array.getD_eq_getD_getElem?,hli j hj]
  have isl:∀ j,listed.getD j false=true↔(j<ops.length/\j∉idx):=by
   intro j;by_cases hj:j<ops.length
   ·simp[Array.getD_eq_getD_getElem?,hli j hj,hj]
   ·have:listed[j]? = none:=Array.getElem?_eq_none (by omega);simp[Array.getD_eq_getD_getElem?,this,hj]
  have entry:∀ i,J i->∀ j∈idx,∃ x∈L i,x.1=j:=by
   intro i hi j hj;rw[<-hLi i hi]at hj;obtain⟨x,hx,hxj⟩:=List.mem_map.1 hj;exact⟨x,hx,hxj⟩
  refine⟨λhre=>?_,λi hi=>?_⟩
  ·exfalso
   match idx,hl with
   | j :: rest,hl =>
    obtain⟨i0,hi0⟩:=hJ;obtain⟨x,hx,hxj⟩:=entry i0 hi0 j (by simp);have hox:=hops i0 hi0 x hx;rw[hxj]at hox;have hlt:j<ops.length:=(List.getElem?_eq_some_iff.1 hox).1
    have hmem:j∈Region.ready .any ops.toArray listed:=by
     rw[mem_ready];refine⟨(pend j hlt).2 (by simp),x.2.1,by simpa using hox,λe he hbe=>?_⟩;have h1:=hb j x.2.1 hox e he hbe;rw[isl];refine⟨by omega,λhy=>?_⟩;rcases List.mem_cons.1 hy with hy|hy
     ·omega
     ·have:=(List.pairwise_cons.1 hsort).1 _ hy;omega
    rw[hre]at hmem;cases hmem
  ·rw[mem_ready]at hi;obtain⟨h1,o',ho',hedges⟩:=hi
   have hlt:i<ops.length:=by
    have:=(Array.getElem?_eq_some_iff.1 ho').1;simpa using this
   have hii:i∈idx:=(pend i hlt).1 h1;have ho2:ops[i]? = some o':=by simpa using ho'
   have front:∀ k,J k->∃ e,(i,o',e)∈L k/\a2y X nt N ops dec r (R.ev k) (asm k) i o' s e/\
     a0u X nt N ops dec r (R.ev k) (asm k) ((L k).filter λy => !(y.1==i)) (E4 o' e s)/\R7 (fin (L k) s) (fin ((L k).filter λy => !(y.1==i)) (E4 o' e s))/\((L k).filter λy => !(y.1==i)).length+1=(L k).length:=by
    intro k hk;obtain⟨x,hx,hxi⟩:=entry k hk i hii;have hox:=hops k hk x hx;rw[hxi,ho2]at hox;injection hox with hox
    obtain⟨i',o,e⟩:=x;simp only at hxi hox;subst hxi hox;obtain⟨pre,post,hpp⟩:=List.append_of_mem hx
    have hsk:(L k).Pairwise (λx y=>x.1<y.1):=by
     have:=hsort;rw[<-hLi k hk]at this;exact List.pairwise_map.1 this
    have hpk:=hpair k hk;rw[hpp]at hsk hpk
    have hind:∀ y∈pre,a4O ops y.2.1 o' y.2.2 e:=by
     intro y hy;have hp:=(List.pairwise_append.1 hpk).2.2 y hy (i',o',e) (by simp);rcases hp with hp|hp
     ·exfalso;have:=a3J (ops:=ops) (L:=λj=>listed.getD j false=true) hcl i' o' ho2 hedges y.1 hp;rw[isl]at this;refine this.2 ?_;rw[<-hLi k hk,hpp];exact List.mem_map.2 ⟨y,by simp[hy],rfl⟩
     ·exact hp
    have hr:=hruns k hk;rw[hpp]at hr;obtain⟨h2,h3,h4⟩:=b3G hX (hg k) (λy hy=>hops k hk y (by rw[hpp];exact hy)) hr hind
    have hne:∀ y∈pre++post,y.1≠i':=by
     intro y hy;have hs:=List.pairwise_append.1 hsk;rcases List.mem_append.1 hy with hy|hy
     ·exact Nat.ne_of_lt (hs.2.2 y hy (i',o',e) (by simp))
     ·exact Nat.ne_of_gt ((List.pairwise_cons.1 hs.2.1).1 y hy)
    have hfil:(L k).filter (λy => !(y.1==i'))=pre++post:=by rw[hpp];exact b2N (x:=(i',o',e)) hne
    refine⟨e,hx,h2,by rw[hfil];exact h3,by rw[hfil,hpp];exact h4,by rw[hfil,hpp];simp only[List.length_append,List.length_cons];omega⟩
   have hsub:∀ y∈idx.filter (λy => !(y==i)),y∈idx:=λy hy=>(List.mem_filter.1 hy).1
   have hne:∀ y∈idx.filter (λy => !(y==i)),y≠i:=λy hy=>by simpa using (List.mem_filter.1 hy).2
   have hmapL:∀ k,J k->((L k).filter λy => !(y.1==i)).map (·.1)=idx.filter λy => !(y==i):=by
    intro k hk;rw[<-hLi k hk,List.filter_map];rfl
   have hlen:(idx.filter λy => !(y==i)).length=fuel:=by
    obtain⟨k0,hk0⟩:=hJ;obtain⟨_,_,_,_,_,h5⟩:=front k0 hk0;have h6:=congrArg List.length (hmapL k0 hk0);have h7:=congrArg List.length (hLi k0 hk0);simp only[List.length_map]at h6 h7;omega
   have next:∀(J':R.ι->Prop)(e:Eff),(∀ k,J' k->J k)->(∃ k,J' k)->((r∈idx.filter (λy => !(y==i))/\∀ k,J' k)∨(r∉idx.filter (λy => !(y==i))/\∀ k,J' k->asm k))->
     (∀ k,J' k->a0u X nt N ops dec r (R.ev k) (asm k) ((L k).filter λy => !(y.1==i)) (E4 o' e s)/\R7 (fin (L k) s) (fin ((L k).filter λy => !(y.1==i)) (E4 o' e s)))->
     ∀ ρ' a' w',a6L W0 Fr nt (UI N ops.length (idx.filter λy => !(y==i))) (E4 o' e s) ρ' a' w'->(∀ n,UI N ops.length idx n->ρ' n=ρ n)->wpAny P .any ops.toArray Q fuel (listed.setIfInBounds i true) a' w':=by
    intro J' e hJ' hJne hph' hk' ρ' a' w' hS' hρ'
    refine ih (idx.filter λy => !(y==i)) J' (λk=>(L k).filter λy => !(y.1==i)) _ _ ρ' a' w' hlen (by simpa using hsz) ?_ hJne (λk hk=>hmapL k (hJ' k hk)) (λk hk y hy=>hops k (hJ' k hk) y (List.mem_filter.1 hy).1)
     (hsort.sublist List.filter_sublist) (λk hk=>(hpair k (hJ' k hk)).sublist List.filter_sublist) (λk hk y hy=>hobl k (hJ' k hk) y (List.mem_filter.1 hy).1) ?_ hph' (λk hk=>(hk' k hk).1) (λk hk=>(hF k (hJ' k hk)).trans (hk' k hk).2) hS' ?_
    ·intro j hj;by_cases hji:i=j
     ·subst hji;rw[Array.getElem?_setIfInBounds_self_of_lt (by omega)];simp
     ·rw[Array.getElem?_setIfInBounds_ne hji,hli j hj];congr 2
      apply decide_eq_decide.2
      simp[Ne.symm hji]
    ·intro k ok hok hk e' he' hb';by_cases hki:i=k
     ·subst hki;rw[ho2]at hok;injection hok with hok
      subst hok;exact getD_set_true (hedges e' he' hb')
     ·rw[getD_set_ne false hki]at hk;exact getD_set_true (hcl k ok hok hk e' he' hb')
    ·intro n hn
     have hu:UI N ops.length idx n:=by
      have hnN:n<N:=Nat.lt_of_lt_of_le hn hN0;refine⟨Nat.lt_of_lt_of_le hnN (Nat.le_add_right _ _),λy _ hy=>?_⟩;have h5:N+24*y<=n:=hy.1;have h6:N<=n:=Nat.le_trans (Nat.le_add_right _ _) h5;exact absurd hnN (Nat.not_lt.2 h6)
     exact(hρ' n hu).trans (hρ n hn)
   unfold wpOp;rw[ho'];by_cases hir:i=r
   ·subst hir;rcases hph with⟨_,hall⟩|⟨hno,_⟩
    ·have info:∀ k,∃ e,(i,o',e)∈L k/\((∀ d,o'.dst=some d->d<nt)/\o'.guard=none/\R.ev k (opr s.1) (look s.2) (N+24*i)=some (e,asm k))/\
       a0u X nt N ops dec i (R.ev k) (asm k) ((L k).filter λy => !(y.1==i)) (E4 o' e s)/\R7 (fin (L k) s) (fin ((L k).filter λy => !(y.1==i)) (E4 o' e s)):=by
      intro k;obtain⟨e,h2,h3,h4,h5,_⟩:=front k (hall k);rcases h3 with⟨_,h6,h7,h8⟩|⟨h6,_⟩
      ·exact⟨e,h2,⟨h6,h7,h8⟩,h4,h5⟩
      ·exact absurd rfl h6
     obtain⟨k0,_⟩:=hJ;obtain⟨e0,_,⟨hd,hgd,_⟩,_⟩:=info k0;refine c5z (hR o' ho2) hgd hd (λk=>?_) hS hii hlt hsub hne λk e p ρ' a' w' h2 h3 hS' hρ'=>?_
     ·obtain⟨e,h2,⟨_,_,h3⟩,_⟩:=info k;refine⟨e,asm k,h3,?_⟩;rcases hobl k (hall k) _ h2 with ho9|⟨hb9,_⟩
      ·exact ho9
      ·have:=a3J (ops:=ops) (L:=λj=>listed.getD j false=true) hcl i o' ho2 hedges i hb9;rw[isl]at this;exact absurd hii this.2
     ·obtain⟨e1,h4,⟨_,_,h5⟩,h6,h7⟩:=info k;rw[h2]at h5;simp only[oI9,pI9]at h5;obtain⟨rfl,rfl⟩:=h5;exact next (λx=>x=k) e (λx _=>hall x) ⟨k,rfl⟩ (.inr ⟨λhm=>hne _ hm rfl,λx hx=>by subst hx;exact h3⟩) (λx hx=>by subst hx;exact⟨h6,h7⟩) ρ' a' w' hS' hρ'
    ·exact absurd hii hno
   ·obtain⟨k0,hk0⟩:=hJ;obtain⟨e,h2,h3,_⟩:=front k0 hk0
    have hst:a2h X nt N ops dec i o' s=some e:=by
     rcases h3 with⟨h,_⟩|⟨_,h⟩
     ·exact absurd h hir
     ·exact h
    have hob9:okP e.obl:=by
     rcases hobl k0 hk0 _ h2 with ho9|⟨hb9,ha9⟩
     ·exact ho9
     ·have:=a3J (ops:=ops) (L:=λj=>listed.getD j false=true) hcl i o' ho2 hedges r hb9;rw[isl]at this;rcases hph with⟨h4,_⟩|⟨_,h5⟩
      ·exact absurd h4 this.2
      ·exact ha9 (h5 k0 hk0)
    refine c3c hX hst hob9 hS hii hlt hsub hne λρ' a' w' hS' hρ'=>next J e (λ_ h=>h) ⟨k0,hk0⟩ ?_ (λk hk=>?_) ρ' a' w' hS' hρ'
    ·have hr:r∈idx.filter (λy => !(y==i))↔r∈idx:=by simp[Ne.symm hir]
     rcases hph with⟨h4,h5⟩|⟨h4,h5⟩
     ·exact .inl ⟨hr.2 h4,h5⟩
     ·exact .inr ⟨λh=>h4 (hr.1 h),h5⟩
    ·obtain⟨e',_,h4,h5,h6,_⟩:=front k hk
     have:e'=e:=by
      rcases h4 with⟨h,_⟩|⟨_,h⟩
      ·exact absurd h hir
      ·rw[hst]at h;injection h with h;exact h.symm
     subst this;exact⟨h5,h6⟩
end
inductive Xt where
 | normal
 | exit (id:Nat)
 | ret
def B4(N0:Nat)(S S':St):Prop :=
 N0<=S'.N/\∀ W0 Fr ρ a w,Sat W0 Fr S ρ a w->∃ ρ',Sat W0 Fr S' ρ' a w/\∀ n,n<N0->ρ' n=ρ n
structure b8e (N0:Nat) (body:St->(Xt->St->Prop)->Prop) (S:St) (K:Xt->St->Prop):Prop where
 ex:∃(ι:Type)(I:ι->St)(μ:ι->Nat)(i0:ι),B4 N0 S (I i0)/\
  ∀ i,body (I i) (λe S'=>match e with
   | .normal=>∃ i',μ i'<μ i/\B4 N0 S' (I i')
   | e=>K e S')
def a0G(G:Ctx)(N0:Nat):Code->St->(Xt->St->Prop)->Prop
 | .skip,S,K=>K .normal S
 | .region _ ops draw,S,K=>match draw with
  | false=>a9N G ops.toList ops.toList S (K .normal)
  | true=>b2J G ops.toList S (K .normal) 20 []
 | .seq x y,S,K=>a0G G N0 x S (λe S'=>match e with
  | .normal=>a0G G N0 y S' K
  | e=>K e S')
 | .cond c x y,S,K=>match opr S.sl c with
  | some .tt=>a0G G N0 x S K
  | some .ff=>a0G G N0 y S K
  | some (.bool b)=>(b=true->a0G G N0 x S K)/\(b=false->a0G G N0 y S K)
  | _=>False
 | .block id x,S,K=>a0G G N0 x S (λe S'=>match e with
  | .exit j=>match Nat.beq j id with
   | true=>K .normal S'
   | false=>K (.exit j) S'
  | e=>K e S')
 | .exit id,S,K=>K (.exit id) S
 | .ret,S,K=>K .ret S
 | .loop x,S,K=>b8e N0 (a0G G N0 x) S K
 | _,_,_=>False
section
variable {P:Program} {W0:World} {Fr:Nat->Prop} {G:Ctx}
def b5C(W0:World)(Fr:Nat->Prop)(N0:Nat)(ρ0:Rho)(K:Xt->St->Prop)(Q:Exit->Act->World->Prop):Prop :=
 ∀ e S' ρ' a' w',K e S'->Sat W0 Fr S' ρ' a' w'->N0<=S'.N->(∀ n,n<N0->ρ' n=ρ0 n)->
  match e with
  | .normal=>Q .normal a' w'
  | .exit id=>Q (.exit id) a' w'
  | .ret=>Q .ret a' w'
theorem Z7{Q:Exit->Act->World->Prop}{c:Code}{ι:Type}(J:ι->Act->World->Prop)(μ:ι->Nat)
  (round:∀ i a w,J i a w->c.wp P (Exit.then (λa' w'=>∃ i',J i' a' w'/\μ i'<μ i) Q) a w) {i0:ι} {a:Act} {w:World} (h0:J i0 a w):(Code.loop c).wp P Q a w:=by
 classical
 have least:∀ a w,(∃ i,J i a w)->∃ i,J i a w/\∀ j,J j a w->μ i<=μ j:=by
  intro a w ⟨i,hi⟩
  have key:∀ n (i:ι),J i a w->μ i=n->∃ i,J i a w/\∀ j,J j a w->μ i<=μ j:=by
   intro n
   induction n using Nat.strongRecOn with
   | _ n ih =>
    intro i hi hn;by_cases h:∃ j,J j a w/\μ j<μ i
    ·obtain⟨j,hj,hlt⟩:=h;exact ih (μ j) (hn▸hlt) j hj rfl
    ·exact⟨i,hi,λj hj=>Nat.le_of_not_lt λhlt=>h ⟨j,hj,hlt⟩⟩
  exact key _ i hi rfl
 let m:Act->World->Nat:=λa w=>if h:∃ i,J i a w then μ (Classical.choose (least a w h))else 0
 refine wp_loop (λa w=>∃ i,J i a w) m ⟨i0,h0⟩ λa w hI=>?_
 obtain⟨h1,h2⟩:=Classical.choose_spec (least a w hI);refine wp_mono (round _ a w h1) λe a' w' hq=>?_
 cases e with
 | normal =>
  obtain⟨i',hi',hlt⟩:=hq;refine⟨⟨i',hi'⟩,?_⟩;have hI':∃ i,J i a' w':=⟨i',hi'⟩;obtain⟨h3,h4⟩:=Classical.choose_spec (least a' w' hI');show m a' w'<m a w;simp only[m,dif_pos hI',dif_pos hI];exact Nat.lt_of_le_of_lt (h4 i' hi') hlt
 | exit id=>exact hq
 | goto l=>exact hq
 | ret=>exact hq
 | panic ch=>exact hq
 | outgrown=>exact hq
theorem a6k(hG:B7 P G){N0:Nat}{ρ0:Rho}:∀(c:Code) {S:St} {ρ:Rho} {a:Act} {w:World} {K:Xt->St->Prop} {Q:Exit->Act->World->Prop},a0G G N0 c S K->Sat W0 Fr S ρ a w->N0<=S.N->
  (∀ n,n<N0->ρ n=ρ0 n)->b5C W0 Fr N0 ρ0 K Q->c.wp P Q a w:=by
 intro c
 induction c with
 | skip=>intro S ρ a w K Q h hS hN hρ hK;exact wp_skip (hK .normal S ρ a w h hS hN hρ)
 | region id ops draw =>
  intro S ρ a w K Q h hS hN hρ hK
  cases draw with
  | false =>
   simp only[a0G]at h;refine wp_region ?_;have:=a3q hG (Q:=Q) ops.toList 0 (λj=>by simp) h hS hN hρ (λS' ρ' a' w' h' hS' hN' hρ'=>hK .normal S' ρ' a' w' h' hS' hN' hρ');rw[List.range_eq_range'];simpa using this
  | true =>
   simp only[a0G]at h;exact b1Q hG hG.mix 20 [] h hS hN hρ (λS' ρ' a' w' h' hS' hN' hρ'=>hK .normal S' ρ' a' w' h' hS' hN' hρ')
 | seq x y ihx ihy =>
  intro S ρ a w K Q h hS hN hρ hK;simp only[a0G]at h;refine wp_seq (ihx h hS hN hρ λe S' ρ' a' w' h' hS' hN' hρ'=>?_)
  cases e with
  | normal=>exact ihy h' hS' hN' hρ' hK
  | exit id=>exact hK (.exit id) S' ρ' a' w' h' hS' hN' hρ'
  | ret=>exact hK .ret S' ρ' a' w' h' hS' hN' hρ'
 | cond c x y ihx ihy =>
  intro S ρ a w K Q h hS hN hρ hK;simp only[a0G]at h;split at h
  ·rename_i hv;exact wp_cond_true (by simpa [SV.den]using (H6 hS.s hv).1) (ihx h hS hN hρ hK)
  ·rename_i hv;exact wp_cond_false (by simpa [SV.den]using (H6 hS.s hv).1) (ihy h hS hN hρ hK)
  ·rename_i b hv;have hb:=(H6 hS.s hv).1;simp only[SV.den]at hb;exact wp_cond_split hb (λe=>ihx (h.1 e) hS hN hρ hK) (λe=>ihy (h.2 e) hS hN hρ hK)
  ·exact h.elim
 | block id x ih =>
  intro S ρ a w K Q h hS hN hρ hK;simp only[a0G]at h;refine wp_block (ih h hS hN hρ λe S' ρ' a' w' h' hS' hN' hρ'=>?_)
  cases e with
  | normal=>exact hK .normal S' ρ' a' w' h' hS' hN' hρ'
  | ret=>exact hK .ret S' ρ' a' w' h' hS' hN' hρ'
  | exit j =>
   simp only at h';simp only[Exit.inBlock];split at h'
   ·rename_i hj;rw[if_pos (eB9 hj)];exact hK .normal S' ρ' a' w' h' hS' hN' hρ'
   ·rename_i hj;rw[if_neg (λe=>by subst e;simp at hj)];exact hK (.exit j) S' ρ' a' w' h' hS' hN' hρ'
 | exit id=>intro S ρ a w K Q h hS hN hρ hK;exact wp_exit (hK (.exit id) S ρ a w h hS hN hρ)
 | ret=>intro S ρ a w K Q h hS hN hρ hK;exact wp_ret (hK .ret S ρ a w h hS hN hρ)
 | loop x ih =>
  intro S ρ a w K Q h hS hN hρ hK;simp only[a0G]at h;obtain⟨ι,I,μ,i0,h0,hr⟩:=h.ex
  have a6I:∀ {S1:St} {i:ι},B4 N0 S1 (I i)->∀ {ρ1 a1 w1},Sat W0 Fr S1 ρ1 a1 w1->(∀ n,n<N0->ρ1 n=ρ0 n)->
    ∃ ρ',Sat W0 Fr (I i) ρ' a1 w1/\N0<=(I i).N/\∀ n,n<N0->ρ' n=ρ0 n:=by
   intro S1 i hR ρ1 a1 w1 hS1 hρ1;obtain⟨ρ',h1,h2⟩:=hR.2 W0 Fr ρ1 a1 w1 hS1;exact⟨ρ',h1,hR.1,λn hn=>(h2 n hn).trans (hρ1 n hn)⟩
  refine Z7 (λi a w=>∃ ρ',Sat W0 Fr (I i) ρ' a w/\N0<=(I i).N/\∀ n,n<N0->ρ' n=ρ0 n) μ ?_ (a6I h0 hS hρ);rintro i a1 w1 ⟨ρ1,hS1,hN1,hρ1⟩;refine ih (hr i) hS1 hN1 hρ1 λe S' ρ' a' w' h' hS' hN' hρ'=>?_
  cases e with
  | normal =>
   obtain⟨i',hlt,hR⟩:=h';exact⟨i',a6I hR hS' hρ',hlt⟩
  | exit id=>exact hK (.exit id) S' ρ' a' w' h' hS' hN' hρ'
  | ret=>exact hK .ret S' ρ' a' w' h' hS' hN' hρ'
 | _=>intro S ρ a w K Q h;exact(h:False).elim
def b9u(T:Tys)(S:St):ResultVar->Option (SV×Option Prop)
 | .tmp t=>match slot S.sl t with
  | some v=>some (v,none)
  | none=>none
 | .cell a t=>match slot S.sl a with
  | some (.ptr n i)=>match ty T t with
   | some ti=>match Nat.ble 1 ti.size with
    | true=>match look S.H n with
     | some ob=>a8Q ti ob.c i
     | none=>none
    | false=>none
   | none=>none
  | _=>none
def b4Q(T:Tys)(S:St):List ResultVar->Option (List SV×Option Prop)
 | []=>some ([],none)
 | x :: r=>match b9u T S x with
  | some (v,p)=>match b4Q T S r with
   | some (vs,q)=>some (v :: vs,match p,q with
    | none,q=>q
    | p,none=>p
    | some p,some q=>some (p/\q))
   | none=>none
  | none=>none
def a9l(vs:List SV):SV :=
 match vs with
 | [v]=>v
 | vs=>.tup vs
def a8e(a:Array Value):ResultVar->Sem Value
 | .tmp t=>pure (a.getD t undef)
 | .cell a' t=>do loadVar t (<-asAddr (a.getD a' undef))
theorem b2T(fn:Func)(a:Array Value):results fn a=(do
  let vs <-fn.results.mapM (a8e a)
  pure (if h:vs.size=1 then vs[0]else .tuple vs)):=by
 unfold results;congr 1
theorem b2M{T:Tys}(hT:TysOk P T){S:St}{ρ:Rho}{a:Act}{w:World}(hS:Sat W0 Fr S ρ a w){x:ResultVar}{v:SV}{p:Option Prop}(h:b9u T S x=some (v,p))(hp:okP p) :
  (a8e a.tmps x).run P w=.ok (v.den ρ) w/\v.bd (·< S.N):=by
 cases x with
 | tmp t =>
  simp only[b9u]at h;split at h
  ·rename_i u hu;simp only[oI9,pI9]at h;obtain⟨rfl,rfl⟩:=h;have:=hS.s.val _ _ hu;exact⟨by simp[a8e,Array.getD_eq_getD_getElem?,this],hS.s.bd _ _ hu⟩
  ·cases h
 | cell a' t =>
  simp only[b9u]at h;split at h
  ·rename_i n i hn;split at h
   ·rename_i ti hti;split at h
    ·rename_i hsz;split at h
     ·rename_i ob hob;obtain⟨h1,h2⟩:=a3j (hT t ti hti) hS.h hob h hp (λ_=>Nat.le_of_ble_eq_true hsz);refine⟨?_,h2⟩;have hv:=hS.s.val _ _ hn;simp only[SV.den]at hv;simp only[a8e,Array.getD_eq_getD_getElem?,hv,Option.getD_some];simp only[Instr.loadAt]at h1;rw[<-h1]
      cases ha:ρ.addr n i with
      | none=>rw[ha]at h1;simp[Instr.sureAddr]at h1
      | some ad=>simp[Instr.sureAddr,asAddr]
     ·cases h
    ·cases h
   ·cases h
  ·cases h
theorem a5U{T:Tys}(hT:TysOk P T){S:St}{ρ:Rho}{a:Act}{w:World}(hS:Sat W0 Fr S ρ a w):∀ {xs:List ResultVar} {vs:List SV} {p:Option Prop},b4Q T S xs=some (vs,p)->okP p->
  (xs.mapM (a8e a.tmps)).run P w=.ok (p8 ρ vs) w/\bdL (·< S.N) vs
 | [],vs,p,h,hp=>by
  simp only[b4Q,oI9,pI9]at h;obtain⟨rfl,rfl⟩:=h;simp[p8,bdL]
 | x :: r,vs,p,h,hp=>by
  simp only[b4Q]at h;split at h
  ·rename_i v p1 h1;split at h
   ·rename_i us q h2;simp only[oI9,pI9]at h;obtain⟨rfl,rfl⟩:=h
    have hpq:okP p1/\okP q:=by
     cases p1 <;> cases q <;> first|exact⟨trivial,trivial⟩|exact⟨trivial,hp⟩|exact⟨hp,trivial⟩|exact hp
    obtain⟨h3,h4⟩:=b2M hT hS h1 hpq.1;obtain⟨h5,h6⟩:=a5U hT hS h2 hpq.2;refine⟨?_,h4,h6⟩;simp only[List.mapM_cons,Sem.run_bind,h3,h5,Result.andThen_ok,Sem.run_pure,p8]
   ·cases h
  ·cases h
theorem a2N{T:Tys}(hT:TysOk P T){S:St}{ρ:Rho}{a:Act}{w:World}(hS:Sat W0 Fr S ρ a w){fn:Func}{vs:List SV}{p:Option Prop}(h:b4Q T S fn.results.toList=some (vs,p))(hp:okP p) :
  (results fn a.tmps).run P w=.ok ((a9l vs).den ρ) w/\(a9l vs).bd (·< S.N):=by
 obtain⟨h1,h2⟩:=a5U hT hS h hp
 have h3:(fn.results.mapM (a8e a.tmps)).run P w=.ok (p8 ρ vs).toArray w:=by
  rw[<-Array.toArray_toList (xs:=fn.results),List.mapM_toArray];simp only[Sem.run_map,h1,Result.andThen_ok]
 rw[b2T];simp only[Sem.run_bind];rw[h3];simp only[Result.andThen_ok,Sem.run_pure]
 match vs with
 | [v]=>exact⟨by simp[p8,a9l],by simpa [a9l,bdL]using h2⟩
 | []=>exact⟨by simp[p8,a9l,SV.den],by simp[a9l,SV.bd,bdL]⟩
 | v :: u :: r=>exact⟨by simp[p8,a9l,SV.den],by simpa [a9l,SV.bd]using h2⟩
end
mutual
def eqv:SV->SV->Prop
 | .tt, .tt=>True
 | .ff, .ff=>True
 | .tt, .bool b=>b=true
 | .ff, .bool b=>b=false
 | .bool b, .tt=>b=true
 | .bool b, .ff=>b=false
 | .bool a, .bool b=>a=b
 | .int k a, .int k' b=>match kEq k k' with
  | true=>a=b
  | false=>False
 | .flt k a, .flt k' b=>match a4c k k' with
  | true=>a=b
  | false=>False
 | .str a, .str b=>a=b
 | .ptr n o, .ptr n' o'=>match Nat.beq n n' with
  | true=>o=o'
  | false=>False
 | .nilp, .nilp=>True
 | .slc n o l c, .slc n' o' l' c'=>match Nat.beq n n' with
  | true=>o=o'/\l=l'/\c=c'
  | false=>False
 | .nils, .nils=>True
 | .slcc n l, .slcc n' l'=>match Nat.beq n n' with
  | true=>l=l'
  | false=>False
 | .agg a, .agg b=>a2v a b
 | .tup a, .tup b=>a2v a b
 | .ifc t v, .ifc t' v'=>match Nat.beq t t' with
  | true=>eqv v v'
  | false=>False
 | .nili, .nili=>True
 | .fn f a c, .fn f' a' c'=>f=f'/\a2v a a'/\a2v c c'
 | .nilf, .nilf=>True
 | _,_=>False
def a2v:List SV->List SV->Prop
 | [],[]=>True
 | x :: xs,y :: ys=>eqv x y/\a2v xs ys
 | _,_=>False
end
mutual
theorem a5h(ρ:Rho):∀(x y:SV),eqv x y->x.den ρ=y.den ρ
 | .slcc n l,y,h=>by
  cases y <;> simp only[eqv]at h
  split at h
  ·rename_i ht;have:=eB9 ht;subst this;simp[SV.den,h]
  ·exact h.elim
 | .agg a,y,h=>by cases y <;> simp only[eqv]at h;simp[SV.den,a1X ρ a _ h]
 | .tup a,y,h=>by cases y <;> simp only[eqv]at h;simp[SV.den,a1X ρ a _ h]
 | .ifc t v,y,h=>by
  cases y <;> simp only[eqv]at h
  split at h
  ·rename_i ht;have:=eB9 ht;subst this;simp[SV.den,a5h ρ v _ h]
  ·exact h.elim
 | .fn f a c,y,h=>by
  cases y <;> simp only[eqv]at h
  obtain⟨rfl,h1,h2⟩:=h;simp[SV.den,a1X ρ a _ h1,a1X ρ c _ h2]
 | .int k a,y,h=>by
  cases y <;> simp only[eqv]at h
  split at h
  ·rename_i ht;have:=a0a ht;subst this;simp[SV.den,h]
  ·exact h.elim
 | .flt k a,y,h=>by
  cases y <;> simp only[eqv]at h
  split at h
  ·rename_i ht;have:=P3 ht;subst this;simp[SV.den,h]
  ·exact h.elim
 | .ptr n o,y,h=>by
  cases y <;> simp only[eqv]at h
  split at h
  ·rename_i ht;have:=eB9 ht;subst this;simp[SV.den,h]
  ·exact h.elim
 | .slc n o l c,y,h=>by
  cases y <;> simp only[eqv]at h
  split at h
  ·rename_i ht;have:=eB9 ht;subst this;simp[SV.den,h]
  ·exact h.elim
 | .tt,y,h | .ff,y,h | .bool _,y,h | .str _,y,h | .nilp,y,h | .nils,y,h | .nili,y,h | .nilf,y,h | .sla _ _ _,y,h=>by
  cases y <;> simp_all[eqv,SV.den]
theorem a1X(ρ:Rho):∀(x y:List SV),a2v x y->p8 ρ x=p8 ρ y
 | [],y,h=>by cases y <;> simp_all[a2v]
 | x :: r,y,h=>by
  cases y with
  | nil=>simp[a2v]at h
  | cons u s=>simp only[a2v]at h;simp[p8,a5h ρ x u h.1,a1X ρ r s h.2]
end
def a6R:Nat->List SV->Slots
 | _,[]=>[]
 | i,v :: r=>(i,v) :: a6R (i+1) r
theorem a1M:∀(l:List SV)(i t:Nat),slot (a6R i l) t=if i<=t then l[t-i]? else none
 | [],i,t=>by simp[a6R,slot]
 | v :: r,i,t=>by
  simp only[a6R,F7,a1M r (i+1) t];by_cases h:i=t
  ·subst h;simp
  ·rw[if_neg h];by_cases h2:i<=t
   ·rw[if_pos h2,if_pos (by omega)];rw[show t-i=(t-(i+1))+1 by omega];simp
   ·rw[if_neg h2,if_neg (by omega)]
def A6(nt:Nat)(args:List SV)(H:A1)(N:Nat):St:={nt:=nt,sl:=a6R 0 args,H:=H,N:=N}
theorem a6P{W0:World}{Fr:Nat->Prop}{nt N:Nat}{args:List SV}{H:A1}{ρ:Rho}{w:World}(hH:HSat W0 Fr (·< N) H ρ w)(hb:bdL (·< N) args)(hl:args.length<=nt) :
  Sat W0 Fr (A6 nt args H N) ρ {tmps:=(p8 ρ args).toArray++Array.replicate (nt-(p8 ρ args).toArray.size) undef,defers:=[]} w where
 h:=hH
 s:={
  nd:=rfl
  size:=by simp[A4,A6];omega
  bd:=λt v hv=>by
   simp only[A6,a1M,Nat.zero_le,if_true,Nat.sub_zero]at hv;exact(G8 _ _).1 hb v (List.mem_of_getElem? hv)
  val:=λt v hv=>by
   simp only[A6,a1M,Nat.zero_le,if_true,Nat.sub_zero]at hv;obtain⟨h1,h2⟩:=List.getElem?_eq_some_iff.1 hv
   simp[A4,Array.getElem?_append,h1,h2]}
def a7m(T:Tys)(rs:List ResultVar)(K:St->SV->Prop)(S:St):Prop :=
 match b4Q T S rs with
 | some (vs,p)=>okK p (K S (a9l vs))
 | none=>False
def A8(T:Tys)(rs:List ResultVar)(K:St->SV->Prop)(e:Xt)(S:St):Prop :=
 match e with
 | .exit _=>False
 | _=>a7m T rs K S
theorem J5 {P:Program} {G:Ctx} (hG:B7 P G) {f:Nat} {fn:Func} {c:Code} (hf:P.funcs[f]? = some fn) (hb:fn.body=some c) (hnm:(fn.name == "runtime.NumGoroutine")=false) {F:PF}
  (h:∀ args v p,F args=some (v,p)->okP p->v.closed=true/\F0 args=true/\Nat.ble args.length fn.ntmps=true/\
   a0G G 0 c (A6 fn.ntmps args [] 0) (A8 G.E.T fn.results.toList λ_ v'=>eqv v' v)):E8 P f F:=by
 intro args v p hF hp;obtain⟨h1,h2,h3,h4⟩:=h args v p hF hp;refine⟨h1,λρ w=>.inl ⟨⟨fn,hf,hnm,by rw[hb];rfl⟩,?_⟩⟩;refine calls_of_wp hf hb ?_
 have hH:HSat w (·< w.heap.size) (·< 0) [] ρ w :=
  {os:=rfl,tape:=rfl,output:=rfl,size:=Nat.le_refl _,frlt:=λ_ h=>h,frame:=λ_ _=>rfl
   used:=λn o hn=>by simp[look]at hn
   bd:=λn o hn=>by simp[look]at hn
   obj:=λn o hn=>by simp[look]at hn
   inj:=λn m o o' p q hn=>by simp[look]at hn
   free:=λn o p hn=>by simp[look]at hn
   rawd:=λn o ts D sz F hn=>by simp[look]at hn}
 refine a6k hG (ρ0:=ρ) c h4 (a6P hH (I1 _ _ h2) (Nat.le_of_ble_eq_true h3)) (Nat.zero_le _) (λ_ _=>rfl) ?_;intro e S' ρ' a' w' hK hS hN hρ
 have fin:a7m G.E.T fn.results.toList (λ_ v'=>eqv v' v) S'->a'.defers=[]/\∃ u,(results fn a'.tmps).run P w'=.ok u w'/\(Ending.returned u=.returned (v.den ρ)/\Below w.heap.size w w'):=by
  intro hr;unfold a7m at hr;split at hr
  ·rename_i vs q hvs;obtain⟨hq,he⟩:=U7 hr;obtain⟨h5,h6⟩:=a2N hG.E.T hS hvs hq;refine⟨hS.s.nd,_,h5,?_,⟨hS.h.os,hS.h.tape,hS.h.output,hS.h.size,λk hk=>hS.h.frame k hk⟩⟩;rw[a5h ρ' _ _ he,SV.den_closed ρ ρ' h1]
  ·exact hr.elim
 cases e with
 | normal=>exact fin hK
 | ret=>exact fin hK
 | exit id=>exact hK.elim
end Go.Sx
