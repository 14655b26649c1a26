/- Parts of a proof, in order: what each says stands at its head. No conditions. -/
import Derived.ArgAppend
import Derived.KernelRfl
import Derived.Test.YtfhkmkhcofodmaaGreatM4
import Derived.Test.YtfhkmkhcofodmaaGreatM1
import Derived.Test.YtfhkmkhcofodmaaGreatM2
import Derived.Test.YtfhkmkhcofodmaaGreatM3
namespace Go.Sx
open Go.RowKit
def j7:Value->Nat
 | .float _ b=>b
 | _=>0
def q8:Value->Int
 | .int _ n=>n
 | _=>0
def a0f:Value->Bool
 | .bool b=>b
 | _=>false
def ptB:Value->Nat
 | .pointer (some a)=>a.block
 | _=>0
def ptC:Value->Nat
 | .pointer (some a)=>a.off
 | _=>0
def slB:Value->Nat
 | .slice (some a) _ _=>a.block
 | _=>0
def slC:Value->Nat
 | .slice (some a) _ _=>a.off
 | _=>0
def slL:Value->Nat
 | .slice _ l _=>l
 | _=>0
def slK:Value->Nat
 | .slice _ _ k=>k
 | _=>0
def K0:Value->Value
 | .iface _ v=>v
 | v=>v
def z3(k:FloatKind)(v:Value):Prop:=v=.float k (j7 v)
def C4(k:IntKind)(v:Value):Prop:=v=.int k (q8 v)
def b0o(v:Value):Prop:=v=.bool (a0f v)
def a1e(v:Value):Prop:=v=.pointer (some ⟨ptB v,ptC v,none⟩)
def isSl(v:Value):Prop:=v=.slice (some ⟨slB v,slC v,none⟩) (slL v) (slK v)
def isSlN(v:Value):Prop:=v=.slice none 0 0∨isSl v
def a2s(t:Nat)(v:Value):Prop:=v=.iface t (K0 v)
def R8:Value->Bool
 | .nilIface=>true
 | .pointer none=>true
 | _=>false
def a7E(v:Value):Prop:=v=.nilIface∨∃ t x,v=.iface t x
def a3l(v:Value):Prop:=v=.pointer none∨∃ a,v=.pointer (some a)
def dvs(n:Nm)(F:Nat->Nat->Value)(b:Nat):Nat->Nat->List SV
 | _,0=>[]
 | c,k+1=>.dv n (F b c) :: dvs n F b (c+1) k
def fvs(F:Nat->Nat->Value)(b:Nat):Nat->Nat->List Value
 | _,0=>[]
 | c,k+1=>F b c :: fvs F b (c+1) k
theorem a5q(F:Nat->Nat->Value)(b:Nat):∀ k c,(fvs F b c k).length=k
 | 0,_=>rfl
 | k+1,c=>by simp[fvs,a5q F b k]
theorem a5i(F:Nat->Nat->Value)(b:Nat):∀ k c j v,(fvs F b c k)[j]? = some v->j<k/\v=F b (c+j)
 | 0,_,j,v,h=>by simp[fvs]at h
 | k+1,c,0,v,h=>by simp[fvs]at h;exact⟨by omega,h.symm⟩
 | k+1,c,j+1,v,h=>by
  simp only[fvs,List.getElem?_cons_succ]at h;obtain⟨h1,h2⟩:=a5i F b k (c+1) j v h;exact⟨by omega,by rw[h2];congr 1;omega⟩
theorem b4h(ρ:Rho)(n:Nm)(F:Nat->Nat->Value)(b:Nat):∀ k c,(∀ j,j<k->(F b (c+j)).oneCell'=true)->w5 ρ (dvs n F b c k)=fvs F b c k
 | 0,_,_=>rfl
 | k+1,c,h=>by
  have h0:=h 0 (by omega);simp only[Nat.add_zero]at h0;simp only[dvs,fvs,w5,SV.den,h0,if_true]
  rw[b4h ρ n F b k (c+1) (λj hj=>by
   have:=h (j+1) (by omega)
   rwa [show c+(j+1)=c+1+j by omega]at this)]
theorem b7M{U:Nm->Prop}{n:Nm}(hU:U n)(F:Nat->Nat->Value)(b:Nat):∀ k c,bdL U (dvs n F b c k)
 | 0,_=>trivial
 | k+1,c=>⟨hU,b7M hU F b k (c+1)⟩
def a1c:SV->Option (Value×Option Prop)
 | .tt=>some (.bool true,none)
 | .ff=>some (.bool false,none)
 | .bool b=>some (.bool b,none)
 | .int k n=>some (.int k n,none)
 | .flt k n=>some (.float k n,none)
 | .nilp=>some (.pointer none,none)
 | .nils=>some (.slice none 0 0,none)
 | .nili=>some (.nilIface,none)
 | .pb _ b c=>some (.pointer (some ⟨b,c,none⟩),none)
 | .slb _ b c l k=>some (.slice (some ⟨b,c,none⟩) l k,none)
 | .dv _ v=>some (v,some (v.oneCell'=true))
 | .ifc t v=>match a1c v with
  | some (x,p)=>some (.iface t x,p)
  | none=>none
 | _=>none
theorem a7y(ρ:Rho):∀ {s:SV} {v:Value} {p:Option Prop},a1c s=some (v,p)->okP p->s.den ρ=v
 | .ifc t u,v,p,h,hp=>by
  simp only[a1c]at h;split at h
  ·rename_i x q hx;simp only[oI9,pI9]at h;obtain⟨rfl,rfl⟩:=h;simp[SV.den,a7y ρ hx hp]
  ·cases h
 | .dv n u,v,p,h,hp=>by
  simp only[a1c,oI9,pI9]at h;obtain⟨rfl,rfl⟩:=h;simp only[SV.den];exact if_pos hp
 | .tt,v,p,h,_ | .ff,v,p,h,_ | .bool _,v,p,h,_ | .int _ _,v,p,h,_ | .flt _ _,v,p,h,_ | .nilp,v,p,h,_ | .nils,v,p,h,_ | .nili,v,p,h,_ | .pb _ _ _,v,p,h,_ | .slb _ _ _ _ _,v,p,h,_=>by
  simp only[a1c,oI9,pI9]at h;obtain⟨rfl,rfl⟩:=h;rfl
 | .str _,_,_,h,_ | .ptr _ _,_,_,h,_ | .slc _ _ _ _,_,_,h,_ | .slcc _ _,_,_,h,_ | .agg _,_,_,h,_ | .tup _,_,_,h,_ | .fn _ _ _,_,_,h,_ | .nilf,_,_,h,_ | .sla _ _ _,_,_,h,_=>by simp[a1c]at h
theorem b4w:∀ {s:SV} {v:Value} {p:Option Prop},a1c s=some (v,p)->okP p->v.oneCell'=true
 | .ifc t u,v,p,h,hp=>by
  simp only[a1c]at h;split at h
  ·simp only[oI9,pI9]at h;obtain⟨rfl,rfl⟩:=h;rfl
  ·cases h
 | .dv n u,v,p,h,hp=>by
  simp only[a1c,oI9,pI9]at h;obtain⟨rfl,rfl⟩:=h;exact hp
 | .tt,v,p,h,_ | .ff,v,p,h,_ | .bool _,v,p,h,_ | .int _ _,v,p,h,_ | .flt _ _,v,p,h,_ | .nilp,v,p,h,_ | .nils,v,p,h,_ | .nili,v,p,h,_ | .pb _ _ _,v,p,h,_ | .slb _ _ _ _ _,v,p,h,_=>by
  simp only[a1c,oI9,pI9]at h;obtain⟨rfl,rfl⟩:=h;rfl
 | .str _,_,_,h,_ | .ptr _ _,_,_,h,_ | .slc _ _ _ _,_,_,h,_ | .slcc _ _,_,_,h,_ | .agg _,_,_,h,_ | .tup _,_,_,h,_ | .fn _ _ _,_,_,h,_ | .nilf,_,_,h,_ | .sla _ _ _,_,_,h,_=>by simp[a1c]at h
def a1o:List SV->Option Prop->Option (List Value×Option Prop)
 | [],p=>some ([],p)
 | s :: r,p=>match a1c s with
  | some (v,q)=>match a1o r (match q with|some q=>a2O p q|none=>p)with
   | some (vs,p')=>some (v :: vs,p')
   | none=>none
  | none=>none
theorem Z9(ρ:Rho):∀ {l:List SV} {p q:Option Prop} {vs:List Value},a1o l p=some (vs,q)->okP q->okP p/\w5 ρ l=vs/\∀ v∈vs,v.oneCell'=true
 | [],p,q,vs,h,hq=>by
  simp only[a1o,oI9,pI9]at h;obtain⟨rfl,rfl⟩:=h;exact⟨hq,rfl,by simp⟩
 | s :: r,p,q,vs,h,hq=>by
  simp only[a1o]at h;split at h
  ·rename_i v q' hv;split at h
   ·rename_i vs' p' hvs;simp only[oI9,pI9]at h;obtain⟨rfl,rfl⟩:=h;obtain⟨h1,h2,h3⟩:=Z9 ρ hvs hq
    have h4:okP p/\okP q':=by
     cases q' with
     | none=>exact⟨h1,trivial⟩
     | some x=>exact W4 h1
    refine⟨h4.1,by simp[w5,a7y ρ hv h4.2,h2],λu hu=>?_⟩;rcases List.mem_cons.1 hu with rfl|hu
    ·exact b4w hv h4.2
    ·exact h3 u hu
   ·cases h
  ·cases h
def a3T(F:Nat->Nat->Value)(b:Nat):Nat->List Value->Nat->Nat->Value
 | _,[]=>F
 | c,v :: r=>a3T (j6 F b c v) b (c+1) r
section
variable {P:Program} {W0:World} {Fr:Nat->Prop} {U:Nm->Prop} {H:z7} {ρ:Rho} {w:World} {nm:Nm}
def rLd(T:Tys)(rd:Nm->Option Ob)(t:Nat)(x:SV):Option Eff :=
 match x with
 | .pb n b c=>match ty T t with
  | some ti=>match rd n with
   | some ⟨true,_, .raw _ D sz F,_⟩=>match ti.isAgg with
    | true=>match Nat.ble 1 ti.size with
     | true=>some ⟨some (.agg (dvs n F b c ti.size)),[],[],[n],some (D b/\c+ti.size<=sz b)⟩
     | false=>none
    | false=>match ti.tk with
     | .flt k=>some ⟨some (.flt k (j7 (F b c))),[],[],[n],some (D b/\c<sz b/\z3 k (F b c))⟩
     | .int k=>some ⟨some (.int k (q8 (F b c))),[],[],[n],some (D b/\c<sz b/\C4 k (F b c))⟩
     | .bool=>some ⟨some (.bool (a0f (F b c))),[],[],[n],some (D b/\c<sz b/\b0o (F b c))⟩
     | _=>some ⟨some (.dv n (F b c)),[],[],[n],some (D b/\c<sz b)⟩
   | _=>none
  | none=>none
 | _=>none
theorem b5f{T:Tys}(hT:TysOk P T)(hH:HSat W0 Fr U H ρ w){t:Nat}{x:SV}{e:Eff}(h:rLd T (look H) t x=some e)(ho:okP e.obl) :
  z9 W0 Fr U H ρ nm e ((do pure (.value (<-Instr.loadAt t (x.den ρ))):Sem Next).run P w):=by
 unfold rLd at h;split at h
 ·rename_i n b c;split at h
  ·rename_i ti hti;split at h
   ·rename_i el ts D sz F es hob;have hU:=hH.used n _ hob;split at h
    ·rename_i hag;split at h
     ·rename_i hsz;simp only[oI9]at h;subst h;obtain⟨hD,hle⟩:=ho
      have hc:∀ j,j<ti.size->w.cell? ⟨b,c+j,none⟩=some (F b (c+j))/\(F b (c+j)).oneCell'=true:=λj hj=>by
       obtain⟨h1,h2,_⟩:=hH.rawCell hob rfl rfl hD (c:=c+j) (by omega);exact⟨h1,h2⟩
      refine z9.same hH (v:=.agg (dvs n F b c ti.size)) (b7M hU F b _ _) ?_
      have:=U6 (P:=P) (w:=w) (b:=b) (o:=c) (fvs F b c ti.size) (λj u hu=>by
       obtain⟨h1,h2⟩:=a5i F b _ _ _ _ hu
       rw[h2];exact(hc j h1).1)
      rw[a5q]at this;simp[SV.den,Instr.loadAt,Instr.sureAddr,loadVar,(hT t ti hti).isAgg' w,hag,(hT t ti hti).run_size w,this,b4h ρ n F b ti.size c (λj hj=>(hc j hj).2)]
     ·cases h
    ·rename_i hag
     have main:∀ v:SV,D b->c<sz b->v.bd U->v.den ρ=F b c->z9 W0 Fr U H ρ nm ⟨some v,[],[],[n],e.obl⟩ ((do pure (.value (<-Instr.loadAt t ((SV.pb n b c).den ρ))):Sem Next).run P w):=by
      intro v hD hlt hv hden;obtain⟨h1,h2,_⟩:=hH.rawCell hob rfl rfl hD hlt;refine z9.same hH (v:=v) hv ?_;simp[SV.den,Instr.loadAt,Instr.sureAddr,loadVar,(hT t ti hti).isAgg' w,hag,run_load,h1,hden]
     split at h
     ·simp only[oI9]at h;subst h;obtain⟨h1,h2,h3⟩:=ho;exact main _ h1 h2 trivial h3.symm
     ·simp only[oI9]at h;subst h;obtain⟨h1,h2,h3⟩:=ho;exact main _ h1 h2 trivial h3.symm
     ·simp only[oI9]at h;subst h;obtain⟨h1,h2,h3⟩:=ho;exact main _ h1 h2 trivial h3.symm
     ·simp only[oI9]at h;subst h;obtain⟨h1,h2⟩:=ho;refine main (.dv n (F b c)) h1 h2 hU ?_;obtain⟨_,h4,_⟩:=hH.rawCell hob rfl rfl h1 h2;simp[SV.den,h4]
   ·cases h
  ·cases h
 ·cases h
def rSt(T:Tys)(rd:Nm->Option Ob)(t:Nat)(x v:SV):Option Eff :=
 match x with
 | .pb n b c=>match ty T t with
  | some ti=>match Nat.beq v.cells.length ti.size with
   | true=>match rd n with
    | some ⟨true,el, .raw ts D sz F,es⟩=>match a1o v.cells (some (D b/\c+ti.size<=sz b))with
     | some (vs,p)=>some ⟨none,[(n,⟨true,el, .raw ts D sz (a3T F b c vs),es⟩)],[],[n],p⟩
     | none=>none
    | _=>none
   | false=>none
  | none=>none
 | _=>none
theorem a0N{n:Nm}{el es:Nat}{ts:List Nat}{D:Nat->Prop}{sz:Nat->Nat}{b:Nat}(hD:D b):∀(vs:List Value)(F:Nat->Nat->Value) {H:z7} {w:World},HSat W0 Fr U H ρ w->look H n=some ⟨true,el, .raw ts D sz F,es⟩->
  ∀(base i:Nat),base+i+vs.length<=sz b->(∀ v∈vs,v.oneCell'=true)->
  ∃ w',(storeCells ⟨b,base,none⟩ vs i).run P w=.ok () w'/\HSat W0 Fr U ((n,⟨true,el, .raw ts D sz (a3T F b (base+i) vs),es⟩) :: H) ρ w'
 | [],F,H,w,hH,hn,base,i,_,_=>by
  refine⟨w,by simp[storeCells],hH.lookEq λm=>?_⟩;rw[g8];split
  ·rename_i e;subst e;exact hn.symm
  ·rfl
 | v :: r,F,H,w,hH,hn,base,i,hle,hone=>by
  simp only[List.length_cons]at hle;have hlt:base+i<sz b:=by omega
  have hv:=hone v (by simp);obtain⟨hc,_,hfz⟩:=hH.rawCell hn rfl rfl hD hlt;have hs:=hH.rawStore hn rfl rfl hD hlt hv;obtain⟨w',hrun,hH'⟩:=a0N hD r (j6 F b (base+i) v) hs (by rw[g8,if_pos rfl]) base (i+1) (by omega) (λu hu=>hone u (by simp[hu]));refine⟨w',?_,hH'.lookEq λm=>?_⟩
  ·simp only[storeCells,Sem.run_bind,Addr.add_lit];rw[run_store P w _ _ _ hv,hc];simp[hfz,hrun]
  ·simp only[g8];split <;> simp[a3T,Nat.add_assoc]
theorem b4O{T:Tys}(hT:TysOk P T)(hH:HSat W0 Fr U H ρ w){t:Nat}{x v:SV}{e:Eff}(h:rSt T (look H) t x v=some e)(ho:okP e.obl) :
  z9 W0 Fr U H ρ nm e ((do Instr.storeAt t (x.den ρ) (v.den ρ);pure .skip:Sem Next).run P w):=by
 unfold rSt at h;split at h
 ·rename_i n b c;split at h
  ·rename_i ti hti;split at h
   ·rename_i hlen;have hl:=eB9 hlen;split at h
    ·rename_i el ts D sz F es hob;split at h
     ·rename_i vs p hvs;simp only[oI9]at h;subst h;obtain⟨⟨hD,hle⟩,hden,hone⟩:=Z9 ρ hvs ho;have hvl:vs.length=ti.size:=by rw[<-hden,A4,List.length_map,hl]
      obtain⟨w',hrun,hH'⟩:=a0N (P:=P) hD vs F hH hob c 0 (by omega) hone;refine⟨ρ,w',λ_ _=>rfl,by simpa using hH'.mono a0Y,?_⟩;simp only[SV.den,Instr.storeAt,Instr.sureAddr,storeVar,Sem.run_bind,Sem.run_pure,Result.andThen_ok,(hT t ti hti).run_size w,SV.den_cells,hden];simp[hvl,hrun]
     ·cases h
    ·cases h
   ·cases h
  ·cases h
 ·cases h
def rFA(T:Tys)(s:Nat)(x:SV)(i:Nat):Option Eff :=
 match x with
 | .pb n b c=>match ty T s with
  | some {tk:=.struct fs, ..}=>match nth fs i with
   | some (o,e)=>match ty T e with
    | some te=>match Nat.ble 1 te.size with
     | true=>some ⟨some (.pb n b (c+o)),[],[],[],none⟩
     | false=>none
    | none=>none
   | none=>none
  | _=>none
 | _=>none
theorem b4H{T:Tys}(hT:TysOk P T)(hH:HSat W0 Fr U H ρ w){s:Nat}{x:SV}(hx:x.bd U){i:Nat}{e:Eff}(h:rFA T s x i=some e) :
  z9 W0 Fr U H ρ nm e ((do pure (.value (<-Instr.fieldAt s (x.den ρ) i)):Sem Next).run P w):=by
 unfold rFA at h;split at h
 ·rename_i n b c;split at h
  ·rename_i fs _ _ _ hti;split at h
   ·rename_i o el hf;split at h
    ·rename_i te hte;split at h
     ·rename_i hsz;simp only[oI9]at h;subst h;obtain⟨d,f,h1,h2,rfl,rfl⟩:=a0G (hT s _ hti) rfl hf;refine z9.same hH (v:=.pb n b (c+f.offset)) hx ?_;have hz:te.size≠0:=by have:=Nat.le_of_ble_eq_true hsz;omega
      simp[Instr.fieldAt,run_underlying h1,h2,Instr.sureAddr,SV.den,fieldPlace,(hT _ te hte).run_size w,hz,Addr.add_lit]
     ·cases h
    ·cases h
   ·cases h
  ·cases h
 ·cases h
def rIA(T:Tys)(t:Nat)(x ix:SV):Option Eff :=
 match ix with
 | .int _ i=>match x with
  | .pb n b c=>match ty T t with
   | some {tk:=.array len e, ..}=>match ty T e with
    | some te=>some ⟨some (.pb n b (c+i.toNat*te.size)),[],[],[],some (0<=i/\i<(len:Int))⟩
    | none=>none
   | _=>none
  | .slb n b c len _=>match ty T t with
   | some {tk:=.slice e, ..}=>match ty T e with
    | some te=>some ⟨some (.pb n b (c+i.toNat*te.size)),[],[],[],some (0<=i/\i<(len:Int))⟩
    | none=>none
   | _=>none
  | .dv n v=>match ty T t with
   | some {tk:=.slice e, ..}=>match ty T e with
    | some te=>some ⟨some (.pb n (slB v) (slC v+i.toNat*te.size)),[],[],[],some (isSl v/\0<=i/\i<(slL v:Int))⟩
    | none=>none
   | _=>none
  | _=>none
 | _=>none
theorem a6I{v:Value}(h:isSl v):v.oneCell'=true:=by rw[h];rfl
theorem b0v{v:Value}(h:a1e v):v.oneCell'=true:=by rw[h];rfl
theorem b5g{T:Tys}(hT:TysOk P T)(hH:HSat W0 Fr U H ρ w){t:Nat}{x ix:SV}(hx:x.bd U){e:Eff}(h:rIA T t x ix=some e)(ho:okP e.obl) :
  z9 W0 Fr U H ρ nm e ((do pure (.value (<-Instr.indexAt t (x.den ρ) (ix.den ρ))):Sem Next).run P w):=by
 unfold rIA at h;split at h
 ·rename_i k i;split at h
  ·rename_i n b c;split at h
   ·rename_i len el _ _ _ hti;split at h
    ·rename_i te hte;simp only[oI9]at h;subst h;obtain⟨d,hd,hd2⟩:=(hT t _ hti).desc;cases d <;> simp only[H7,TK.array.injEq,reduceCtorEq]at hd2
     obtain⟨rfl,rfl⟩:=hd2;have ho1:0<=i/\i<_:=ho;refine z9.same hH (v:=.pb n b (c+i.toNat*te.size)) hx ?_;simp[Instr.indexAt,run_underlying hd,Instr.sureAddr,SV.den,asIntOf,(hT _ te hte).run_size w,ho1,Addr.add_lit]
    ·cases h
   ·cases h
  ·rename_i n b c len cap;split at h
   ·rename_i el _ _ _ _ hti;split at h
    ·rename_i te hte;simp only[oI9]at h;subst h;obtain⟨d,hd,hd2⟩:=(hT t _ hti).desc;cases d <;> simp only[H7,TK.slice.injEq,reduceCtorEq]at hd2
     subst hd2;have ho1:0<=i/\i<_:=ho;refine z9.same hH (v:=.pb n b (c+i.toNat*te.size)) hx ?_;simp[Instr.indexAt,run_underlying hd,SV.den,asIntOf,(hT _ te hte).run_size w,ho1,Addr.add_lit]
    ·cases h
   ·cases h
  ·rename_i n v;split at h
   ·rename_i el _ _ _ _ hti;split at h
    ·rename_i te hte;simp only[oI9]at h;subst h;obtain⟨d,hd,hd2⟩:=(hT t _ hti).desc;cases d <;> simp only[H7,TK.slice.injEq,reduceCtorEq]at hd2
     subst hd2;obtain⟨hsl,ho1⟩:isSl v/\0<=i/\i<_:=ho;refine z9.same hH (v:=.pb n (slB v) (slC v+i.toNat*te.size)) hx ?_;simp only[SV.den,a6I hsl,if_true];rw[show Instr.indexAt t v (.int k i)=Instr.indexAt t (.slice (some ⟨slB v,slC v,none⟩) (slL v) (slK v)) (.int k i)from congrArg (λx=>Instr.indexAt t x (.int k i)) hsl];simp[Instr.indexAt,run_underlying hd,asIntOf,(hT _ te hte).run_size w,ho1,Addr.add_lit]
    ·cases h
   ·cases h
  ·cases h
 ·cases h
def b1X(T:Tys)(t:Nat)(x:SV)(lo hi mx:Option SV):Option Eff :=
 match x,lo,hi,mx with
 | .pb n b c,none,none,none=>match ty T t with
  | some {tk:=.array m el, ..}=>match ty T el with
   | some _=>some ⟨some (.slb n b c m m),[],[],[],none⟩
   | none=>none
  | _=>none
 | .slb n b c len cap,some (.int _ i),none,none=>match ty T t with
  | some {tk:=.slice el, ..}=>match ty T el with
   | some te=>some ⟨some (.slb n b (c+i.toNat*te.size) (len-i.toNat) (cap-i.toNat)),[],[],[],some (0<=i/\i.toNat<=len/\i.toNat<cap)⟩
   | none=>none
  | _=>none
 | _,_,_,_=>none
theorem a8z{T:Tys}(hT:TysOk P T)(hH:HSat W0 Fr U H ρ w){t:Nat}{x:SV}(hx:x.bd U){lo hi mx:Option SV}{e:Eff}(h:b1X T t x lo hi mx=some e)(ho:okP e.obl) :
  z9 W0 Fr U H ρ nm e ((do pure (.value (<-Instr.sliceAt t (x.den ρ) (lo.map (SV.den ρ)) (hi.map (SV.den ρ)) (mx.map (SV.den ρ)))):Sem Next).run P w):=by
 unfold b1X at h;split at h
 ·rename_i n b c;split at h
  ·rename_i m el _ _ _ _ hti;split at h
   ·rename_i te hte;simp only[oI9]at h;subst h;obtain⟨d,hd,hd2⟩:=(hT t _ hti).desc;cases d <;> simp only[H7,TK.array.injEq,reduceCtorEq]at hd2
    obtain⟨hd3,hd4⟩:=hd2;subst hd3 hd4;refine z9.same hH (v:=.slb n b c _ _) hx ?_;simp[Instr.sliceAt,Sem.run_bind,run_underlying hd,Instr.sureAddr,Instr.sliceBounds,SV.den,(hT _ te hte).run_size w,Addr.add]
   ·cases h
  ·cases h
 ·rename_i n b c len cap k i;split at h
  ·rename_i el _ _ _ _ hti;split at h
   ·rename_i te hte;simp only[oI9]at h;subst h;obtain⟨h0,h1,h2⟩:=ho;obtain⟨d,hd,hd2⟩:=(hT t _ hti).desc;cases d <;> simp only[H7,TK.slice.injEq,reduceCtorEq]at hd2
    subst hd2;refine z9.same hH (v:=.slb n b (c+i.toNat*te.size) (len-i.toNat) (cap-i.toNat)) hx ?_
    have hbounds:(Instr.sliceBounds true len cap (some (.int k i)) none none).run P w=.ok (i.toNat,len,cap) w:=by
     have:i<=(len:Int):=by omega
     simp[Instr.sliceBounds,Instr.sliceBound,asIntOf,h0,this]
    simp only[Instr.sliceAt,Sem.run_bind,run_underlying hd,Result.andThen_ok,Instr.slice,SV.den,Option.map_none,Option.map_some,hbounds,(hT _ te hte).run_size w,Sem.run_pure];rw[if_neg (by omega)];simp[Addr.add_lit]
   ·cases h
  ·cases h
 ·cases h
def c3l(x:SV):Option Eff :=
 match x with
 | .pb n b c=>some ⟨some (.pb n b c),[],[],[],none⟩
 | .dv n v=>some ⟨some (.pb n (ptB v) (ptC v)),[],[],[],some (a1e v)⟩
 | _=>none
theorem b1v(hH:HSat W0 Fr U H ρ w){x:SV}(hx:x.bd U){e:Eff}(h:c3l x=some e)(ho:okP e.obl){ev:Operand->Value}{o:Oper}{y:Operand}(hop:o.op=.nilCheck y)(hy:ev y=x.den ρ) :
  z9 W0 Fr U H ρ nm e ((execOp ev o).run P w):=by
 obtain⟨dst,op,ty',pos,after,guard⟩:=o;simp only at hop;subst hop;unfold c3l at h;split at h
 ·rename_i n b c;simp only[oI9]at h;subst h;refine z9.same hH (v:=.pb n b c) hx ?_;simp[execOp,hy,SV.den]
 ·rename_i n v;simp only[oI9]at h;subst h;have ho:a1e v:=ho;refine z9.same hH (v:=.pb n (ptB v) (ptC v)) hx ?_;have:(SV.dv n v).den ρ=.pointer (some ⟨ptB v,ptC v,none⟩):=by simp only[SV.den,b0v ho,if_true];exact ho
  simp only[execOp,hy,this];simp[SV.den]
 ·cases h
def a8J(T:Tys)(x:SV)(asserted:Nat)(ok:Bool):Option Eff :=
 match x,ok with
 | .dv n v,false=>match ty T asserted with
  | some {tk:=.ptr _, ..}=>some ⟨some (.pb n (ptB (K0 v)) (ptC (K0 v))),[],[],[],some (a2s asserted v/\a1e (K0 v))⟩
  | some {tk:=.int k, ..}=>some ⟨some (.int k (q8 (K0 v))),[],[],[],some (a2s asserted v/\C4 k (K0 v))⟩
  | _=>none
 | _,_=>none
theorem a7p{T:Tys}(hT:TysOk P T)(hH:HSat W0 Fr U H ρ w){xt asserted:Nat}{x:SV}(hx:x.bd U){ok:Bool}{e:Eff}(h:a8J T x asserted ok=some e)(ho:okP e.obl) :
  z9 W0 Fr U H ρ nm e ((do pure (.value (<-Instr.typeAssert (x.den ρ) xt asserted ok)):Sem Next).run P w):=by
 unfold a8J at h;split at h
 ·rename_i n v;have one:a2s asserted v->(SV.dv n v).den ρ=v:=λh=>by simp only[SV.den];rw[if_pos (by rw[h];rfl)]
  split at h
  ·rename_i el _ _ _ _ hti;simp only[oI9]at h;subst h;obtain⟨h1,h2⟩:a2s asserted v/\a1e (K0 v):=ho;obtain⟨d,hd,hd2⟩:=(hT asserted _ hti).desc;cases d <;> simp only[H7,TK.ptr.injEq,reduceCtorEq]at hd2
   refine z9.same hH (v:=.pb n (ptB (K0 v)) (ptC (K0 v))) hx ?_;rw[one h1,show Instr.typeAssert v xt asserted false=Instr.typeAssert (.iface asserted (K0 v)) xt asserted false from congrArg (λx=>Instr.typeAssert x xt asserted false) h1];simp only[Instr.typeAssert,Sem.run_bind,run_underlying hd,Result.andThen_ok,Sem.run_pure];simp[SV.den];exact h2
  ·rename_i k _ _ _ _ hti;simp only[oI9]at h;subst h;obtain⟨h1,h2⟩:a2s asserted v/\C4 k (K0 v):=ho;obtain⟨d,hd,hd2⟩:=(hT asserted _ hti).desc;cases d <;> simp only[H7,TK.int.injEq,reduceCtorEq]at hd2
   refine z9.same hH (v:=.int k (q8 (K0 v))) trivial ?_;rw[one h1,show Instr.typeAssert v xt asserted false=Instr.typeAssert (.iface asserted (K0 v)) xt asserted false from congrArg (λx=>Instr.typeAssert x xt asserted false) h1];simp only[Instr.typeAssert,Sem.run_bind,run_underlying hd,Result.andThen_ok,Sem.run_pure];simp[SV.den];exact h2
  ·cases h
 ·cases h
def rEq(T:Tys)(op:BinOp)(t:Nat)(x y:SV):Option Eff :=
 match x,y with
 | .dv _ v, .nili=>match ty T t with
  | some {tk:=.iface, ..}=>match b1Q op (R8 v)with
   | some (r,_)=>some ⟨some r,[],[],[],some (a7E v)⟩
   | none=>none
  | _=>none
 | .dv _ v, .nilp=>match ty T t with
  | some {tk:=.ptr _, ..}=>match b1Q op (R8 v)with
   | some (r,_)=>some ⟨some r,[],[],[],some (a3l v)⟩
   | none=>none
  | _=>none
 | .pb _ _ _, .nilp=>match ty T t with
  | some {tk:=.ptr _, ..}=>match a4O op false with
   | some (r,_)=>some ⟨some r,[],[],[],none⟩
   | none=>none
  | _=>none
 | .slb _ _ _ _ _, .nils=>match ty T t with
  | some {tk:=.slice _, ..}=>match a4O op false with
   | some (r,_)=>some ⟨some r,[],[],[],none⟩
   | none=>none
  | _=>none
 | _,_=>none
theorem b4y{T:Tys}(hT:TysOk P T)(hH:HSat W0 Fr U H ρ w){op:BinOp}{t:Nat}{xo yo:Operand}{x y:SV}{e:Eff}(h:rEq T op t x y=some e)(ho:okP e.obl)(hyo:R4 yo=true) :
  z9 W0 Fr U H ρ nm e ((((do eqGuard op t xo yo (x.den ρ) (y.den ρ);binOp op t (x.den ρ) (y.den ρ)):Sem Value) >>= λv=>(pure (.value v):Sem Next)).run P w):=by
 unfold rEq at h;split at h
 ·rename_i n v;split at h
  ·rename_i _ _ _ _ hti;obtain⟨d,hd,hk⟩:=(hT t _ hti).desc;cases d <;> simp only[H7,reduceCtorEq]at hk
   split at h
   ·rename_i r o' hr;simp only[oI9]at h;subst h;have ho:a7E v:=ho
    have hden:(SV.dv n v).den ρ=v:=by
     simp only[SV.den];rcases ho with rfl|⟨u,z,rfl⟩ <;> simp[Value.oneCell']
    rw[hden];rcases ho with rfl|⟨u,z,rfl⟩
    ·have hg:(eqGuard op t xo yo .nilIface .nilIface).run P w=.ok () w:=by
      cases yo <;> simp[R4]at hyo
      cases xo <;> cases op <;> simp[eqGuard]
     obtain⟨h1,h2⟩:=O3 (P:=P) w ρ hr (t:=t) (x:=.nilIface) (y:=.nilIface) (by simp) (by simp) (by simp) (by simp) (R6 w hd);refine z9.same hH (SV.bd_closed U _ h2) ?_;simp only[SV.den,Sem.run_bind,hg,Result.andThen_ok,h1,Sem.run_pure]
    ·have hg:(eqGuard op t xo yo (.iface u z) .nilIface).run P w=.ok () w:=by rw[eqGuard_at_iface];rfl
     obtain⟨h1,h2⟩:=O3 (P:=P) w ρ hr (t:=t) (x:=.iface u z) (y:=.nilIface) (by simp) (by simp) (by simp) (by simp) (L9 w hd u z);refine z9.same hH (SV.bd_closed U _ h2) ?_;simp only[SV.den,Sem.run_bind,hg,Result.andThen_ok,h1,Sem.run_pure]
   ·cases h
  ·cases h
 ·rename_i n v;split at h
  ·rename_i el _ _ _ _ hti;obtain⟨d,hd,hk⟩:=(hT t _ hti).desc;cases d <;> simp only[H7,TK.ptr.injEq,reduceCtorEq]at hk
   split at h
   ·rename_i r o' hr;simp only[oI9]at h;subst h;have ho:a3l v:=ho
    have hden:(SV.dv n v).den ρ=v:=by
     simp only[SV.den];rcases ho with rfl|⟨u,rfl⟩ <;> simp[Value.oneCell']
    rw[hden]
    have hg:(eqGuard op t xo yo v (SV.nilp.den ρ)).run P w=.ok () w:=by
     rcases ho with rfl|⟨u,rfl⟩ <;> simp only[SV.den] <;> rw[eqGuard_at_pointer] <;> rfl
    have he:(Op.equal t v (SV.nilp.den ρ)).run P w=.ok (R8 v) w:=by
     rcases ho with rfl|⟨u,rfl⟩ <;> simp only[SV.den,R8] <;> rw[K8] <;> unfold Op.equalIn <;> simp[Sem.run_bind,run_underlying hd,Result.andThen_ok,Sem.run_pure]
    obtain⟨h1,h2⟩:=O3 (P:=P) w ρ hr (t:=t) (x:=v) (y:=SV.nilp.den ρ) (by rcases ho with rfl|⟨u,rfl⟩ <;> simp) (by rcases ho with rfl|⟨u,rfl⟩ <;> simp) (by rcases ho with rfl|⟨u,rfl⟩ <;> simp) (by rcases ho with rfl|⟨u,rfl⟩ <;> simp) he;refine z9.same hH (SV.bd_closed U _ h2) ?_;simp only[Sem.run_bind,hg,Result.andThen_ok,h1,Sem.run_pure]
   ·cases h
  ·cases h
 ·rename_i n b c;split at h
  ·rename_i el _ _ _ _ hti;obtain⟨d,hd,hk⟩:=(hT t _ hti).desc;cases d <;> simp only[H7,TK.ptr.injEq,reduceCtorEq]at hk
   split at h
   ·rename_i r o' hr;simp only[oI9]at h;subst h;have hg:(eqGuard op t xo yo ((SV.pb n b c).den ρ) (SV.nilp.den ρ)).run P w=.ok () w:=by simp only[SV.den];rw[eqGuard_at_pointer];rfl
    obtain⟨h1,h2⟩:=P7 (P:=P) w ρ hr (t:=t) (x:=(SV.pb n b c).den ρ) (y:=SV.nilp.den ρ) (by simp[SV.den]) (by simp[SV.den]) (by simp[SV.den]) (by simp[SV.den]) (by
     simp only[SV.den];rw[K8];unfold Op.equalIn
     simp only[Sem.run_bind,run_underlying hd,Result.andThen_ok,Sem.run_pure])
    refine z9.same hH (SV.bd_closed U _ h2) ?_;simp only[Sem.run_bind,hg,Result.andThen_ok,h1,Sem.run_pure]
   ·cases h
  ·cases h
 ·rename_i n b c sl sk;split at h
  ·rename_i el _ _ _ _ hti;obtain⟨d,hd,hk⟩:=(hT t _ hti).desc;cases d <;> simp only[H7,TK.slice.injEq,reduceCtorEq]at hk
   split at h
   ·rename_i r o' hr;simp only[oI9]at h;subst h;have hg:(eqGuard op t xo yo ((SV.slb n b c sl sk).den ρ) (SV.nils.den ρ)).run P w=.ok () w:=by simp only[SV.den];rw[eqGuard_at_slice];rfl
    obtain⟨h1,h2⟩:=P7 (P:=P) w ρ hr (t:=t) (x:=(SV.slb n b c sl sk).den ρ) (y:=SV.nils.den ρ) (by simp[SV.den]) (by simp[SV.den]) (by simp[SV.den]) (by simp[SV.den]) (by
     simp only[SV.den];rw[K8];unfold Op.equalIn
     simp only[Sem.run_bind,run_underlying hd,Result.andThen_ok,Sem.run_pure])
    refine z9.same hH (SV.bd_closed U _ h2) ?_;simp only[Sem.run_bind,hg,Result.andThen_ok,h1,Sem.run_pure]
   ·cases h
  ·cases h
 ·cases h
def c4p(T:Tys)(t:Nat)(x:SV):Option Eff :=
 match ty T t with
 | some {tk:=.slice _, ..}=>match x with
  | .slb _ _ _ len _=>some ⟨some (.int .i64 (len:Nat)),[],[],[],none⟩
  | .dv _ v=>some ⟨some (.int .i64 (slL v:Nat)),[],[],[],some (isSlN v)⟩
  | _=>none
 | _=>none
theorem b1I{T:Tys}(hT:TysOk P T)(hH:HSat W0 Fr U H ρ w){t:Nat}{x:SV}{e:Eff}(h:c4p T t x=some e)(ho:okP e.obl)(ty':Nat)(cs:Array Bool) :
  z9 W0 Fr U H ρ nm e ((builtin .len #[t] ty' cs #[x.den ρ]).run P w):=by
 unfold c4p at h;split at h
 ·rename_i hti;obtain⟨d,hd,hd2⟩:=(hT t _ hti).desc;cases d <;> simp only[H7,TK.slice.injEq,reduceCtorEq]at hd2
  split at h
  ·simp only[oI9]at h;subst h;refine z9.same hH (v:=.int .i64 _) trivial ?_;simp[builtin,Builtin.len_,run_underlying hd,SV.den,goInt]
  ·rename_i n v;simp only[oI9]at h;subst h;have ho:isSlN v:=ho;refine z9.same hH (v:=.int .i64 _) trivial ?_;rcases ho with rfl|ho
   ·simp[builtin,Builtin.len_,run_underlying hd,SV.den,goInt,Value.oneCell',slL]
   ·have:(SV.dv n v).den ρ=.slice (some ⟨slB v,slC v,none⟩) (slL v) (slK v):=by simp only[SV.den,a6I ho,if_true];exact ho
    rw[this];simp[builtin,Builtin.len_,run_underlying hd,SV.den,goInt]
  ·cases h
 ·cases h
end
def a8F(g:Nat->Int):Nat->List Int->Nat->Int
 | _,[]=>g
 | i,x :: r=>a8F (upd g i x) (i+1) r
theorem b3O:∀(xs:List Int)(g:Nat->Int)(i j:Nat),j<i->a8F g i xs j=g j
 | [],_,_,_,_=>rfl
 | x :: r,g,i,j,h=>by
  rw[a8F,b3O r _ (i+1) j (by omega)];simp[upd];omega
theorem b4b:∀(xs:List Int)(g:Nat->Int)(i j:Nat)(x:Int),xs[j]? = some x->a8F g i xs (i+j)=x
 | [],_,_,_,_,h=>by simp at h
 | y :: r,g,i,0,x,h=>by
  simp only[List.getElem?_cons_zero,oI9]at h;rw[a8F,b3O r _ (i+1) _ (by omega)];simp[upd,h]
 | y :: r,g,i,j+1,x,h=>by
  simp only[List.getElem?_cons_succ]at h;rw[a8F,show i+(j+1)=i+1+j by omega];exact b4b r _ (i+1) j x h
theorem b4I(k:IntKind):kEq k k=true:=by cases k <;> rfl
theorem a8j(k:IntKind)(n:Nat):∀(xs:List Int)(i:Nat)(g:Nat->Int),(b8.ints k n g).setN i (xs.map (SV.int k))=some (.ints k n (a8F g i xs))
 | [],_,_=>rfl
 | x :: r,i,g=>by
  simp only[List.map_cons,b8.setN,b8.set,b4I];exact a8j k n r (i+1) _
def a8s(T:Tys)(rd:Nm->Option Ob)(t:Nat)(d s:SV):Option Eff :=
 match ty T t with
 | some {tk:=.slice e, ..}=>match ty T e with
  | some te=>match d,s with
   | .slcc dn dl, .slb sn b c sl _=>match rd dn with
    | some ⟨true,el, .ints k n _,es⟩=>match rd sn with
     | some ⟨true,_, .raw _ D sz F,_⟩=>some ⟨some (.int .i64 dl),[(dn,⟨true,el, .ints k n (λj=>q8 (F b (c+j))),es⟩)],[],[dn,sn],
       some (sl=dl/\n=dl*te.size/\0<n/\D b/\c+n<=sz b/\∀ j,j<n->C4 k (F b (c+j)))⟩
     | _=>none
    | _=>none
   | _,_=>none
  | none=>none
 | _=>none
section
variable {P:Program} {W0:World} {Fr:Nat->Prop} {U:Nm->Prop} {H:z7} {ρ:Rho} {w:World} {nm:Nm}
theorem b1n{T:Tys}(hT:TysOk P T)(hH:HSat W0 Fr U H ρ w){t:Nat}{d s:SV}{e:Eff}(h:a8s T (look H) t d s=some e)(ho:okP e.obl)(ty':Nat) :
  z9 W0 Fr U H ρ nm e ((do pure (.value (<-Builtin.copy_ #[t,t] ty' #[d.den ρ,s.den ρ])):Sem Next).run P w):=by
 unfold a8s at h;split at h
 case h_2=>cases h
 rename_i el _ _ _ _ hti;split at h
 case h_2=>cases h
 rename_i te hte;split at h
 case h_2=>cases h
 rename_i dn dl sn b c sl cap;split at h
 case h_2=>cases h
 rename_i el' k n g es hdn;split at h
 case h_2=>cases h
 rename_i el2 ts D sz F es2 hsn;simp only[oI9]at h;subst h;obtain⟨rfl,hn1,h0,hD,hfit,hint⟩:=ho;obtain⟨dd,hd,hd2⟩:=(hT t _ hti).desc;cases dd <;> simp only[H7,TK.slice.injEq,reduceCtorEq]at hd2
 subst hd2;rename_i el0;have hs:(sizeOf el0).run P w=.ok te.size w:=(hT el0 _ hte).run_size w;have hon:=hH.obj dn _ hdn
 let g':Nat->Int:=λj=>q8 (F b (c+j))
 have hlist:(List.range n).map (λj=>SV.int k (g' j))=((List.range n).map g').map (SV.int k):=by simp
 obtain⟨b1,off,cp,hρ,_⟩:=hH.cell hdn (i:=0) h0;rw[hρ]at hon;obtain⟨rfl,_⟩:=hon.2.1 rfl;have hcp1:=hon.2.2 h0
 have hld:(loadCells ⟨b,c,none⟩ (sl*te.size)).run P w=.ok (w5 ρ ((List.range n).map λj=>SV.int k (g' j))).toArray w:=by
  have:=U6 (P:=P) (w:=w) (b:=b) (o:=c) (w5 ρ ((List.range n).map λj=>SV.int k (g' j))) (λj v hv=>by
   simp only[A4,List.getElem?_map,Option.map_eq_some_iff]at hv;obtain⟨x,⟨y,hy,rfl⟩,rfl⟩:=hv;have hjn:j<n:=by simpa using (List.getElem?_eq_some_iff.1 hy).1
   have hy':y=j:=by simpa [hjn]using hy.symm
   subst hy';obtain⟨h1,_,_⟩:=hH.rawCell hsn rfl rfl hD (c:=c+y) (by omega);rw[h1]
   exact congrArg some (hint y hjn))
  rw[<-this];simp[A4,hn1]
 obtain⟨w',hrun,hH'⟩:=Q1 (P:=P) ((List.range n).map λj=>SV.int k (g' j)) hH hdn rfl hρ 0 0 (by rw[H6];intro v hv;simp only[List.mem_map]at hv;obtain⟨_,_,rfl⟩:=hv;trivial)
  (c':=.ints k n (a8F g 0 ((List.range n).map g'))) (by rw[hlist];exact a8j k n _ _ g) (by simp[b8.inb])
 refine⟨ρ,w',λ_ _=>rfl,?_,trivial,?_⟩
 ·have hR:=hH'.recont (n:=dn) (o:=⟨true,el', .ints k n (a8F g 0 ((List.range n).map g')),es⟩) (by simp[g8]) (c':=.ints k n g') rfl rfl (λj hj=>by
   have hjn:j<n:=hj;simp only[b8.at];have:=b4b ((List.range n).map g') g 0 j (g' j) (by simp[hjn]);rw[Nat.zero_add]at this
   rw[this])
  exact(hR.lookEq λm=>by
   simp only[List.nil_append,List.cons_append,g8]
   split <;> rfl).mono a0Y
 ·rw[Sem.run_bind]
  have:(Builtin.copy_ #[t,t] ty' #[(SV.slcc dn sl).den ρ,(SV.slb sn b c sl cap).den ρ]).run P w=.ok (goInt sl) w':=by
   simp[Builtin.copy_,SV.den,Rho.addrC,Rho.cap,hρ,Rho.sp_le hcp1,run_underlying hd,Builtin.lenOf,Builtin.firstCells,hs,hld,hrun]
  rw[this];rfl
theorem b4m{T:Tys}{rd rd':Nm->Option Ob}{t:Nat}{d s:SV}{e:Eff}(h:a8s T rd t d s=some e)(hr:∀ n∈e.rds,rd' n=rd n):a8s T rd' t d s=some e:=by
 unfold a8s at h ⊢;split at h
 case h_2=>cases h
 rename_i el _ _ _ _ hti;split at h
 case h_2=>cases h
 rename_i te hte;split at h
 case h_2=>cases h
 rename_i dn dl sn b c sl cap
 have key:rd' dn=rd dn/\rd' sn=rd sn:=by
  split at h
  case h_2=>cases h
  split at h
  case h_2=>cases h
  simp only[oI9]at h;subst h;exact⟨hr _ (by simp),hr _ (by simp)⟩
 simp only[key.1,key.2];exact h
end
def rOp(E:Env)(ev:Operand->Option SV)(rd:Nm->Option Ob)(o:Op):Option Eff :=
 match o with
 | .load t (.global _)=>rGl E.T t
 | .load t x=>match ev x with
  | some v=>rLd E.T rd t v
  | none=>none
 | .store t x y=>match ev x,ev y with
  | some v,some u=>rSt E.T rd t v u
  | _,_=>none
 | .binOp op t x y _=>match R4 y with
  | true=>match ev x,ev y with
   | some v,some u=>rEq E.T op t v u
   | _,_=>none
  | false=>none
 | .nilCheck x=>match ev x with
  | some v=>c3l v
  | none=>none
 | .slice t x lo hi mx=>match ev x,evO ev lo,evO ev hi,evO ev mx with
  | some v,some l,some h,some m=>b1X E.T t v l h m
  | _,_,_,_=>none
 | .fieldAddr s x i=>match ev x with
  | some v=>rFA E.T s v i
  | none=>none
 | .indexAddr t x i=>match ev x,ev i with
  | some v,some u=>rIA E.T t v u
  | _,_=>none
 | .typeAssert x _ asserted ok=>match ev x with
  | some v=>a8J E.T v asserted ok
  | none=>none
 | .call c=>match c.callee with
  | .builtin .len=>match c.argTypes.toList with
   | [t]=>match evL ev c.args.toList with
    | some [x]=>c4p E.T t x
    | _=>none
   | _=>none
  | .builtin .copy=>match c.argTypes.toList with
   | [t,t']=>match Nat.beq t t' with
    | true=>match evL ev c.args.toList with
     | some [d,x]=>a8s E.T rd t d x
     | _=>none
    | false=>none
   | _=>none
  | _=>none
 | _=>none
section
variable {P:Program} {W0:World} {Fr:Nat->Prop} {U:Nm->Prop} {H:z7} {ρ:Rho} {w:World} {nm:Nm}
theorem b4N{E:Env}(hE:b7L P E)(hH:HSat W0 Fr U H ρ w){ev:Operand->Option SV}{a:Act}(hev:∀ x v,ev x=some v->a.eval x=v.den ρ/\v.bd U)
  {o:Oper} {e:Eff} (h:rOp E ev (look H) o.op=some e) (ho:okP e.obl) :
  z9 W0 Fr U H ρ nm e ((execOp a.eval o).run P w):=by
 obtain⟨dst,op,ty',pos,after,guard⟩:=o;simp only at h;cases op <;> simp only[rOp,reduceCtorEq]at h
 case load t x =>
  have plain:(match ev x with|some v=>rLd E.T (look H) t v|none=>none)=some e->z9 W0 Fr U H ρ nm e ((execOp a.eval ⟨dst, .load t x,ty',pos,after,guard⟩).run P w):=by
   intro h;split at h
   ·rename_i v hv;obtain⟨h1,h2⟩:=hev _ _ hv;have:=b5f (nm:=nm) hE.T hH h ho;simpa only[execOp,h1]using this
   ·cases h
  cases x with
  | global g =>
   simp only at h;unfold rGl at h;split at h
   ·rename_i ti hti;split at h
    ·rename_i hz;simp only[bA9]at hz;simp only[oI9]at h;subst h;have hz2:=eB9 hz.2;refine z9.same hH (v:=.agg []) trivial ?_;simp[execOp,Act.eval,Instr.loadAt,Instr.sureAddr,loadVar,(hE.T t ti hti).isAgg' w,hz.1,(hE.T t ti hti).run_size w,hz2,loadCells,loadCellsFrom,SV.den,w5]
    ·cases h
   ·cases h
  | _=>exact plain h
 case store t x y =>
  split at h
  ·rename_i v u hv hu;obtain⟨h1,h2⟩:=hev _ _ hv;obtain⟨h3,h4⟩:=hev _ _ hu;have:=b4O (nm:=nm) hE.T hH h ho;simpa only[execOp,h1,h3]using this
  ·cases h
 case binOp op t x y yt =>
  split at h
  ·rename_i hy;split at h
   ·rename_i v u hv hu;obtain⟨h1,h2⟩:=hev _ _ hv;obtain⟨h3,h4⟩:=hev _ _ hu;have:=b4y (P:=P) (nm:=nm) (xo:=x) (yo:=y) hE.T hH h ho hy;simp only[execOp,h1,h3];exact this
   ·cases h
  ·cases h
 case nilCheck x =>
  split at h
  ·rename_i v hv;obtain⟨h1,h2⟩:=hev _ _ hv;exact b1v hH h2 h ho rfl h1
  ·cases h
 case slice t x lo hi mx =>
  split at h
  ·rename_i v l hh m hv hl hhi hm;obtain⟨h1,h2⟩:=hev _ _ hv;have:=a8z (nm:=nm) hE.T hH h2 h ho;rw[<-W8 hev hl,<-W8 hev hhi,<-W8 hev hm]at this;simpa only[execOp,h1]using this
  ·cases h
 case fieldAddr s x i =>
  split at h
  ·rename_i v hv;obtain⟨h1,h2⟩:=hev _ _ hv;have:=b4H (nm:=nm) hE.T hH h2 h;simpa only[execOp,h1]using this
  ·cases h
 case indexAddr t x i =>
  split at h
  ·rename_i v u hv hu;obtain⟨h1,h2⟩:=hev _ _ hv;obtain⟨h3,h4⟩:=hev _ _ hu;have:=b5g (nm:=nm) hE.T hH h2 h ho;simpa only[execOp,h1,h3]using this
  ·cases h
 case typeAssert x t asserted ok =>
  split at h
  ·rename_i v hv;obtain⟨h1,h2⟩:=hev _ _ hv;have:=a7p (nm:=nm) (xt:=t) hE.T hH h2 h ho;simpa only[execOp,h1]using this
  ·cases h
 case call c =>
  split at h
  ·rename_i hb;split at h
   ·rename_i t hat;split at h
    ·rename_i x hvs;obtain⟨h1,h2⟩:=H9 hev hvs;have e1:c.args.map a.eval=(w5 ρ [x]).toArray:=by rw[<-h1];apply Array.ext';simp
     have e2:c.argTypes = #[t]:=by apply Array.ext';simpa using hat
     have:=b1I (P:=P) (nm:=nm) hE.T hH h ho ty' (c.args.map fun | .const _=>true|_=>false);simp only[execOp,resolve,hb,Sem.run_bind,Sem.run_pure,Result.andThen_ok,invoke,e1,e2];exact this
    ·cases h
   ·cases h
  ·rename_i hb;split at h
   ·rename_i t t' hat;split at h
    ·rename_i htt;have:=eB9 htt;subst this;split at h
     ·rename_i d x hvs;obtain⟨h1,h2⟩:=H9 hev hvs;have e1:c.args.map a.eval=(w5 ρ [d,x]).toArray:=by rw[<-h1];apply Array.ext';simp
      have e2:c.argTypes = #[t,t]:=by apply Array.ext';simpa using hat
      have:=b1n (P:=P) (nm:=nm) hE.T hH h ho ty';simp only[execOp,resolve,hb,Sem.run_bind,Sem.run_pure,Result.andThen_ok,invoke,e1,e2,builtin];simp only[Sem.run_bind,Sem.run_pure]at this;exact this
     ·cases h
    ·cases h
   ·cases h
  ·cases h
end
section
variable {E:Env} {ev ev':Operand->Option SV} {rd rd':Nm->Option Ob} {e:Eff}
theorem b9H{T:Tys}{t:Nat}{x:SV}(h:rLd T rd t x=some e)(hr:∀ n∈e.rds,rd' n=rd n):rLd T rd' t x=some e:=by
 unfold rLd at h ⊢;split at h
 ·rename_i n b c;split at h
  ·rename_i ti hti
   have key:rd' n=rd n:=by
    split at h
    ·split at h
     ·split at h
      ·simp only[oI9]at h;subst h;exact hr _ (by simp)
      ·cases h
     ·split at h <;> (simp only[oI9]at h;subst h;exact hr _ (by simp))
    ·cases h
   simp only[key];exact h
  ·cases h
 ·cases h
theorem c0c{T:Tys}{t:Nat}{x v:SV}(h:rSt T rd t x v=some e)(hr:∀ n∈e.rds,rd' n=rd n):rSt T rd' t x v=some e:=by
 unfold rSt at h ⊢;split at h
 ·rename_i n b c;split at h
  ·rename_i ti hti;split at h
   ·rename_i hl
    have key:rd' n=rd n:=by
     split at h
     ·split at h
      ·simp only[oI9]at h;subst h;exact hr _ (by simp)
      ·cases h
     ·cases h
    simp only[key];exact h
   ·cases h
  ·cases h
 ·cases h
theorem b9i{o:Op}(h:rOp E ev rd o=some e)(hv:∀ x∈o.operands,ev' x=ev x)(hr:∀ n∈e.rds,rd' n=rd n):rOp E ev' rd' o=some e:=by
 cases o <;> simp only[rOp,reduceCtorEq]at h ⊢
 case load t x =>
  cases x with
  | global g=>exact h
  | _ =>
   simp only at h ⊢;rw[hv _ (by simp[Op.operands])];split at h
   ·rename_i v hx;exact b9H h hr
   ·cases h
 case store t x y =>
  rw[hv x (by simp[Op.operands]),hv y (by simp[Op.operands])];split at h
  ·rename_i v u hx hy;exact c0c h hr
  ·cases h
 case binOp op t x y yt =>
  rw[hv x (by simp[Op.operands]),hv y (by simp[Op.operands])];exact h
 case nilCheck x =>
  rw[hv x (by simp[Op.operands])];exact h
 case slice t x lo hi mx =>
  rw[hv x (by simp[Op.operands]),Y3 (x:=lo) (λy hy=>hv y (by simp[Op.operands,hy])),Y3 (x:=hi) (λy hy=>hv y (by simp[Op.operands,hy])),Y3 (x:=mx) (λy hy=>hv y (by simp[Op.operands,hy]))];exact h
 case fieldAddr s x i =>
  rw[hv x (by simp[Op.operands])];exact h
 case indexAddr t x i =>
  rw[hv x (by simp[Op.operands]),hv i (by simp[Op.operands])];exact h
 case typeAssert x t asserted ok =>
  rw[hv x (by simp[Op.operands])];exact h
 case call c =>
  split at h
  ·rename_i hb;rw[I0 (xs:=c.args.toList) (λx hx=>hv x (by simp[Op.operands,Call.operands];exact .inr (by simpa using hx)))];exact h
  ·rename_i hb;rw[I0 (xs:=c.args.toList) (λx hx=>hv x (by simp[Op.operands,Call.operands];exact .inr (by simpa using hx)))];split at h
   ·split at h
    ·split at h
     ·exact b4m h hr
     ·cases h
    ·cases h
   ·cases h
  ·cases h
end
structure ROp where
 ι:Type
 ne:Nonempty ι
 ev:ι->(Operand->Option SV)->(Nm->Option Ob)->Nm->Option (Eff×Prop)
structure b3g (P : Program) (R : ROp) (op : Op) : Prop where
 sound : ∀ {W0 : World} {Fr : Nat -> Prop} {U : Nm -> Prop} {H : z7} {ρ : Rho} {w : World} {nm : Nm} {ev : Operand -> Option SV} {a : Act} {o : Oper}, o.op = op ->
   HSat W0 Fr U H ρ w -> (∀ j, j < 24 -> ¬ U (nm + j)) -> (∀ x v, ev x = some v -> a.eval x = v.den ρ /\ v.bd U) ->
   (∀ i, ∃ e p, R.ev i ev (look H) nm = some (e, p) /\ okP e.obl) -> ∀ {next : Act -> World -> Prop} {Q : Exit -> Act -> World -> Prop},
   (∀ i e p ρ' w', R.ev i ev (look H) nm = some (e, p) -> p -> (∀ n, U n -> ρ' n = ρ n) -> HSat W0 Fr (UU U nm) (e.wr ++ (e.news ++ H)) ρ' w' ->
     (match e.val with
      | some v => v.bd (UU U nm) -> next (a.put o.dst (v.den ρ')) w'
      | none => next (a.put o.dst undef) w')) -> o.wp P a w next Q
 loc : ∀ {i : R.ι} {ev ev' : Operand -> Option SV} {rd rd' : Nm -> Option Ob} {nm : Nm} {e : Eff} {p : Prop}, R.ev i ev rd nm = some (e, p) -> (∀ x ∈ op.operands, ev' x = ev x) -> (∀ n ∈ e.rds, rd' n = rd n) -> R.ev i ev' rd' nm = some (e, p)
theorem z9.wp{P : Program}{W0 : World}{Fr : Nat -> Prop}{U : Nm -> Prop}{H : z7}{ρ : Rho}{w : World}{nm : Nm}{e : Eff}{a : Act}{o : Oper}(h : z9 W0 Fr U H ρ nm e ((execOp a.eval o).run P w))
   {next : Act -> World -> Prop} {Q : Exit -> Act -> World -> Prop}
   (hk : ∀ ρ' w', (∀ n, U n -> ρ' n = ρ n) -> HSat W0 Fr (UU U nm) (e.wr ++ (e.news ++ H)) ρ' w' ->
     (match e.val with
      | some v => v.bd (UU U nm) -> next (a.put o.dst (v.den ρ')) w'
      | none => next (a.put o.dst undef) w')) : o.wp P a w next Q := by
 obtain ⟨ρ', w', h1, h2, h3⟩ := h;have h4 := hk ρ' w' h1 h2;unfold Oper.wp;split at h3
 · rename_i v hv
   obtain ⟨h5, h6⟩ := h3;rw [h6];simp only [hv] at h4;exact h4 h5
 · rename_i hv
   rw [h3];simp only [hv] at h4;exact h4
def rz(T:Tys)(t:Nat)(c:Nat):Value:=match ty T t with
 | some ti=>(ti.zero.at c).den λ_=>none
 | none=>.bool false
def a0S:b8->Bool
 | .cells l=>a5J l
 | .ints _ _ _=>true
 | .flts _ _ _=>true
 | _=>false
theorem a2Y{c:b8}(h:a0S c=true):∀ i,i<c.size->(c.at i).one=true:=by
 intro i hi
 cases c with
 | cells l =>
  have hi':i<l.length:=hi;simp only[b8.at,E7,List.getElem?_eq_getElem hi',Option.getD_some];exact a1x h _ (List.getElem_mem hi')
 | ints k n g=>rfl
 | flts k n g=>rfl
 | gen n f=>simp[a0S]at h
 | upto n l=>simp[a0S]at h
 | raw ts D sz F=>simp[a0S]at h
noncomputable def a1l(T:Tys)(n:Nm)(t b:Nat)(rd:Nm->Option Ob):Option (Eff×Prop) :=
 match ty T t with
 | some ti=>match a0S ti.zero with
  | true=>match rd n with
   | some ⟨true,el, .raw ts D sz F,es⟩=>some (⟨some (.pb n b 0),[(n,⟨true,el, .raw ts (K3 D b) (J9 D sz b ti.size) (I7 D F b (rz T t)),es⟩)],[],[n],none⟩,¬D b)
   | _=>none
  | false=>none
 | none=>none
section
variable {P:Program} {W0:World} {Fr:Nat->Prop} {U:Nm->Prop} {H:z7} {ρ:Rho} {w:World} {nm:Nm}
theorem a9l{T:Tys}(hT:TysOk P T)(hH:HSat W0 Fr U H ρ w){t n b0:Nat}{e:Eff}{p:Prop}(h:a1l T n t b0 (look H)=some (e,p)) :
  ∃ b e p,a1l T n t b (look H)=some (e,p)/\p/\z9 W0 Fr U H ρ nm e ((do pure (.value (<-Instr.alloc t true (.tuple #[]))):Sem Next).run P w):=by
 unfold a1l at h;split at h
 ·rename_i ti hti;split at h
  ·rename_i hall;split at h
   ·rename_i el ts D sz F es hob;have ht:=hT t ti hti;obtain⟨z,hz,hzs,hzv⟩:=ht.run_zero w
    obtain⟨h1,h2⟩:=hH.rawAlloc hob rfl rfl (arr:=z.cells) (t:=t) (z:=rz T t) (λc hc=>by
     have hc':c<ti.zero.size:=by rw[<-hzs];exact hc
     have:=hzv (λ_=>none) c hc';simp only[rz,hti]
     exact⟨this,SV.one_den _ (a2Y hall c hc')⟩)
    refine⟨w.heap.size,⟨some (.pb n w.heap.size 0),[(n,⟨true,el, .raw ts (K3 D w.heap.size) (J9 D sz w.heap.size ti.size) (I7 D F w.heap.size (rz T t)),es⟩)],[],[n],none⟩,¬D w.heap.size,by simp only[a1l,hti,hall,hob],h1,ρ,w.alloc (.cells z.cells t),λ_ _=>rfl,?_,?_⟩
    ·have hs:z.cells.size=ti.size:=by rw[hzs,ht.zsz]
     rw[hs]at h2;rw[Q9 h1,Q6 h1];exact h2.mono a0Y
    ·refine⟨.inl (hH.used n _ hob),?_⟩;simp[Instr.alloc,hz,newVar,newRow,SV.den]
   ·cases h
  ·cases h
 ·cases h
def a5b(F:Nat->Nat->Value)(b c n1:Nat)(vs:List Value)(z:Nat->Value):Nat->Value:=λj =>
 if j<n1 then F b (c+j)else if j<n1+vs.length then vs.getD (j-n1) (.bool false)else z j
def a3M(q p:Option Prop):Option Prop:=match p with
 | some p=>a2O q p
 | none=>q
def b9G:SV->Option (Nat×Nat×Nat×Nat×Option Prop)
 | .slb _ b c l k=>some (b,c,l,k,none)
 | .dv _ v=>some (slB v,slC v,slL v,slK v,some (isSlN v))
 | .nils=>some (0,0,0,0,none)
 | _=>none
def a7k(T:Tys)(n:Nm)(t:Nat)(s x:SV)(i:Option (Nat×Nat×(Nat->Value)))(rd:Nm->Option Ob):Option (Eff×Prop) :=
 match ty T t with
 | some {tk:=.slice e, ..}=>match ty T e with
  | some te=>match a4Z rd te.size x with
   | some (m,vs,mn,p)=>match Nat.ble 1 te.size&&(Nat.ble 1 m&&a0S te.zero)with
    | true=>match a1o vs p with
     | some (us,q)=>match b9G s with
      | some (b,c,l,k,p1)=>match rd n with
       | some ⟨true,el, .raw ts D sz F,es⟩=>match i with
        | none=>some (⟨some (.slb n b c (l+m) k),[(n,⟨true,el, .raw ts D sz (a3T F b (c+l*te.size) us),es⟩)],[],[n,mn],
          a2O (a3M q p1) (l+m<=k->D b/\c+(l+m)*te.size<=sz b)⟩,l+m<=k)
        | some (b',k',z)=>some (⟨some (.slb n b' 0 (l+m) k'),[(n,⟨true,el, .raw ts (K3 D b') (D9 sz b' (k'*te.size)) (C8 F b' (a5b F b c (l*te.size) us z)),es⟩)],[],[n,mn],
          a2O (a3M q p1) ((0<l->D b/\c+l*te.size<=sz b)/\(l+m)*te.bytes<=140737488355328/\l+m<=maxLen)⟩,¬D b'/\k<l+m/\l+m<=k'/\k'<=maxLen)
       | _=>none
      | none=>none
     | none=>none
    | false=>none
   | none=>none
  | none=>none
 | _=>none
theorem a7C{s:SV}{b c l k:Nat}{p:Option Prop}(h:b9G s=some (b,c,l,k,p))(hp:okP p)(ρ:Rho) :
  s.den ρ=.slice (some ⟨b,c,none⟩) l k∨(s.den ρ=.slice none 0 0/\l=0/\k=0):=by
 unfold b9G at h;split at h
 ·simp only[oI9,pI9]at h;obtain⟨rfl,rfl,rfl,rfl,rfl⟩:=h;exact .inl rfl
 ·rename_i n v;simp only[oI9,pI9]at h;obtain⟨rfl,rfl,rfl,rfl,rfl⟩:=h;have hp:isSlN v:=hp;rcases hp with rfl|hp
  ·exact .inr ⟨by simp[SV.den,Value.oneCell'],rfl,rfl⟩
  ·refine .inl ?_;simp only[SV.den];rw[if_pos (a6I hp)];exact hp
 ·simp only[oI9,pI9]at h;obtain⟨rfl,rfl,rfl,rfl,rfl⟩:=h;exact .inr ⟨rfl,rfl,rfl⟩
 ·cases h
theorem a7h{z:Array Value}(hz:∀ i,i<z.size->∃ v,z[i]? = some v/\v.oneCell'=true)(hpos:0<z.size){n j:Nat}{v:Value}(h:(Builtin.zeroCells z n)[j]? = some v):v.oneCell'=true:=by
 unfold Builtin.zeroCells at h;rw[Array.getElem?_map]at h;rw[Option.map_eq_some_iff]at h;obtain⟨a,ha,rfl⟩:=h;have hm:=Nat.mod_lt a hpos;obtain⟨v,hv,ho⟩:=hz _ hm;rw[getElem!_pos z _ hm];rw[Array.getElem?_eq_getElem hm]at hv;injection hv with hv
 rw[hv];exact ho
theorem b2P{T:Tys}(hT:TysOk P T)(hH:HSat W0 Fr U H ρ w){n t:Nat}{s x:SV}(h:∀ i,∃ e p,a7k T n t s x i (look H)=some (e,p)/\okP e.obl)(ty':Nat) :
  ∃ i e p,a7k T n t s x i (look H)=some (e,p)/\p/\z9 W0 Fr U H ρ nm e ((do pure (.value (<-Builtin.append_ #[t,t] ty' #[s.den ρ,x.den ρ])):Sem Next).run P w):=by
 obtain⟨e0,p0,h0,ho0⟩:=h none;have hgrow:=λb' k' z=>h (some (b',k',z))
 clear h;unfold a7k at h0;split at h0
 case h_2=>cases h0
 rename_i el0 _ _ _ _ hti;split at h0
 case h_2=>cases h0
 rename_i te hte;split at h0
 case h_2=>cases h0
 rename_i m vs mn p hsrc;split at h0
 case h_2=>cases h0
 rename_i hb;split at h0
 case h_2=>cases h0
 rename_i us q hus;split at h0
 case h_2=>cases h0
 rename_i b c l k p1 hdst;split at h0
 case h_2=>cases h0
 rename_i el ts D sz F es hob;simp only[oI9,pI9]at h0;obtain⟨rfl,rfl⟩:=h0
 have hcalc:∀ i,a7k T n t s x i (look H)=(match i with
   | none=>some (⟨some (.slb n b c (l+m) k),[(n,⟨true,el, .raw ts D sz (a3T F b (c+l*te.size) us),es⟩)],[],[n,mn],
     a2O (a3M q p1) (l+m<=k->D b/\c+(l+m)*te.size<=sz b)⟩,l+m<=k)
   | some (b',k',z)=>some (⟨some (.slb n b' 0 (l+m) k'),[(n,⟨true,el, .raw ts (K3 D b') (D9 sz b' (k'*te.size)) (C8 F b' (a5b F b c (l*te.size) us z)),es⟩)],[],[n,mn],
     a2O (a3M q p1) ((0<l->D b/\c+l*te.size<=sz b)/\(l+m)*te.bytes<=140737488355328/\l+m<=maxLen)⟩,¬D b'/\k<l+m/\l+m<=k'/\k'<=maxLen)):=by
  intro i
  cases i with
  | none=>simp only[a7k,hti,hte,hsrc,hb,hus,hdst,hob]
  | some j=>obtain⟨b',k',z⟩:=j;simp only[a7k,hti,hte,hsrc,hb,hus,hdst,hob]
 simp only[bA9]at hb;have hsz:=Nat.le_of_ble_eq_true hb.1;have hm:=Nat.le_of_ble_eq_true hb.2.1;obtain⟨hq,hroomO⟩:=W4 ho0
 have hqp:okP q/\okP p1:=by
  cases p1 with
  | none=>exact⟨hq,trivial⟩
  | some p1=>exact W4 hq
 obtain⟨hp,hden,hone⟩:=Z9 ρ hus hqp.1;obtain⟨a,off,cap,hx,hl,_,hcell⟩:=a1g (w:=w) hsz hH hsrc hp hm;rw[hden]at hcell;have hul:us.length=m*te.size:=by rw[<-hden,A4,List.length_map,hl]
 obtain⟨d,hd,hd2⟩:=(hT t _ hti).desc;cases d <;> simp only[H7,TK.slice.injEq,reduceCtorEq]at hd2
 subst hd2;rename_i el0;obtain⟨i,z,hi,hz,hsi,hby,hzs⟩:=(hT el0 _ hte).zero_row
 have hzone:∀ j,j<z.cells.size->∃ v,z.cells[j]? = some v/\v.oneCell'=true:=by
  intro j hj;obtain⟨z',hz',hzs',hzv⟩:=(hT el0 _ hte).run_zero w
  have:z'=z:=by
   simp[zeroValue,typeInfo,hi,hz]at hz';exact hz'.symm
  subst this;have hj':j<te.zero.size:=by rw[<-hzs'];exact hj
  exact⟨_,hzv (λ_=>none) j hj',SV.one_den _ (a2Y hb.2.2 j hj')⟩
 have hU:=hH.used n _ hob;by_cases hroom:l+m<=k
 ·obtain⟨hD,hfit⟩:=hroomO hroom;refine⟨none,_,_,hcalc none,hroom,?_⟩
  have hs:s.den ρ=.slice (some ⟨b,c,none⟩) l k:=by
   rcases a7C hdst hqp.2 ρ with h1|⟨_,h2,h3⟩
   ·exact h1
   ·omega
  have hlen:c+l*te.size+us.length<=sz b:=by rw[hul];rw[Nat.add_mul]at hfit;omega
  obtain⟨w',hrun,hH'⟩:=a0N (P:=P) hD us F hH hob (c+l*te.size) 0 (by omega) hone
  have hr:=run_append_room_cells (P:=P) (w:=w) t ty' el0 i hd hi b c l k ⟨a,off,none⟩ m cap us (by rw[hul,hsi]) hcell hone hroom (λj hj=>by
    obtain⟨h1,_,_⟩:=hH.rawCell hob rfl rfl hD (c:=c+l*i.size+j) (by rw[hsi];omega)
    rw[h1];rfl) (λj hj=>(hH.rawCell hob rfl rfl hD (c:=c+l*i.size+j) (by rw[hsi];omega)).2.2)
  have hst:=run_storeCells_cells (P:=P) b (c+l*te.size) us 0 w (λj hj=>by
    obtain⟨h1,_,_⟩:=hH.rawCell hob rfl rfl hD (c:=c+l*te.size+0+j) (by omega)
    rw[h1];rfl) (λj hj=>(hH.rawCell hob rfl rfl hD (c:=c+l*te.size+0+j) (by omega)).2.2) hone
  rw[hrun]at hst;injection hst with _ hst
  refine⟨ρ,w',λ_ _=>rfl,by simpa using hH'.mono a0Y, .inl hU,?_⟩;rw[hs,hx,Sem.run_bind,hr,hsi,hst];simp[SV.den]
 ·
  have key:∀(olds:List Value),olds.length=l*te.size->(∀ j v,olds[j]? = some v->v=F b (c+j)/\v.oneCell'=true)->
    (Builtin.append_ #[t,t] ty' #[s.den ρ,x.den ρ]).run P w=.ok (.slice (some ⟨w.heap.size,0,none⟩) (l+m) (grownCap w (l+m) k el0))
     (w.drew.alloc (.cells (olds.toArray++us.toArray++Builtin.zeroCells z.cells (grownCap w (l+m) k el0-(l+m))) el0))->
    ∃ i e p,a7k T n t s x i (look H)=some (e,p)/\p/\z9 W0 Fr U H ρ nm e ((do pure (.value (<-Builtin.append_ #[t,t] ty' #[s.den ρ,x.den ρ])):Sem Next).run P w):=by
   intro olds hol holds hr
   let arr:=olds.toArray++us.toArray++Builtin.zeroCells z.cells (grownCap w (l+m) k el0-(l+m))
   obtain⟨e1,p1',h1,ho1⟩:=hgrow 0 0 λ_=>.bool false
   rw[hcalc]at h1;simp only[oI9,pI9]at h1;obtain⟨rfl,rfl⟩:=h1;obtain⟨_,_,_,hlm⟩:=W4 ho1;have hge:=grownCap_ge w (l+m) k el0;have hcm:=grownCap_le_maxLen w (l+m) k el0 hlm
   have hsize:arr.size=grownCap w (l+m) k el0*te.size:=by
    simp only[arr,Array.size_append,List.size_toArray,size_zeroCells,hzs,hul,hol,<-Nat.add_mul];congr 1;omega
   obtain⟨h2,h3⟩:=hH.drew.rawAlloc hob rfl rfl (arr:=arr) (t:=el0) (z:=a5b F b c (l*te.size) us λj=>(arr[j]?).getD (.bool false)) (λj hj=>by
    unfold a5b;by_cases hj1:j<l*te.size
    ·rw[if_pos hj1];have hjo:j<olds.length:=by omega
     have:arr[j]? = some olds[j]:=by
      simp only[arr];rw[Array.getElem?_append_left (by simp;omega),Array.getElem?_append_left (by simpa using hjo)];simp[hjo]
     obtain⟨h4,h5⟩:=holds j olds[j] (List.getElem?_eq_getElem hjo);rw[this,<-h4];exact⟨rfl,h5⟩
    ·rw[if_neg hj1];by_cases hj2:j<l*te.size+us.length
     ·rw[if_pos hj2];have hju:j-l*te.size<us.length:=by omega
      have:arr[j]? = some us[j-l*te.size]:=by
       simp only[arr];rw[Array.getElem?_append_left (by simp;omega),Array.getElem?_append_right (by simp;omega)];simp[hol,hju]
      rw[this,List.getD_eq_getElem?_getD,List.getElem?_eq_getElem hju];exact⟨rfl,hone _ (List.getElem_mem hju)⟩
     ·rw[if_neg hj2];have hv:arr[j]? = some arr[j]:=Array.getElem?_eq_getElem hj;refine⟨by simp only[hv,Option.getD_some],?_⟩;show ((arr[j]?).getD (.bool false)).oneCell'=true;rw[hv];show (arr[j]).oneCell'=true;simp only[arr]at hv;rw[Array.getElem?_append_right (by simp;omega)]at hv
      exact a7h hzone (by omega) hv)
   have hwz:(w.drew).heap.size=w.heap.size:=rfl;rw[hwz]at h2 h3;refine⟨some (w.heap.size,grownCap w (l+m) k el0,λj=>(arr[j]?).getD (.bool false)),_,_,hcalc _,⟨h2,by omega,hge,hcm⟩,ρ,w.drew.alloc (.cells arr el0),λ_ _=>rfl,?_, .inl hU,?_⟩
   ·rw[hsize]at h3;exact h3.mono a0Y
   ·rw[Sem.run_bind,hr];rfl
  obtain⟨e1,p1',h1,ho1⟩:=hgrow 0 0 λ_=>.bool false
  rw[hcalc]at h1;simp only[oI9,pI9]at h1;obtain⟨rfl,rfl⟩:=h1;obtain⟨_,hDl,hby2,hlm⟩:=W4 ho1;rcases a7C hdst hqp.2 ρ with hs|⟨hs,hl0,hk0⟩
  ·have hcells:∀ j,j<l*te.size->w.cell? ⟨b,c+j,none⟩=some (F b (c+j))/\(F b (c+j)).oneCell'=true:=by
    intro j hj
    have hl0:0<l:=by
     rcases Nat.eq_zero_or_pos l with h0|h0
     ·subst h0;simp at hj
     ·exact h0
    obtain⟨hD,hfit⟩:=hDl hl0;obtain⟨h4,h5,_⟩:=hH.rawCell hob rfl rfl hD (c:=c+j) (by omega);exact⟨h4,h5⟩
   refine key (fvs F b c (l*te.size)) (a5q _ _ _ _) (λj v hj=>?_) ?_
   ·obtain⟨h4,h5⟩:=a5i F b _ _ _ _ hj;exact⟨h5,by rw[h5];exact(hcells j h4).2⟩
   ·rw[hs,hx]
    exact run_append_grow (P:=P) w t ty' el0 i z hd hi hz ⟨b,c,none⟩ l k (fvs F b c (l*te.size)) (by rw[a5q,hsi]) (λj v hj=>by
     obtain⟨h4,h5⟩:=a5i F b _ _ _ _ hj
     rw[Addr.add_lit,h5];exact(hcells j h4).1) ⟨a,off,none⟩ m cap us (by rw[hul,hsi]) hcell (by omega) (by simp only[maxLen]at hlm;omega) (growslice_fits (by omega) (by rw[hby];exact hby2))
  ·subst hl0 hk0;refine key [] (by simp) (λj v hj=>by simp at hj) ?_;have hr:=run_append_nil (P:=P) w t ty' el0 i z hd hi hz ⟨a,off,none⟩ m cap us (by rw[hul,hsi]) hcell (by omega) (by simp only[maxLen]at hlm;omega) (by rw[hby];rw[Nat.zero_add]at hby2;omega);rw[hs,hx,hr];simp
end
section
variable {P:Program} {W0:World} {Fr:Nat->Prop} {U:Nm->Prop} {H:z7} {ρ:Rho} {w:World} {nm:Nm}
def a1z(T:Tys)(n:Nm)(t len:Nat)(ps:List (Nat×SV))(b:Nat)(rd:Nm->Option Ob):Option (Eff×Prop) :=
 match ty T t with
 | some {tk:=.slice e, ..}=>match ty T e with
  | some {zero:=.cells z,size:=sz, ..}=>match Nat.ble 1 (len*sz)&&Nat.ble (len*sz) 16777216 with
   | true=>match V8 (λi=>some (i*sz,sz)) (a5d z len) ps with
    | some r=>match a1o r none with
     | some (us,q)=>match rd n with
      | some ⟨true,el, .raw ts D sz' F,es⟩=>some (⟨some (.slb n b 0 len len),[(n,⟨true,el, .raw ts (K3 D b) (D9 sz' b (len*sz)) (C8 F b λj=>us.getD j (.bool false)),es⟩)],[],[n],q⟩,¬D b)
      | _=>none
     | none=>none
    | none=>none
   | false=>none
  | _=>none
 | _=>none
theorem a6d{T:Tys}(hT:TysOk P T){t len el:Nat}{ps:List (Nat×SV)}{s1 b1:Nat}{z1:b8}{m1:List Mth}(hti:ty T t=some ⟨.slice el,s1,b1,z1,m1⟩){tk:TK}{sz by':Nat}{z:List SV}{msx:List Mth}(hte:ty T el=some ⟨tk,sz,by', .cells z,msx⟩)
  (h1':1<=len*sz) (h2':len*sz<=16777216) {r:List SV} (hr:V8 (λi=>some (i*sz,sz)) (a5d z len) ps=some r) :
  (w5 ρ r).length=len*sz/\(Instr.buildSlice t len (ps.map λp=>(p.1,p.2.den ρ)).toArray).run P w=.ok (.slice (some ⟨w.heap.size,0,none⟩) len len) (w.alloc (.cells (w5 ρ r).toArray el)):=by
 have hte':=hT el _ hte;obtain⟨d,hd,hd2⟩:=(hT t _ hti).desc;cases d <;> simp only[H7,TK.slice.injEq,reduceCtorEq]at hd2
 subst hd2;obtain⟨v,hz1,hz2,hz3⟩:=S4 hte' rfl ρ w;have hzl:z.length=sz:=hte'.zsz;have hrl:r.length=len*sz:=by rw[a0B hr,V3,hzl]
 have hs:(sizeOf ‹Nat›).run P w=.ok sz w:=hte'.run_size w
 have hinit:((Array.range (len*sz)).map λi=>(w5 ρ z).toArray[i % (w5 ρ z).toArray.size]!)=(w5 ρ (a5d z len)).toArray:=by
  apply Array.ext_getElem?
  intro i;by_cases hi:i<len*sz
  ·have hp0:0<z.length:=by
    rw[hzl];rcases Nat.eq_zero_or_pos sz with h0|h0
    ·rw[h0]at h1';simp at h1'
    ·exact h0
   have h3:i % z.length<z.length:=Nat.mod_lt _ hp0;have h4:i<len*z.length:=by rw[hzl];exact hi
   simp only[Array.getElem?_map,Array.getElem?_range,hi,if_true,Option.map_some,A4,List.getElem?_toArray,List.getElem?_map,a5P z len i h4,List.getElem?_eq_getElem h3];simp[h3]
  ·have h4:¬i<len*z.length:=by rw[hzl];exact hi
   rw[Array.getElem?_eq_none (by simp;omega),Array.getElem?_eq_none (by simp[A4,V3];omega)]
 refine⟨by simp[A4,hrl],?_⟩;have hne:len*sz≠0:=by omega
 simp only[Instr.buildSlice,Sem.run_bind,run_underlying hd,Result.andThen_ok,hs,Sem.run_ite,hne,if_false,hz1,hz2,Sem.run_pure];have hle2:¬len*sz > 2 ^ 24:=by omega
 simp only[hle2,if_false,Sem.run_bind,Sem.run_pure,hinit,a3Q ρ hr];simp[newRow]
theorem a8T{T:Tys}(hT:TysOk P T)(hH:HSat W0 Fr U H ρ w){n t len b0:Nat}{ps:List (Nat×SV)}{e:Eff}{p:Prop}(h:a1z T n t len ps b0 (look H)=some (e,p))(ho:okP e.obl) :
  ∃ b e p,a1z T n t len ps b (look H)=some (e,p)/\p/\z9 W0 Fr U H ρ nm e ((do pure (.value (<-Instr.buildSlice t len (ps.map λp=>(p.1,p.2.den ρ)).toArray)):Sem Next).run P w):=by
 unfold a1z at h;split at h
 case h_2=>cases h
 rename_i el _ _ _ _ hti;split at h
 case h_2=>cases h
 rename_i tk sz by' z msx hte;split at h
 case h_2=>cases h
 rename_i hb;split at h
 case h_2=>cases h
 rename_i r hr;split at h
 case h_2=>cases h
 rename_i us q hus;split at h
 case h_2=>cases h
 rename_i el' ts D sz' F es hob;simp only[oI9,pI9]at h;obtain⟨rfl,rfl⟩:=h;have hb2:=hb;simp only[bA9]at hb2;obtain⟨_,hden,hone⟩:=Z9 ρ hus ho;obtain⟨hl,hrun⟩:=a6d (ρ:=ρ) (w:=w) hT hti hte (Nat.le_of_ble_eq_true hb2.1) (Nat.le_of_ble_eq_true hb2.2) hr;rw[hden]at hl hrun
 obtain⟨h1,h2⟩:=hH.rawAlloc hob rfl rfl (arr:=us.toArray) (t:=el) (z:=λj=>us.getD j (.bool false)) (λc hc=>by
  have hc':c<us.length:=by simpa using hc
  simp only[List.getElem?_toArray,List.getElem?_eq_getElem hc',List.getD_eq_getElem?_getD,Option.getD_some]
  exact⟨trivial,hone _ (List.getElem_mem hc')⟩)
 refine⟨w.heap.size,⟨some (.slb n w.heap.size 0 len len),[(n,⟨true,el', .raw ts (K3 D w.heap.size) (D9 sz' w.heap.size (len*sz)) (C8 F w.heap.size λj=>us.getD j (.bool false)),es⟩)],[],[n],q⟩,¬D w.heap.size,
  by simp only[a1z,hti,hte,hb,hr,hus,hob],h1,ρ,w.alloc (.cells us.toArray el),λ_ _=>rfl,?_, .inl (hH.used n _ hob),?_⟩
 ·have hs:us.toArray.size=len*sz:=by simpa using hl
  rw[hs]at h2;exact h2.mono a0Y
 ·rw[Sem.run_bind,hrun];rfl
structure ApI where
 b:Nat
 c:Nat
 k:Nat
 D:Nat->Prop
 S:Nat->Nat
 F:Nat->Nat->Value
def Q0(D:Nat->Prop)(sz:Nat->Nat)(F:Nat->Nat->Value)(z b c l k m:Nat)(us:List Value)(i:ApI):Prop :=
 (l+m<=k/\i.b=b/\i.c=c/\i.k=k/\i.D=D/\i.S=sz/\i.F=a3T F b (c+l*z) us)∨
 (k<l+m/\¬D i.b/\i.c=0/\l+m<=i.k/\i.k<=maxLen/\i.D=K3 D i.b/\i.S=D9 sz i.b (i.k*z)/\∃ zz,i.F=C8 F i.b (a5b F b c (l*z) us zz))
def appO(D:Nat->Prop)(sz:Nat->Nat)(z y b c l k m:Nat):Prop :=
 (l+m<=k->D b/\c+(l+m)*z<=sz b)/\(0<l->D b/\c+l*z<=sz b)/\(l+m)*y<=140737488355328/\l+m<=maxLen
def a3B(T:Tys)(n:Nm)(t:Nat)(s x:SV)(i:ApI)(rd:Nm->Option Ob):Option (Eff×Prop) :=
 match ty T t with
 | some {tk:=.slice e, ..}=>match ty T e with
  | some te=>match a4Z rd te.size x with
   | some (m,vs,mn,p)=>match Nat.ble 1 te.size&&(Nat.ble 1 m&&a0S te.zero)with
    | true=>match a1o vs p with
     | some (us,q)=>match b9G s with
      | some (b,c,l,k,p1)=>match rd n with
       | some ⟨true,el, .raw ts D sz F,es⟩=>some (⟨some (.slb n i.b i.c (l+m) i.k),[(n,⟨true,el, .raw ts i.D i.S i.F,es⟩)],[],[n,mn],
          a2O (a3M q p1) (appO D sz te.size te.bytes b c l k m)⟩,Q0 D sz F te.size b c l k m us i)
       | _=>none
      | none=>none
     | none=>none
    | false=>none
   | none=>none
  | none=>none
 | _=>none
theorem b0W{T:Tys}(hT:TysOk P T)(hH:HSat W0 Fr U H ρ w){n t:Nat}{s x:SV}(h:∀ i,∃ e p,a3B T n t s x i (look H)=some (e,p)/\okP e.obl)(ty':Nat) :
  ∃ i e p,a3B T n t s x i (look H)=some (e,p)/\p/\z9 W0 Fr U H ρ nm e ((do pure (.value (<-Builtin.append_ #[t,t] ty' #[s.den ρ,x.den ρ])):Sem Next).run P w):=by
 obtain⟨e0,p0,h0,ho0⟩:=h ⟨0,0,0,λ_=>False,λ_=>0,λ_ _=>.bool false⟩;clear h;unfold a3B at h0;split at h0
 case h_2=>cases h0
 rename_i el0 _ _ _ _ hti;split at h0
 case h_2=>cases h0
 rename_i te hte;split at h0
 case h_2=>cases h0
 rename_i m vs mn p hsrc;split at h0
 case h_2=>cases h0
 rename_i hb;split at h0
 case h_2=>cases h0
 rename_i us q hus;split at h0
 case h_2=>cases h0
 rename_i b c l k p1 hdst;split at h0
 case h_2=>cases h0
 rename_i el ts D sz F es hob;simp only[oI9,pI9]at h0;obtain⟨rfl,rfl⟩:=h0;obtain⟨hq,hO1,hO2,hO3,hO4⟩:=W4 ho0
 have hcalc:∀ i,a3B T n t s x i (look H)=some (⟨some (.slb n i.b i.c (l+m) i.k),[(n,⟨true,el, .raw ts i.D i.S i.F,es⟩)],[],[n,mn],
   a2O (a3M q p1) (appO D sz te.size te.bytes b c l k m)⟩,Q0 D sz F te.size b c l k m us i):=by
  intro i;simp only[a3B,hti,hte,hsrc,hb,hus,hdst,hob]
 have hcalc2:∀ i,a7k T n t s x i (look H)=(match i with
   | none=>some (⟨some (.slb n b c (l+m) k),[(n,⟨true,el, .raw ts D sz (a3T F b (c+l*te.size) us),es⟩)],[],[n,mn],
     a2O (a3M q p1) (l+m<=k->D b/\c+(l+m)*te.size<=sz b)⟩,l+m<=k)
   | some (b',k',z)=>some (⟨some (.slb n b' 0 (l+m) k'),[(n,⟨true,el, .raw ts (K3 D b') (D9 sz b' (k'*te.size)) (C8 F b' (a5b F b c (l*te.size) us z)),es⟩)],[],[n,mn],
     a2O (a3M q p1) ((0<l->D b/\c+l*te.size<=sz b)/\(l+m)*te.bytes<=140737488355328/\l+m<=maxLen)⟩,¬D b'/\k<l+m/\l+m<=k'/\k'<=maxLen)):=by
  intro i
  cases i with
  | none=>simp only[a7k,hti,hte,hsrc,hb,hus,hdst,hob]
  | some j=>obtain⟨b',k',z⟩:=j;simp only[a7k,hti,hte,hsrc,hb,hus,hdst,hob]
 have andP_mk:∀ {q:Option Prop} {r:Prop},okP q->r->okP (a2O q r):=by
  intro q r h1 h2
  cases q with
  | none=>exact h2
  | some q=>exact⟨h1,h2⟩
 obtain⟨j,e,p',h1,h2,h3⟩:=b2P (nm:=nm) hT hH (n:=n) (t:=t) (s:=s) (x:=x) (λj=>by
  rw[hcalc2]
  cases j with
  | none=>exact⟨_,_,rfl,andP_mk hq hO1⟩
  | some j=>obtain⟨b',k',z⟩:=j;exact⟨_,_,rfl,andP_mk hq ⟨hO2,hO3,hO4⟩⟩) ty'
 rw[hcalc2]at h1
 cases j with
 | none =>
  simp only[oI9,pI9]at h1;obtain⟨rfl,rfl⟩:=h1;exact⟨⟨b,c,k,D,sz,a3T F b (c+l*te.size) us⟩,_,_,hcalc _, .inl ⟨h2,rfl,rfl,rfl,rfl,rfl,rfl⟩,h3⟩
 | some j =>
  obtain⟨b',k',z⟩:=j;simp only[oI9,pI9]at h1;obtain⟨rfl,rfl⟩:=h1;obtain⟨h4,h5,h6,h7⟩:=h2;exact⟨⟨b',0,k',K3 D b',D9 sz b' (k'*te.size),C8 F b' (a5b F b c (l*te.size) us z)⟩,_,_,hcalc _, .inr ⟨h5,h4,rfl,h6,h7,rfl,rfl,z,rfl⟩,h3⟩
end
structure a8M where
 ι:Type
 ne:Nonempty ι
 c:ι->List SV->(Nm->Option Ob)->Nm->Option (Eff×Prop)
structure z4 (P:Program) (f:Nat) (R:a8M):Prop where
 calls:∀ {W0:World} {Fr:Nat->Prop} {U:Nm->Prop} {H:z7} {ρ:Rho} {w:World} {nm:Nm} {args:List SV},
  HSat W0 Fr U H ρ w->bdL U args->(∀ j,j<24->¬U (nm+j))->(∀ i,∃ e p,R.c i args (look H) nm=some (e,p)/\okP e.obl)->
  CallsV P f (w5 ρ args).toArray w λen w'=>∃ i e p,R.c i args (look H) nm=some (e,p)/\p/\∃ ρ',(∀ n,U n->ρ' n=ρ n)/\HSat W0 Fr (UU U nm) (e.wr++(e.news++H)) ρ' w'/\
   ∃ v,e.val=some v/\v.bd (UU U nm)/\en=.returned (v.den ρ')
 loc:∀ {i:R.ι} {args:List SV} {rd rd':Nm->Option Ob} {nm:Nm} {e:Eff} {p:Prop},R.c i args rd nm=some (e,p)->(∀ n∈e.rds,rd' n=rd n)->R.c i args rd' nm=some (e,p)
abbrev c0g:=List (Nat×a8M)
def b8s:c0g->Nat->Option a8M
 | [],_=>none
 | (m,v) :: r,n=>match Nat.beq m n with
  | true=>some v
  | false=>b8s r n
def y5(P:Program)(Γ:c0g):Prop:=∀ f c,b8s Γ f=some c->z4 P f c
theorem y5.nil{P:Program}:y5 P []:=λ_ _ h=>by simp[b8s]at h
theorem y5.cons{P:Program}{f:Nat}{c:a8M}{Γ:c0g}(h1:z4 P f c)(h2:y5 P Γ):y5 P ((f,c) :: Γ):=λu ui h=>by
 simp only[b8s]at h;cases hb:Nat.beq f u
 ·rw[hb]at h;exact h2 u ui h
 ·rw[hb]at h;have:f=u:=eB9 hb;subst this;simp only[oI9]at h;subst h;exact h1
structure F6 where
 G:Ctx
 R:c0g
 al:List (Nat×Nm)
 bs:List (Nat×Nm)
 ap:List (Nat×Nm)
structure B4 (P:Program) (X:F6):Prop where
 G:A5 P X.G
 R:y5 P X.R
def b6r:List (Nat×Nm)->Nat->Option Nm
 | [],_=>none
 | (m,v) :: r,n=>match Nat.beq m n with
  | true=>some v
  | false=>b6r r n
def nrm(T:Tys)(t:Nat)(v:SV):SV×Option Prop :=
 match v with
 | .dv n x=>match ty T t with
  | some {tk:=.ptr _, ..}=>(.pb n (ptB x) (ptC x),some (a1e x))
  | _=>(v,none)
 | _=>(v,none)
def a4l(T:Tys):List Nat->List SV->Option Prop->List SV×Option Prop
 | t :: ts,v :: vs,p=>((nrm T t v).1 :: (a4l T ts vs (a3M p (nrm T t v).2)).1,(a4l T ts vs (a3M p (nrm T t v).2)).2)
 | _,vs,p=>(vs,p)
theorem b3i{q p:Option Prop}(h:okP (a3M q p)):okP q/\okP p:=by
 cases p with
 | none=>exact⟨h,trivial⟩
 | some p=>exact W4 h
theorem b6x{T:Tys}{t:Nat}{v:SV}(h:okP (nrm T t v).2)(ρ:Rho)(U:Nm->Prop):(nrm T t v).1.den ρ=v.den ρ/\(v.bd U->(nrm T t v).1.bd U):=by
 unfold nrm at h ⊢;split
 ·rename_i n x;split
  ·rename_i hti;simp only[hti]at h;have h:a1e x:=h;refine⟨?_,λhb=>hb⟩;simp only[SV.den];rw[if_pos (b0v h)];exact h.symm
  ·exact⟨rfl,λhb=>hb⟩
 ·exact⟨rfl,λhb=>hb⟩
theorem a8k{T:Tys}(ρ:Rho)(U:Nm->Prop):∀ {ts:List Nat} {vs:List SV} {p:Option Prop},okP (a4l T ts vs p).2->okP p/\w5 ρ (a4l T ts vs p).1=w5 ρ vs/\(bdL U vs->bdL U (a4l T ts vs p).1)
 | t :: ts,v :: vs,p,h=>by
  simp only[a4l]at h ⊢;obtain⟨h1,h2,h3⟩:=a8k ρ U (ts:=ts) (vs:=vs) h;obtain⟨h4,h5⟩:=b3i h1;obtain⟨h6,h7⟩:=b6x h5 ρ U;exact⟨h4,by simp[w5,h6,h2],λhb=>⟨h7 hb.1,h3 hb.2⟩⟩
 | [],vs,p,h=>⟨h,rfl,λhb=>hb⟩
 | _ :: _,[],p,h=>⟨h,rfl,λhb=>hb⟩
def a7O(T:Tys)(k:a8M)(c:Call)(i:k.ι)(ev:Operand->Option SV)(rd:Nm->Option Ob)(nm:Nm):Option (Eff×Prop) :=
 match evL ev c.args.toList with
 | some vs=>match k.c i (a4l T c.argTypes.toList vs none).1 rd nm with
  | some (e,p)=>some (⟨e.val,e.wr,e.news,e.rds,a3M e.obl (a4l T c.argTypes.toList vs none).2⟩,p)
  | none=>none
 | none=>none
noncomputable def b0u(X:F6)(o:Op):Option ROp :=
 match o with
 | .alloc t=>match b6r X.al t with
  | some n=>some ⟨Nat,⟨0⟩,λb _ rd _=>a1l X.G.E.T n t b rd⟩
  | none=>none
 | .buildSlice t len parts=>match b6r X.bs t with
  | some n=>some ⟨Nat,⟨0⟩,λb ev rd _=>match U4 ev parts.toList with
   | some ps=>a1z X.G.E.T n t len ps b rd
   | none=>none⟩
  | none=>none
 | .call c=>match c.callee with
  | .value (.func f)=>match b8s X.R f with
   | some k=>some ⟨k.ι,k.ne,λi ev rd nm=>a7O X.G.E.T k c i ev rd nm⟩
   | none=>none
  | .builtin .append=>match c.argTypes.toList with
   | [t,t']=>match Nat.beq t t' with
    | true=>match b6r X.ap t with
     | some n=>some ⟨ApI,⟨⟨0,0,0,λ_=>False,λ_=>0,λ_ _=>.bool false⟩⟩,λi ev rd _=>match evL ev c.args.toList with
      | some [s,x]=>a3B X.G.E.T n t s x i rd
      | _=>none⟩
     | none=>none
    | false=>none
   | _=>none
  | _=>none
 | _=>none
section
variable {P:Program}
theorem b1Z{T:Tys}{n t b:Nat}{rd rd':Nm->Option Ob}{e:Eff}{p:Prop}(h:a1l T n t b rd=some (e,p))(hr:∀ m∈e.rds,rd' m=rd m):a1l T n t b rd'=some (e,p):=by
 unfold a1l at h ⊢;split at h
 ·rename_i ti hti;split at h
  ·rename_i hall
   have key:rd' n=rd n:=by
    split at h
    ·simp only[oI9,pI9]at h;obtain⟨rfl,_⟩:=h;exact hr _ (by simp)
    ·cases h
   simp only[key];exact h
  ·cases h
 ·cases h
theorem b2c{T:Tys}{n t len b:Nat}{ps:List (Nat×SV)}{rd rd':Nm->Option Ob}{e:Eff}{p:Prop}(h:a1z T n t len ps b rd=some (e,p))(hr:∀ m∈e.rds,rd' m=rd m):a1z T n t len ps b rd'=some (e,p):=by
 unfold a1z at h ⊢;split at h
 case h_2=>cases h
 rename_i el _ _ _ _ hti;split at h
 case h_2=>cases h
 rename_i tk sz by' z msx hte;split at h
 case h_2=>cases h
 rename_i hb;split at h
 case h_2=>cases h
 rename_i r hr';split at h
 case h_2=>cases h
 rename_i us q hus
 have key:rd' n=rd n:=by
  split at h
  ·simp only[oI9,pI9]at h;obtain⟨rfl,_⟩:=h;exact hr _ (by simp)
  ·cases h
 simp only[key];exact h
theorem b4s{T:Tys}{n t:Nat}{s x:SV}{i:ApI}{rd rd':Nm->Option Ob}{e:Eff}{p:Prop}(h:a3B T n t s x i rd=some (e,p))(hr:∀ m∈e.rds,rd' m=rd m):a3B T n t s x i rd'=some (e,p):=by
 unfold a3B at h ⊢;split at h
 case h_2=>cases h
 rename_i el0 _ _ _ _ hti;split at h
 case h_2=>cases h
 rename_i te hte;split at h
 case h_2=>cases h
 rename_i m vs mn p hsrc;split at h
 case h_2=>cases h
 rename_i hb;split at h
 case h_2=>cases h
 rename_i us q hus;split at h
 case h_2=>cases h
 rename_i b c l k p1 hdst
 have key:rd' n=rd n/\rd' mn=rd mn:=by
  split at h
  ·simp only[oI9,pI9]at h;obtain⟨rfl,_⟩:=h;exact⟨hr _ (by simp),hr _ (by simp)⟩
  ·cases h
 simp only[a4o hsrc key.2,hb,hus,key.1];exact h
theorem b0T{X:F6}(hX:B4 P X){op:Op}{R:ROp}(h:b0u X op=some R):b3g P R op:=by
 unfold b0u at h;split at h
 ·
  rename_i t;split at h
  ·rename_i n hn;simp only[oI9]at h;subst h;refine⟨?_,λh _ hr=>b1Z h hr⟩;intro W0 Fr U H ρ w nm ev a o ho hH hfr hev hall next Q hk;obtain⟨e,p,h1,h2⟩:=hall (0:Nat);obtain⟨b,e',p',h3,h4,h5⟩:=a9l (nm:=nm) hX.G.E.T hH h1;obtain⟨dst,op',ty',pos,after,guard⟩:=o;simp only at ho;subst ho;exact z9.wp (e:=e') h5 λρ' w' h6 h7=>hk b e' p' ρ' w' h3 h4 h6 h7
  ·cases h
 ·
  rename_i t len parts;split at h
  ·rename_i n hn;simp only[oI9]at h;subst h;refine⟨?_,fun {i ev ev' rd rd' nm e p} h hv hr=>?_⟩
   ·intro W0 Fr U H ρ w nm ev a o ho hH hfr hev hall next Q hk;obtain⟨e,p,h1,h2⟩:=hall (0:Nat);simp only at h1;split at h1
    ·rename_i ps hps;obtain⟨h8,h9⟩:=U3 hev hps;obtain⟨b,e',p',h3,h4,h5⟩:=a8T (nm:=nm) hX.G.E.T hH h1 h2;obtain⟨dst,op',ty',pos,after,guard⟩:=o;simp only at ho;subst ho;refine z9.wp (e:=e') ?_ λρ' w' h6 h7=>hk b e' p' ρ' w' (by simp only[hps];exact h3) h4 h6 h7
     rw[<-h8]at h5;have e1:(parts.map λp=>(p.1,a.eval p.2))=(parts.toList.map λp=>(p.1,a.eval p.2)).toArray:=by apply Array.ext';simp
     simp only[execOp];rw[show (parts.map λ(i,x)=>(i,a.eval x))=(parts.map λp=>(p.1,a.eval p.2))from rfl,e1];exact h5
    ·cases h1
   ·simp only at h ⊢;rw[U2 (ev:=ev) (ev':=ev') λp hp=>hv p.2 (by simp[Op.operands];exact⟨p.1,by simpa using hp⟩)];split at h
    ·exact b2c h hr
    ·cases h
  ·cases h
 ·rename_i c;split at h
  ·
   rename_i f hf;split at h
   ·rename_i k hk;simp only[oI9]at h;subst h;have hok:=hX.R f k hk;refine⟨?_,fun {i ev ev' rd rd' nm e p} h hv hr=>?_⟩
    ·intro W0 Fr U H ρ w nm ev a o ho hH hfr hev hall next Q hkk
     have hargs:∃ vs,evL ev c.args.toList=some vs:=by
      obtain⟨i0⟩:=k.ne;obtain⟨e,p,h1,_⟩:=hall i0;simp only[a7O]at h1;split at h1
      ·rename_i vs hvs;exact⟨vs,hvs⟩
      ·cases h1
     obtain⟨vs,hvs⟩:=hargs;obtain⟨h3,h4⟩:=H9 hev hvs
     have each:∀ i,∃ e p,k.c i (a4l X.G.E.T c.argTypes.toList vs none).1 (look H) nm=some (e,p)/\okP e.obl/\okP (a4l X.G.E.T c.argTypes.toList vs none).2:=by
      intro i;obtain⟨e,p,h1,h2⟩:=hall i;simp only[a7O,hvs]at h1;split at h1
      ·rename_i e' p' he;simp only[oI9,pI9]at h1;obtain⟨rfl,rfl⟩:=h1;obtain⟨h5,h6⟩:=b3i h2;exact⟨e',p',he,h5,h6⟩
      ·cases h1
     have hq:okP (a4l X.G.E.T c.argTypes.toList vs none).2:=by
      obtain⟨i0⟩:=k.ne;obtain⟨_,_,_,_,h⟩:=each i0;exact h
     obtain⟨_,hden,hbd⟩:=a8k ρ U hq
     have hcalls:=hok.calls hH (hbd h4) hfr λi=>by
      obtain⟨e,p,h1,h2,_⟩:=each i;exact⟨e,p,h1,h2⟩
     rw[hden]at hcalls
     have hrun:(execOp a.eval o).run P w=(callFunc f (w5 ρ vs).toArray).run P w:=by
      have e1:c.args.map a.eval=(w5 ρ vs).toArray:=by rw[<-h3];apply Array.ext';simp
      simp only[execOp,ho,resolve,hf,Act.eval,e1,Deferred.ofValue,Sem.run_bind,Sem.run_pure,Result.andThen_ok,invoke];congr 2;simp
     unfold Oper.wp;rw[hrun];rcases hcalls with⟨⟨fn,hfn,hname,hbody⟩,hcalls⟩|⟨v,w',hv,i,e,p,h5,hp,ρ',h6,h7,v',h8,h9,h10⟩
     ·have hcf:(callFunc f (w5 ρ vs).toArray).run P w=.ok (.enter f (w5 ρ vs).toArray) w:=by
       simp only[callFunc,Sem.run_bind,run_program,Result.andThen_ok,hfn,hname,hbody,Bool.false_eq_true,if_false,Sem.run_pure]
      rw[hcf];show Calls P f _ w _;refine hcalls.mono ?_;rintro en w' ⟨i,e,p,h5,hp,ρ',h6,h7,v,h8,h9,rfl⟩;have:=hkk i ⟨e.val,e.wr,e.news,e.rds,a3M e.obl (a4l X.G.E.T c.argTypes.toList vs none).2⟩ p ρ' w' (by simp only[a7O,hvs,h5]) hp h6 h7;simp only[h8]at this;exact this h9
     ·rw[hv];have:=hkk i ⟨e.val,e.wr,e.news,e.rds,a3M e.obl (a4l X.G.E.T c.argTypes.toList vs none).2⟩ p ρ' w' (by simp only[a7O,hvs,h5]) hp h6 h7;simp only[h8]at this;injection h10 with h10
      rw[h10];exact this h9
    ·simp only[a7O]at h ⊢;rw[I0 (ev:=ev) (ev':=ev') λx hx=>hv x (by simp[Op.operands,Call.operands];exact .inr (by simpa using hx))];split at h
     ·split at h
      ·rename_i e' p' he;simp only[oI9,pI9]at h;obtain⟨rfl,rfl⟩:=h;rw[hok.loc he hr]
      ·cases h
     ·cases h
   ·cases h
  ·
   rename_i hf;split at h
   ·rename_i t t' hat;split at h
    ·rename_i htt;have:=eB9 htt;subst this;split at h
     ·rename_i n hn;simp only[oI9]at h;subst h;refine⟨?_,fun {i ev ev' rd rd' nm e p} h hv hr=>?_⟩
      ·intro W0 Fr U H ρ w nm ev a o ho hH hfr hev hall next Q hk
       have hargs:∃ s x,evL ev c.args.toList=some [s,x]:=by
        obtain⟨e,p,h1,_⟩ := hall ⟨0,0,0,λ_=>False,λ_=>0,λ_ _=>.bool false⟩;simp only at h1;split at h1
        ·rename_i s x hvs;exact⟨s,x,hvs⟩
        ·cases h1
       obtain⟨s,x,hvs⟩:=hargs;obtain⟨h3,h4⟩:=H9 hev hvs;obtain⟨dst,op',ty',pos,after,guard⟩:=o;simp only at ho;subst ho
       obtain⟨i,e',p',h5,h6,h7⟩:=b0W (P:=P) (n:=n) (nm:=nm) (t:=t) (s:=s) (x:=x) hX.G.E.T hH (λi=>by
        obtain⟨e,p,h1,h2⟩:=hall i;simp only[hvs]at h1
        exact⟨e,p,h1,h2⟩) ty'
       refine z9.wp (e:=e') ?_ λρ' w' h8 h9=>hk i e' p' ρ' w' (by simp only[hvs];exact h5) h6 h8 h9
       have e1:c.args.map a.eval=(w5 ρ [s,x]).toArray:=by rw[<-h3];apply Array.ext';simp
       have e2:c.argTypes = #[t,t]:=by apply Array.ext';simpa using hat
       simp only[execOp,resolve,hf,Sem.run_bind,Sem.run_pure,Result.andThen_ok,invoke,e1,e2,builtin];simp only[Sem.run_bind,Sem.run_pure]at h7;exact h7
      ·simp only at h ⊢;rw[I0 (ev:=ev) (ev':=ev') λx hx=>hv x (by simp[Op.operands,Call.operands];exact .inr (by simpa using hx))];split at h
       ·exact b4s h hr
       ·cases h
     ·cases h
    ·cases h
   ·cases h
  ·cases h
 ·cases h
end
def SV.rawS:SV->Bool
 | .pb _ _ _=>true
 | .dv _ _=>true
 | .slb _ _ _ _ _=>true
 | _=>false
def a4J(ev:Operand->Option SV)(x:Operand):Bool :=
 match ev x with
 | some v=>v.rawS
 | none=>false
def a9P(ev:Operand->Option SV)(o:Op):Bool :=
 match o with
 | .load _ (.global _)=>true
 | .load _ x=>a4J ev x
 | .store _ x _=>a4J ev x
 | .binOp _ _ x _ _=>a4J ev x
 | .nilCheck x=>a4J ev x
 | .slice _ x _ _ _=>a4J ev x
 | .fieldAddr _ x _=>a4J ev x
 | .indexAddr _ x _=>a4J ev x
 | .typeAssert x _ _ _=>a4J ev x
 | .call c=>match c.callee with
  | .builtin .len=>match c.args.toList with
   | [x]=>a4J ev x
   | _=>false
  | .builtin .copy=>match c.args.toList with
   | [_,x]=>a4J ev x
   | _=>false
  | _=>false
 | _=>false
def evX(X:F6)(ev:Operand->Option SV)(rd:Nm->Option Ob)(nm:Nm)(o:Op):Option Eff :=
 match a9P ev o with
 | true=>rOp X.G.E ev rd o
 | false=>a1n X.G ev rd nm o
theorem a8x{ev ev':Operand->Option SV}{o:Op}(hv:∀ x∈o.operands,ev' x=ev x):a9P ev' o=a9P ev o:=by
 have key:∀ x,x∈o.operands->a4J ev' x=a4J ev x:=λx hx=>by unfold a4J;rw[hv x hx]
 cases o <;> try rfl
 case load t x=>cases x <;> first|rfl|exact key _ (by simp[Op.operands])
 case call c =>
  simp only[a9P];split
  ·split
   ·rename_i x hx
    exact key x (by
     simp[Op.operands,Call.operands];refine .inr ?_;have:x∈c.args.toList:=by rw[hx];simp
     simpa using this)
   ·rfl
  ·split
   ·rename_i y x hx
    exact key x (by
     simp[Op.operands,Call.operands];refine .inr ?_;have:x∈c.args.toList:=by rw[hx];simp
     simpa using this)
   ·rfl
  ·rfl
 all_goals exact key _ (by simp[Op.operands])
section
variable {P:Program} {X:F6}
theorem b8U(hX:B4 P X){ev ev':Operand->Option SV}{rd rd':Nm->Option Ob}{nm:Nm}{e:Eff}{o:Op}(h:evX X ev rd nm o=some e)(hv:∀ x∈o.operands,ev' x=ev x)(hr:∀ n∈e.rds,rd' n=rd n):evX X ev' rd' nm o=some e:=by
 unfold evX at *;rw[a8x hv];split at h
 ·exact b9i h hv hr
 ·exact a8q hX.G.Γ h hv hr
theorem a8t(hX : B4 P X){W0 : World}{Fr : Nat -> Prop}{U : Nm -> Prop}{H : z7}{ρ : Rho}{w : World}{nm : Nm}(hH : HSat W0 Fr U H ρ w)(hn : ∀ j, j < 24 -> ¬ U (nm + j)){ev : Operand -> Option SV}{a : Act}(hev : ∀ x v, ev x = some v -> a.eval x = v.den ρ /\ v.bd U)
   (hc : ∀ c v, ev (.const c) = some v -> c = v.den ρ) {o : Oper} {e : Eff} (h : evX X ev (look H) nm o.op = some e) (ho : okP e.obl)
   {next : Act -> World -> Prop} {Q : Exit -> Act -> World -> Prop}
   (hk : ∀ ρ' w', (∀ n, U n -> ρ' n = ρ n) -> HSat W0 Fr (UU U nm) (e.wr ++ (e.news ++ H)) ρ' w' ->
     (match e.val with
      | some v => v.bd (UU U nm) -> next (a.put o.dst (v.den ρ')) w'
      | none => next (a.put o.dst undef) w')) : o.wp P a w next Q := by
 unfold evX at h;split at h
 · exact z9.wp (b4N (nm := nm) hX.G.E hH hev h ho) hk
 · exact a1i hX.G hH hn hev hc h ho hk
def a4Q(X:F6)(N:Nat)(dec:List (Nat×Bool))(i:Nat)(o:Oper)(s:AS):Option Eff :=
 match evX X (opr s.1) (look s.2) (N+24*i) o.op with
 | some e=>some (a3D dec i e)
 | none=>none
def a2d(X:F6)(nt N:Nat)(ops:List Oper)(dec:List (Nat×Bool))(i:Nat)(o:Oper)(s:AS):Option Eff :=
 match (match o.dst with|none=>true|some d=>Nat.blt d nt)with
 | false=>none
 | true=>match o.guard with
  | none=>a4Q X N dec i o s
  | some (j,want)=>match a5c ops j with
   | none=>none
   | some d=>match slot s.1 d with
    | some .tt=>match want with
     | true=>a4Q X N dec i o s
     | false=>some a2w
    | some .ff=>match want with
     | true=>some a2w
     | false=>a4Q X N dec i o s
    | some (.tup [])=>some a2w
    | _=>none
variable {nt N:Nat} {ops:List Oper} {dec:List (Nat×Bool)}
theorem a4d(hX:B4 P X){i:Nat}{o:Oper}{s s':AS}{e:Eff}(h:a4Q X N dec i o s=some e)(hs:∀ t,Operand.tmp t∈o.op.operands->slot s'.1 t=slot s.1 t)(hr:∀ n∈e.rds,look s'.2 n=look s.2 n) :
  a4Q X N dec i o s'=some e:=by
 unfold a4Q at *;split at h
 ·rename_i e1 h1;simp only[oI9]at h
  have hrd:e.rds=e1.rds:=by
   rw[<-h];unfold a3D;split
   ·rfl
   ·split <;> rfl
  rw[hrd]at hr;have:=b8U hX (ev':=opr s'.1) (rd':=look s'.2) h1 (λx hx=>by cases x <;> first|exact hs _ hx|rfl) hr;rw[this,<-h]
 ·cases h
theorem b2b(hX:B4 P X){i:Nat}{o:Oper}{s s':AS}{e:Eff}(h:a2d X nt N ops dec i o s=some e)(hs:∀ t∈o.looksAt ops.toArray,slot s'.1 t=slot s.1 t)(hr:∀ n∈e.rds,look s'.2 n=look s.2 n) :
  a2d X nt N ops dec i o s'=some e:=by
 have hop:∀ t,Operand.tmp t∈o.op.operands->slot s'.1 t=slot s.1 t:=λt ht=>hs t (by
  simp only[Oper.looksAt,List.mem_append,List.mem_filterMap]
  exact .inl ⟨.tmp t,by simpa using ht,rfl⟩)
 unfold a2d at *;split at h
 ·cases h
 ·split at h
  ·exact a4d hX h hop hr
  ·rename_i j want hg;split at h
   ·cases h
   ·rename_i d hgd
    have hdst:(ops.toArray[j]?).bind (·.dst)=some d:=by
     unfold a5c at hgd;rw[V5]at hgd;split at hgd
     ·rename_i o' ho';simp[ho',hgd]
     ·cases hgd
    have hsd:slot s'.1 d=slot s.1 d:=hs d (by
     simp only[Oper.looksAt,hg,List.mem_append];refine .inr ?_
     rw[hdst];simp)
    rw[hsd];split at h
    ·split at h
     ·exact a4d hX h hop hr
     ·exact h
    ·split at h
     ·exact h
     ·exact a4d hX h hop hr
    ·exact h
    ·cases h
abbrev ChF:=(Operand->Option SV)->(Nm->Option Ob)->Nm->Option (Eff×Prop)
def b1g(g:ChF)(op:Op):Prop:=∀ {ev ev':Operand->Option SV} {rd rd':Nm->Option Ob} {nm:Nm} {e:Eff} {p:Prop},g ev rd nm=some (e,p)->(∀ x∈op.operands,ev' x=ev x)->(∀ n∈e.rds,rd' n=rd n)->g ev' rd' nm=some (e,p)
def a2A(X:F6)(nt N:Nat)(ops:List Oper)(dec:List (Nat×Bool))(r:Nat)(g:ChF)(asm:Prop)(i:Nat)(o:Oper)(s:AS)(e:Eff):Prop :=
 (i=r/\(∀ d,o.dst=some d->d<nt)/\o.guard=none/\g (opr s.1) (look s.2) (N+24*i)=some (e,asm))∨(i≠r/\a2d X nt N ops dec i o s=some e)
variable {r:Nat} {g:ChF} {asm:Prop}
theorem a2A.loc(hX:B4 P X)(hg:∀ o,ops[r]? = some o->b1g g o.op){i:Nat}{o:Oper}{s s':AS}{e:Eff}(hio:ops[i]? = some o)(h:a2A X nt N ops dec r g asm i o s e)(hs:∀ t∈o.looksAt ops.toArray,slot s'.1 t=slot s.1 t)(hr:∀ n∈e.rds,look s'.2 n=look s.2 n) :
  a2A X nt N ops dec r g asm i o s' e:=by
 rcases h with⟨rfl,h1,h2,h3⟩|⟨h1,h2⟩
 ·refine .inl ⟨rfl,h1,h2,hg o hio h3 (λx hx=>?_) hr⟩
  cases x with
  | tmp t =>
   exact hs t (by
    simp only[Oper.looksAt,List.mem_append,List.mem_filterMap]
    exact .inl ⟨.tmp t,by simpa using hx,rfl⟩)
  | _=>rfl
 ·exact .inr ⟨h1,b2b hX h2 hs hr⟩
def a0q(X:F6)(nt N:Nat)(ops:List Oper)(dec:List (Nat×Bool))(r:Nat)(g:ChF)(asm:Prop):List Ent->AS->Prop
 | [],_=>True
 | (i,o,e) :: l,s=>a2A X nt N ops dec r g asm i o s e/\a0q X nt N ops dec r g asm l (E6 o e s)
theorem a0q.same(hX:B4 P X)(hg:∀ o,ops[r]? = some o->b1g g o.op):∀ {l:List Ent} {s s':AS},(∀ x∈l,ops[x.1]? = some x.2.1)->S5 s s'->a0q X nt N ops dec r g asm l s->a0q X nt N ops dec r g asm l s'/\S5 (fin l s) (fin l s')
 | [],s,s',_,h,_=>⟨trivial,h⟩
 | (i,o,e) :: l,s,s',hl,h,hr=>by
  obtain⟨h1,h2⟩:=hr;have h3:=h1.loc hX hg (hl (i,o,e) (by simp)) (s':=s') (λt _=>h.1 t) (λn _=>h.2 n);obtain⟨h4,h5⟩:=a0q.same hX hg (λx hx=>hl x (by simp[hx])) (h.app o e) h2;exact⟨⟨h3,h4⟩,h5⟩
theorem c6T(hX:B4 P X)(hg:∀ o,ops[r]? = some o->b1g g o.op){i j:Nat}{oi oj:Oper}{s:AS}{ei ej:Eff}(hoi:ops[i]? = some oi)(hoj:ops[j]? = some oj)(hi:a2A X nt N ops dec r g asm i oi s ei)(hj:a2A X nt N ops dec r g asm j oj (E6 oi ei s) ej)(h:a4M ops oi oj ei ej) :
  a2A X nt N ops dec r g asm j oj s ej/\a2A X nt N ops dec r g asm i oi (E6 oj ej s) ei/\S5 (E6 oj ej (E6 oi ei s)) (E6 oi ei (E6 oj ej s)):=by
 obtain⟨h1,h2,h3⟩:=Oper.apart_spec h.ap;refine⟨?_,?_,?_,?_⟩
 ·exact hj.loc hX hg hoj (λt ht=>(F7 (λhd=>h1 t hd ht)).symm) (λn hn=>(O7 (h.rd n hn)).symm)
 ·exact hi.loc hX hg hoi (λt ht=>F7 (λhd=>h3 t hd ht)) (λn hn=>O7 (h.dr n hn))
 ·intro t;by_cases ht:oi.dst=some t
  ·have hne:oj.dst≠some t:=h2 t ht;rw[F7 hne];simp only[E6,ht];cases ei.val <;> simp[G4]
  ·rw[F7 ht];by_cases ht2:oj.dst=some t
   ·simp only[E6,ht2];cases ej.val <;> simp[G4]
   ·rw[F7 ht2,F7 ht2,F7 ht]
 ·intro n;by_cases hn:n∈a2Q ei
  ·have hn2:=h.wr n hn;rw[O7 hn2];simp only[E6,C7];simp only[a2Q,List.mem_append,not_or]at hn hn2
   cases hw:look ei.wr n with
   | some x=>rfl
   | none =>
    cases hw2:look ei.news n with
    | some x=>rfl
    | none=>simp[H4 hn2.1,H4 hn2.2]
  ·rw[O7 hn];simp only[E6,C7];simp only[a2Q,List.mem_append,not_or]at hn;simp[H4 hn.1,H4 hn.2]
theorem b4k(hX:B4 P X)(hg:∀ o,ops[r]? = some o->b1g g o.op){i:Nat}{o:Oper}{e:Eff}{post:List Ent}:∀ {pre:List Ent} {s:AS},(∀ x∈pre++(i,o,e) :: post,ops[x.1]? = some x.2.1)->a0q X nt N ops dec r g asm (pre++(i,o,e) :: post) s->(∀ x∈pre,a4M ops x.2.1 o x.2.2 e)->
  a2A X nt N ops dec r g asm i o s e/\a0q X nt N ops dec r g asm (pre++post) (E6 o e s)/\S5 (fin (pre++(i,o,e) :: post) s) (fin (pre++post) (E6 o e s))
 | [],s,_,h,_=>⟨h.1,h.2,S5.refl _⟩
 | (k,ok,ek) :: pre,s,hl,h,hi=>by
  obtain⟨h1,h2⟩:=h;obtain⟨h3,h4,h5⟩:=b4k hX hg (λx hx=>hl x (List.mem_cons_of_mem _ hx)) h2 (λx hx=>hi x (by simp[hx]));obtain⟨h6,h7,h8⟩:=c6T hX hg (hl (k,ok,ek) (by simp)) (hl (i,o,e) (by simp)) h1 h3 (hi (k,ok,ek) (by simp))
  obtain⟨h9,h10⟩:=a0q.same hX hg (λx hx=>hl x (by
   simp only[List.cons_append,List.mem_cons,List.mem_append]at hx ⊢;rcases hx with hx|hx
   ·exact .inr (.inl hx)
   ·exact .inr (.inr (.inr hx)))) h8 h4
  exact⟨h6,⟨h7,h9⟩,h5.trans h10⟩
end
def UI(N M:Nat)(idx:List Nat):Nm->Prop:=λ(n:Nat)=>n<N+24*M/\∀ j∈idx,¬(N+24*j<=n/\n<N+24*j+24)
section
variable {P:Program} {W0:World} {Fr:Nat->Prop} {X:F6} {nt N:Nat} {ops:List Oper} {dec:List (Nat×Bool)}
theorem UI.grow{M:Nat}{idx idx':List Nat}{i:Nat}(hiM:i<M)(hsub:∀ x∈idx',x∈idx)(hne:∀ x∈idx',x≠i):∀ n,UU (UI N M idx) (N+24*i) n->UI N M idx' n:=by
 intro n hn;rcases hn with hn|hn
 ·exact⟨hn.1,λx hx=>hn.2 x (hsub x hx)⟩
 ·refine⟨?_,λx hx hx2=>?_⟩
  ·have h1:n<N+24*i+24:=hn.2;omega
  ·have h1:N+24*i<=n/\n<N+24*i+24:=hn;have:=hne x hx;omega
theorem c3D(hX:B4 P X){M:Nat}{idx idx':List Nat}{i:Nat}{o:Oper}{e:Eff}{s:AS}{ρ:Rho}{a:Act}{w:World}
  (h:a2d X nt N ops dec i o s=some e) (ho:okP e.obl) (hS:a6K W0 Fr nt (UI N M idx) s ρ a w) (hin:i∈idx) (hiM:i<M) (hsub:∀ x∈idx',x∈idx) (hne:∀ x∈idx',x≠i)
  {next:Act->World->Prop} {Q:Exit->Act->World->Prop}
  (hk:∀ ρ' a' w',a6K W0 Fr nt (UI N M idx') (E6 o e s) ρ' a' w'->(∀ n,UI N M idx n->ρ' n=ρ n)->next a' w'):a7n P ops.toArray o a w next Q:=by
 have hmono:∀ n,UI N M idx n->UI N M idx' n:=λn hn=>⟨hn.1,λx hx=>hn.2 x (hsub x hx)⟩
 have hU:=UI.grow (N:=N) (M:=M) (idx:=idx) (idx':=idx') hiM hsub hne
 have hn4:∀ j:Nat,j<24->¬UI N M idx (N+24*i+j):=by
  intro j hj hu;exact hu.2 i hin ⟨Nat.le_add_right _ _,by omega⟩
 have skip:e=a2w->(∀ d,o.dst=some d->d<nt)->next (a.put o.dst undef) w:=by
  intro he hd;subst he;refine hk ρ _ w ⟨?_,?_⟩ (λ_ _=>rfl)
  ·exact hS.h.mono hmono
  ·have hs:=hS.s.mono hmono (λ_ _=>rfl);simp only[E6,a2w]
   cases hdst:o.dst with
   | none=>simpa [Act.put]using hs
   | some d=>exact hs.put (v:=.tup []) (hd d hdst) (by simp[SV.bd,bdL])
 have run:a4Q X N dec i o s=some e->(∀ d,o.dst=some d->d<nt)->o.wp P a w next Q:=by
  intro hr hd;unfold a4Q at hr;split at hr
  ·rename_i e1 h1;simp only[oI9]at hr;subst hr;obtain⟨h2,h3,h4,h5⟩:=a7S ho;refine a8t hX hS.h hn4 (λx v hx=>I2 hS.s hx) (λc v hc=>a2h hc ρ) h1 h2 (λρ' w' hr' hH=>?_)
   have hH':HSat W0 Fr (UI N M idx') ((a3D dec i e1).wr++((a3D dec i e1).news++s.2)) ρ' w':=by
    rw[h3,h4];exact hH.mono hU
   have hs:=hS.s.mono hmono hr';split
   ·rename_i v hv;intro hb;rw[hv]at h5;obtain⟨v',h6,h7,h8⟩:=h5;refine hk ρ' _ w' ⟨hH',?_⟩ hr';rw[<-h7 ρ'];simp only[E6,h6]
    cases hdst:o.dst with
    | none=>simpa [Act.put]using hs
    | some d=>exact hs.put (hd d hdst) (h8 _ (SV.bd_mono hU v hb))
   ·rename_i hv;rw[hv]at h5;refine hk ρ' _ w' ⟨hH',?_⟩ hr';simp only[E6,h5]
    cases hdst:o.dst with
    | none=>simpa [Act.put]using hs
    | some d=>exact hs.put (v:=.tup []) (hd d hdst) (by simp[SV.bd,bdL])
  ·cases hr
 unfold a2d at h;split at h
 ·cases h
 ·rename_i hd0
  have hd:∀ d,o.dst=some d->d<nt:=by
   intro d hd;rw[hd]at hd0;simpa using hd0
  unfold a7n;split at h
  ·rename_i hg;rw[if_pos (by simp[Region.wanted,hg])];exact .inl (run h hd)
  ·rename_i j want hg;split at h
   ·cases h
   ·rename_i d hgd
    have hdst:(ops.toArray[j]?).bind (·.dst)=some d:=by
     unfold a5c at hgd;rw[V5]at hgd;split at hgd
     ·rename_i o' ho';simp[ho',hgd]
     ·cases hgd
    have wantedIs:∀(v:Value),a.tmps[d]? = some v->Region.wanted o (yielded ops.toArray a.tmps)=((match v with | .bool b=>some b|_=>none)==some want):=by
     intro v hv;simp only[Region.wanted,hg,yielded,hdst,Option.bind_some,hv];cases v <;> rfl
    split at h
    ·rename_i hv;have hw:=wantedIs _ (hS.s.val _ _ hv);simp only[SV.den]at hw;split at h
     ·rw[hw];exact .inl (run h hd)
     ·rw[hw];exact skip (by simpa using h.symm) hd
    ·rename_i hv;have hw:=wantedIs _ (hS.s.val _ _ hv);simp only[SV.den]at hw;split at h
     ·rw[hw];exact skip (by simpa using h.symm) hd
     ·rw[hw];exact .inl (run h hd)
    ·rename_i hv;have hw:=wantedIs _ (hS.s.val _ _ hv);simp only[SV.den]at hw;rw[hw];exact skip (by simpa using h.symm) hd
    ·cases h
theorem c4z{R:ROp}{M:Nat}{idx idx':List Nat}{i:Nat}{o:Oper}(hR:b3g P R o.op){s:AS}{ρ:Rho}{a:Act}{w:World}
  (hgd:o.guard=none) (hd:∀ d,o.dst=some d->d<nt) (hall:∀ x,∃ e p,R.ev x (opr s.1) (look s.2) (N+24*i)=some (e,p)/\okP e.obl)
  (hS:a6K W0 Fr nt (UI N M idx) s ρ a w) (hin:i∈idx) (hiM:i<M) (hsub:∀ x∈idx',x∈idx) (hne:∀ x∈idx',x≠i)
  {next:Act->World->Prop} {Q:Exit->Act->World->Prop}
  (hk:∀ x e p ρ' a' w',R.ev x (opr s.1) (look s.2) (N+24*i)=some (e,p)->p->a6K W0 Fr nt (UI N M idx') (E6 o e s) ρ' a' w'->(∀ n,UI N M idx n->ρ' n=ρ n)->next a' w'):a7n P ops.toArray o a w next Q:=by
 have hmono:∀ n,UI N M idx n->UI N M idx' n:=λn hn=>⟨hn.1,λx hx=>hn.2 x (hsub x hx)⟩
 have hU:=UI.grow (N:=N) (M:=M) (idx:=idx) (idx':=idx') hiM hsub hne
 have hn4:∀ j:Nat,j<24->¬UI N M idx (N+24*i+j):=by
  intro j hj hu;exact hu.2 i hin ⟨Nat.le_add_right _ _,by omega⟩
 unfold a7n;rw[if_pos (by simp[Region.wanted,hgd])];refine .inl (hR.sound rfl hS.h hn4 (λx v hx=>I2 hS.s hx) hall λx e p ρ' w' h1 h2 hr' hH=>?_);have hs:=hS.s.mono hmono hr';split
 ·rename_i v hv;intro hb;refine hk x e p ρ' _ w' h1 h2 ⟨hH.mono hU,?_⟩ hr';simp only[E6,hv]
  cases hdst:o.dst with
  | none=>simpa [Act.put]using hs
  | some d=>exact hs.put (hd d hdst) (SV.bd_mono hU v hb)
 ·rename_i hv;refine hk x e p ρ' _ w' h1 h2 ⟨hH.mono hU,?_⟩ hr';simp only[E6,hv]
  cases hdst:o.dst with
  | none=>simpa [Act.put]using hs
  | some d=>exact hs.put (v:=.tup []) (hd d hdst) (by simp[SV.bd,bdL])
theorem b2B{pre post:List Ent}{x:Ent}(h:∀ y∈pre++post,y.1≠x.1):(pre++x :: post).filter (λy => !(y.1==x.1))=pre++post:=by
 have key:∀ l:List Ent,(∀ y∈l,y.1≠x.1)->l.filter (λy => !(y.1==x.1))=l:=λl hl=>List.filter_eq_self.2 λy hy=>by simpa using hl y hy
 rw[List.filter_append,key pre (λy hy=>h y (by simp[hy]))];congr 1;rw[List.filter_cons];simp only[beq_self_eq_true,Bool.not_true,Bool.false_eq_true,if_false];exact key post (λy hy=>h y (by simp[hy]))
theorem b2j(hX:B4 P X)(hback:a2m ops=true){R:ROp}{r:Nat}(hR:∀ o,ops[r]? = some o->b3g P R o.op){asm:R.ι->Prop}{F:R.ι->AS}{ρ0:Rho}{N0:Nat}(hN0:N0<=N){Q:Exit->Act->World->Prop}
  (hQ:∀ i,asm i->∀ ρ a w,a6K W0 Fr nt (UI N ops.length []) (F i) ρ a w->(∀ n,n<N0->ρ n=ρ0 n)->Q .normal a w) :
  ∀(fuel:Nat)(idx:List Nat)(J:R.ι->Prop)(L:R.ι->List Ent)(listed:Array Bool)(s:AS)(ρ:Rho)(a:Act)(w:World),idx.length=fuel->listed.size=ops.length->
   (∀ j,j<ops.length->listed[j]? = some (!decide (j∈idx)))->(∃ i,J i)->(∀ i,J i->(L i).map (·.1)=idx)->
   (∀ i,J i->∀ x∈L i,ops[x.1]? = some x.2.1)->idx.Pairwise (·< ·)->(∀ i,J i->(L i).Pairwise (c3u ops))->(∀ i,J i->∀ x∈L i,okP x.2.2.obl∨((((J2 ops [])[x.1]?).getD 0).testBit r=true/\(asm i->okP x.2.2.obl)))->
   (∀ i o,ops[i]? = some o->listed.getD i false=true->∀ e∈o.after,Region.binds .any e=true->listed.getD e.on false=true)->
   ((r∈idx/\∀ i,J i)∨(r∉idx/\∀ i,J i->asm i))->
   (∀ i,J i->a0q X nt N ops dec r (R.ev i) (asm i) (L i) s)->(∀ i,J i->S5 (F i) (fin (L i) s))->a6K W0 Fr nt (UI N ops.length idx) s ρ a w->(∀ n,n<N0->ρ n=ρ0 n)->
   wpAny P .any ops.toArray Q fuel listed a w:=by
 have hb:=a2F ops 0 hback;have hg:∀ i:R.ι,∀ o,ops[r]? = some o->b1g (R.ev i) o.op:=λi o ho=>λh1 h2 h3=>(hR o ho).loc h1 h2 h3
 intro fuel
 induction fuel with
 | zero =>
  intro idx J L listed s ρ a w hl hsz hli hJ hLi hops hsort hpair hobl hcl hph hruns hF hS hρ;have hl0:idx=[]:=List.length_eq_zero_iff.1 hl;subst hl0;obtain⟨i0,hi0⟩:=hJ
  have hasm:asm i0:=by
   rcases hph with⟨h,_⟩|⟨_,h⟩
   ·simp at h
   ·exact h i0 hi0
  have hLe:L i0=[]:=List.map_eq_nil_iff.1 (hLi i0 hi0);have hF0:=hF i0 hi0;rw[hLe]at hF0;refine⟨?_,hQ i0 hasm ρ a w ?_ hρ⟩
  ·refine List.eq_nil_iff_forall_not_mem.2 λj hj=>?_
   rw[mem_ready]at hj;obtain⟨h1,o,ho,_⟩:=hj
   have hlt:j<ops.length:=by
    have:=(Array.getElem?_eq_some_iff.1 ho).1;simpa using this
   have:=hli j hlt;simp[Array.getD_eq_getD_getElem?,this]at h1
  ·exact⟨hS.h.lookEq λn=>(hF0.2 n).symm,{hS.s with
    bd:=λt v hv=>hS.s.bd t v (by rw[<-hv];exact hF0.1 t)
    val:=λt v hv=>hS.s.val t v (by rw[<-hv];exact hF0.1 t)}⟩
 | succ fuel ih =>
  intro idx J L listed s ρ a w hl hsz hli hJ hLi hops hsort hpair hobl hcl hph hruns hF hS hρ
  have pend:∀ j,j<ops.length->(listed.getD j true=false↔j∈idx):=by
   intro j hj;simp[Array.getD_eq_getD_getElem?,hli j hj]
  have isl:∀ j,listed.getD j false=true↔(j<ops.length/\j∉idx):=by
   intro j;by_cases hj:j<ops.length
   ·simp[Array.getD_eq_getD_getElem?,hli j hj,hj]
   ·have:listed[j]? = none:=Array.getElem?_eq_none (by omega);simp[Array.getD_eq_getD_getElem?,this,hj]
  have entry:∀ i,J i->∀ j∈idx,∃ x∈L i,x.1=j:=by
   intro i hi j hj;rw[<-hLi i hi]at hj;obtain⟨x,hx,hxj⟩:=List.mem_map.1 hj;exact⟨x,hx,hxj⟩
  refine⟨λhre=>?_,λi hi=>?_⟩
  ·exfalso
   match idx,hl with
   | j :: rest,hl =>
    obtain⟨i0,hi0⟩:=hJ;obtain⟨x,hx,hxj⟩:=entry i0 hi0 j (by simp);have hox:=hops i0 hi0 x hx;rw[hxj]at hox;have hlt:j<ops.length:=(List.getElem?_eq_some_iff.1 hox).1
    have hmem:j∈Region.ready .any ops.toArray listed:=by
     rw[mem_ready];refine⟨(pend j hlt).2 (by simp),x.2.1,by simpa using hox,λe he hbe=>?_⟩;have h1:=hb j x.2.1 hox e he hbe;rw[isl];refine⟨by omega,λhy=>?_⟩;rcases List.mem_cons.1 hy with hy|hy
     ·omega
     ·have:=(List.pairwise_cons.1 hsort).1 _ hy;omega
    rw[hre]at hmem;cases hmem
  ·rw[mem_ready]at hi;obtain⟨h1,o',ho',hedges⟩:=hi
   have hlt:i<ops.length:=by
    have:=(Array.getElem?_eq_some_iff.1 ho').1;simpa using this
   have hii:i∈idx:=(pend i hlt).1 h1;have ho2:ops[i]? = some o':=by simpa using ho'
   have front:∀ k,J k->∃ e,(i,o',e)∈L k/\a2A X nt N ops dec r (R.ev k) (asm k) i o' s e/\
     a0q X nt N ops dec r (R.ev k) (asm k) ((L k).filter λy => !(y.1==i)) (E6 o' e s)/\S5 (fin (L k) s) (fin ((L k).filter λy => !(y.1==i)) (E6 o' e s))/\((L k).filter λy => !(y.1==i)).length+1=(L k).length:=by
    intro k hk;obtain⟨x,hx,hxi⟩:=entry k hk i hii;have hox:=hops k hk x hx;rw[hxi,ho2]at hox;injection hox with hox
    obtain⟨i',o,e⟩:=x;simp only at hxi hox;subst hxi hox;obtain⟨pre,post,hpp⟩:=List.append_of_mem hx
    have hsk:(L k).Pairwise (λx y=>x.1<y.1):=by
     have:=hsort;rw[<-hLi k hk]at this;exact List.pairwise_map.1 this
    have hpk:=hpair k hk;rw[hpp]at hsk hpk
    have hind:∀ y∈pre,a4M ops y.2.1 o' y.2.2 e:=by
     intro y hy;have hp:=(List.pairwise_append.1 hpk).2.2 y hy (i',o',e) (by simp);rcases hp with hp|hp
     ·exfalso;have:=a3J (ops:=ops) (L:=λj=>listed.getD j false=true) hcl i' o' ho2 hedges y.1 hp;rw[isl]at this;refine this.2 ?_;rw[<-hLi k hk,hpp];exact List.mem_map.2 ⟨y,by simp[hy],rfl⟩
     ·exact hp
    have hr:=hruns k hk;rw[hpp]at hr;obtain⟨h2,h3,h4⟩:=b4k hX (hg k) (λy hy=>hops k hk y (by rw[hpp];exact hy)) hr hind
    have hne:∀ y∈pre++post,y.1≠i':=by
     intro y hy;have hs:=List.pairwise_append.1 hsk;rcases List.mem_append.1 hy with hy|hy
     ·exact Nat.ne_of_lt (hs.2.2 y hy (i',o',e) (by simp))
     ·exact Nat.ne_of_gt ((List.pairwise_cons.1 hs.2.1).1 y hy)
    have hfil:(L k).filter (λy => !(y.1==i'))=pre++post:=by rw[hpp];exact b2B (x:=(i',o',e)) hne
    refine⟨e,hx,h2,by rw[hfil];exact h3,by rw[hfil,hpp];exact h4,by rw[hfil,hpp];simp only[List.length_append,List.length_cons];omega⟩
   have hsub:∀ y∈idx.filter (λy => !(y==i)),y∈idx:=λy hy=>(List.mem_filter.1 hy).1
   have hne:∀ y∈idx.filter (λy => !(y==i)),y≠i:=λy hy=>by simpa using (List.mem_filter.1 hy).2
   have hmapL:∀ k,J k->((L k).filter λy => !(y.1==i)).map (·.1)=idx.filter λy => !(y==i):=by
    intro k hk;rw[<-hLi k hk,List.filter_map];rfl
   have hlen:(idx.filter λy => !(y==i)).length=fuel:=by
    obtain⟨k0,hk0⟩:=hJ;obtain⟨_,_,_,_,_,h5⟩:=front k0 hk0;have h6:=congrArg List.length (hmapL k0 hk0);have h7:=congrArg List.length (hLi k0 hk0);simp only[List.length_map]at h6 h7;omega
   have next:∀(J':R.ι->Prop)(e:Eff),(∀ k,J' k->J k)->(∃ k,J' k)->((r∈idx.filter (λy => !(y==i))/\∀ k,J' k)∨(r∉idx.filter (λy => !(y==i))/\∀ k,J' k->asm k))->
     (∀ k,J' k->a0q X nt N ops dec r (R.ev k) (asm k) ((L k).filter λy => !(y.1==i)) (E6 o' e s)/\S5 (fin (L k) s) (fin ((L k).filter λy => !(y.1==i)) (E6 o' e s)))->
     ∀ ρ' a' w',a6K W0 Fr nt (UI N ops.length (idx.filter λy => !(y==i))) (E6 o' e s) ρ' a' w'->(∀ n,UI N ops.length idx n->ρ' n=ρ n)->wpAny P .any ops.toArray Q fuel (listed.setIfInBounds i true) a' w':=by
    intro J' e hJ' hJne hph' hk' ρ' a' w' hS' hρ'
    refine ih (idx.filter λy => !(y==i)) J' (λk=>(L k).filter λy => !(y.1==i)) _ _ ρ' a' w' hlen (by simpa using hsz) ?_ hJne (λk hk=>hmapL k (hJ' k hk)) (λk hk y hy=>hops k (hJ' k hk) y (List.mem_filter.1 hy).1)
     (hsort.sublist List.filter_sublist) (λk hk=>(hpair k (hJ' k hk)).sublist List.filter_sublist) (λk hk y hy=>hobl k (hJ' k hk) y (List.mem_filter.1 hy).1) ?_ hph' (λk hk=>(hk' k hk).1) (λk hk=>(hF k (hJ' k hk)).trans (hk' k hk).2) hS' ?_
    ·intro j hj;by_cases hji:i=j
     ·subst hji;rw[Array.getElem?_setIfInBounds_self_of_lt (by omega)];simp
     ·rw[Array.getElem?_setIfInBounds_ne hji,hli j hj];congr 2
      apply decide_eq_decide.2
      simp[Ne.symm hji]
    ·intro k ok hok hk e' he' hb';by_cases hki:i=k
     ·subst hki;rw[ho2]at hok;injection hok with hok
      subst hok;exact getD_set_true (hedges e' he' hb')
     ·rw[getD_set_ne false hki]at hk;exact getD_set_true (hcl k ok hok hk e' he' hb')
    ·intro n hn
     have hu:UI N ops.length idx n:=by
      have hnN:n<N:=Nat.lt_of_lt_of_le hn hN0;refine⟨Nat.lt_of_lt_of_le hnN (Nat.le_add_right _ _),λy _ hy=>?_⟩;have h5:N+24*y<=n:=hy.1;have h6:N<=n:=Nat.le_trans (Nat.le_add_right _ _) h5;exact absurd hnN (Nat.not_lt.2 h6)
     exact(hρ' n hu).trans (hρ n hn)
   unfold wpOp;rw[ho'];by_cases hir:i=r
   ·subst hir;rcases hph with⟨_,hall⟩|⟨hno,_⟩
    ·have info:∀ k,∃ e,(i,o',e)∈L k/\((∀ d,o'.dst=some d->d<nt)/\o'.guard=none/\R.ev k (opr s.1) (look s.2) (N+24*i)=some (e,asm k))/\
       a0q X nt N ops dec i (R.ev k) (asm k) ((L k).filter λy => !(y.1==i)) (E6 o' e s)/\S5 (fin (L k) s) (fin ((L k).filter λy => !(y.1==i)) (E6 o' e s)):=by
      intro k;obtain⟨e,h2,h3,h4,h5,_⟩:=front k (hall k);rcases h3 with⟨_,h6,h7,h8⟩|⟨h6,_⟩
      ·exact⟨e,h2,⟨h6,h7,h8⟩,h4,h5⟩
      ·exact absurd rfl h6
     obtain⟨k0,_⟩:=hJ;obtain⟨e0,_,⟨hd,hgd,_⟩,_⟩:=info k0;refine c4z (hR o' ho2) hgd hd (λk=>?_) hS hii hlt hsub hne λk e p ρ' a' w' h2 h3 hS' hρ'=>?_
     ·obtain⟨e,h2,⟨_,_,h3⟩,_⟩:=info k;refine⟨e,asm k,h3,?_⟩;rcases hobl k (hall k) _ h2 with ho9|⟨hb9,_⟩
      ·exact ho9
      ·have:=a3J (ops:=ops) (L:=λj=>listed.getD j false=true) hcl i o' ho2 hedges i hb9;rw[isl]at this;exact absurd hii this.2
     ·obtain⟨e1,h4,⟨_,_,h5⟩,h6,h7⟩:=info k;rw[h2]at h5;simp only[oI9,pI9]at h5;obtain⟨rfl,rfl⟩:=h5;exact next (λx=>x=k) e (λx _=>hall x) ⟨k,rfl⟩ (.inr ⟨λhm=>hne _ hm rfl,λx hx=>by subst hx;exact h3⟩) (λx hx=>by subst hx;exact⟨h6,h7⟩) ρ' a' w' hS' hρ'
    ·exact absurd hii hno
   ·obtain⟨k0,hk0⟩:=hJ;obtain⟨e,h2,h3,_⟩:=front k0 hk0
    have hst:a2d X nt N ops dec i o' s=some e:=by
     rcases h3 with⟨h,_⟩|⟨_,h⟩
     ·exact absurd h hir
     ·exact h
    have hob9:okP e.obl:=by
     rcases hobl k0 hk0 _ h2 with ho9|⟨hb9,ha9⟩
     ·exact ho9
     ·have:=a3J (ops:=ops) (L:=λj=>listed.getD j false=true) hcl i o' ho2 hedges r hb9;rw[isl]at this;rcases hph with⟨h4,_⟩|⟨_,h5⟩
      ·exact absurd h4 this.2
      ·exact ha9 (h5 k0 hk0)
    refine c3D hX hst hob9 hS hii hlt hsub hne λρ' a' w' hS' hρ'=>next J e (λ_ h=>h) ⟨k0,hk0⟩ ?_ (λk hk=>?_) ρ' a' w' hS' hρ'
    ·have hr:r∈idx.filter (λy => !(y==i))↔r∈idx:=by simp[Ne.symm hir]
     rcases hph with⟨h4,h5⟩|⟨h4,h5⟩
     ·exact .inl ⟨hr.2 h4,h5⟩
     ·exact .inr ⟨λh=>h4 (hr.1 h),h5⟩
    ·obtain⟨e',_,h4,h5,h6,_⟩:=front k hk
     have:e'=e:=by
      rcases h4 with⟨h,_⟩|⟨_,h⟩
      ·exact absurd h hir
      ·rw[hst]at h;injection h with h;exact h.symm
     subst this;exact⟨h5,h6⟩
end
def a2T(X:F6)(o:Oper)(S:St)(K:St->Prop):Prop :=
 match a2y S o.dst with
 | true=>match b0u X o.op with
  | some R=>∀ i,match R.ev i (opr S.sl) (look S.H) S.N with
   | some (e,p)=>okK e.obl (p->K (S.app o.dst e))
   | none=>False
  | none=>match c3R S o.op with
   | some (k,a,b)=>∀ r,C6 k a b r->K (S.app o.dst (Eff.pure (.flt k r)))
   | none=>match evX X (opr S.sl) (look S.H) S.N o.op with
    | some e=>okK e.obl (K (S.app o.dst e))
    | none=>False
 | false=>False
def b1J(X:F6)(ops:List Oper)(o:Oper)(S:St)(K:St->Prop):Prop :=
 match o.guard with
 | none=>a2T X o S K
 | some (j,want)=>match a5c ops j with
  | none=>False
  | some d=>match slot S.sl d with
   | some .tt=>match want with
    | true=>a2T X o S K
    | false=>a1b o S K
   | some .ff=>match want with
    | true=>a1b o S K
    | false=>a2T X o S K
   | some (.tup [])=>a1b o S K
   | some (.bool b) =>
    (b=true->match want with
     | true=>a2T X o (V2 S d .tt) K
     | false=>a1b o (V2 S d .tt) K)/\
    (b=false->match want with
     | true=>a1b o (V2 S d .ff) K
     | false=>a2T X o (V2 S d .ff) K)
   | _=>False
def a8P(X:F6)(ops:List Oper):List Oper->St->(St->Prop)->Prop
 | [],S,K=>K S
 | o :: r,S,K=>b1J X ops o S (λS'=>a8P X ops r S' K)
section
variable {P:Program} {W0:World} {Fr:Nat->Prop} {X:F6} {S:St} {ρ:Rho} {a:Act} {w:World}
theorem a7x{N0:Nat}{ρ0:Rho}{o:Oper}{K:St->Prop}{e:Eff}(hd:a2y S o.dst=true)(hS:Sat W0 Fr S ρ a w)(hN:N0<=S.N)(hρ:∀ n,n<N0->ρ n=ρ0 n){next:Act->World->Prop}(hK:a1U W0 Fr N0 ρ0 K next)
  (h2:K (S.app o.dst e)) {ρ':Rho} {w':World} (hr:∀ n,n<S.N->ρ' n=ρ n) (hH:HSat W0 Fr (UU (·< S.N) S.N) (e.wr++(e.news++S.H)) ρ' w') :
  match e.val with
  | some v=>v.bd (UU (·< S.N) S.N)->next (a.put o.dst (v.den ρ')) w'
  | none=>next (a.put o.dst undef) w':=by
 have hU:∀ n,UU (·< S.N) S.N n->n<S.N+24:=by
  intro n hn;rcases hn with hn|hn
  ·exact Nat.lt_of_lt_of_le hn (Nat.le_add_right _ _)
  ·exact hn.2
 have hH':=hH.mono (U':=(·< S.N+24)) hU;have hs':=hS.s.mono (U':=(·< S.N+24)) (λn hn=>Nat.lt_of_lt_of_le hn (Nat.le_add_right _ _)) hr;have hρ':∀ n,n<N0->ρ' n=ρ0 n:=λn hn=>(hr n (Nat.lt_of_lt_of_le hn hN)).trans (hρ n hn)
 have hN':N0<=S.N+24:=Nat.le_trans hN (Nat.le_add_right _ _);split
 ·rename_i v hv;intro hb;refine hK (S.app o.dst e) ρ' _ _ h2 ⟨hH',?_⟩ hN' hρ'
  cases hdst:o.dst with
  | none=>simpa [St.app,Act.put]using hs'
  | some d =>
   have hd':d<S.nt:=by rw[hdst]at hd;simpa [a2y]using hd
   simp only[St.app,hv];exact hs'.put hd' (SV.bd_mono hU v hb)
 ·rename_i hv;refine hK (S.app o.dst e) ρ' _ _ h2 ⟨hH',?_⟩ hN' hρ'
  cases hdst:o.dst with
  | none=>simpa [St.app,Act.put]using hs'
  | some d =>
   have hd':d<S.nt:=by rw[hdst]at hd;simpa [a2y]using hd
   simp only[St.app,hv];exact hs'.put (v:=.tup []) hd' (by simp[SV.bd,bdL])
theorem Q2(hX:B4 P X){N0:Nat}{ρ0:Rho}{o:Oper}{K:St->Prop}(h:a2T X o S K)(hS:Sat W0 Fr S ρ a w)(hN:N0<=S.N)(hρ:∀ n,n<N0->ρ n=ρ0 n)
  {next:Act->World->Prop} {Q:Exit->Act->World->Prop} (hK:a1U W0 Fr N0 ρ0 K next):o.wp P a w next Q:=by
 unfold a2T at h;split at h
 ·rename_i hd;split at h
  ·rename_i R hR
   have each:∀ i,∃ e p,R.ev i (opr S.sl) (look S.H) S.N=some (e,p)/\okP e.obl/\(p->K (S.app o.dst e)):=by
    intro i;have:=h i;split at this
    ·rename_i e p he;obtain⟨h1,h2⟩:=W2 this;exact⟨e,p,he,h1,h2⟩
    ·exact this.elim
   refine(b0T hX hR).sound (nm:=S.N) rfl hS.h (λj _=>by simp) (λx v hx=>I2 hS.s hx) (λi=>?_) λi e p ρ' w' h1 h2 hr hH=>?_
   ·obtain⟨e,p,h1,h2,_⟩:=each i;exact⟨e,p,h1,h2⟩
   ·obtain⟨e',p',h3,_,h4⟩:=each i;rw[h1]at h3;simp only[oI9,pI9]at h3;obtain⟨rfl,rfl⟩:=h3;exact a7x hd hS hN hρ hK (h4 h2) hr hH
  ·split at h
   ·rename_i k x y hq;exact O5 hX.G (o:=o) (K:=K) (by unfold a4N;rw[hd,hq];exact h) hS hN hρ hK
   ·split at h
    ·rename_i e he;obtain⟨h1,h2⟩:=W2 h;exact a8t hX hS.h (λj _=>by simp) (λx v hx=>I2 hS.s hx) (λc v hc=>a2h hc ρ) he h1 (λρ' w' hr hH=>a7x hd hS hN hρ hK h2 hr hH)
    ·exact h.elim
 ·exact h.elim
theorem a8O(hX:B4 P X){N0:Nat}{ρ0:Rho}{ops:List Oper}{o:Oper}{K:St->Prop}(h:b1J X ops o S K)(hS:Sat W0 Fr S ρ a w)(hN:N0<=S.N)(hρ:∀ n,n<N0->ρ n=ρ0 n)
  {next:Act->World->Prop} {Q:Exit->Act->World->Prop} (hK:a1U W0 Fr N0 ρ0 K next):a7n P ops.toArray o a w next Q:=by
 unfold b1J at h;unfold a7n;split at h
 ·rename_i hg;rw[if_pos (by simp[Region.wanted,hg])];exact .inl (Q2 hX h hS hN hρ hK)
 ·rename_i j want hg;split at h
  ·exact h.elim
  ·rename_i d hd
   have hdst:(ops.toArray[j]?).bind (·.dst)=some d:=by
    unfold a5c at hd;rw[V5]at hd;split at hd
    ·rename_i o' ho';simp[ho',hd]
    ·cases hd
   have wantedIs:∀(v:Value),a.tmps[d]? = some v->Region.wanted o (yielded ops.toArray a.tmps)=((match v with | .bool b=>some b|_=>none)==some want):=by
    intro v hv;simp only[Region.wanted,hg,yielded,hdst,Option.bind_some,hv];cases v <;> rfl
   split at h
   ·rename_i hv;have hw:=wantedIs _ (hS.s.val _ _ hv);simp only[SV.den]at hw;split at h
    ·rw[hw];exact .inl (Q2 hX h hS hN hρ hK)
    ·rw[hw];exact G8 h hS hN hρ hK
   ·rename_i hv;have hw:=wantedIs _ (hS.s.val _ _ hv);simp only[SV.den]at hw;split at h
    ·rw[hw];exact G8 h hS hN hρ hK
    ·rw[hw];exact .inl (Q2 hX h hS hN hρ hK)
   ·rename_i hv;have hw:=wantedIs _ (hS.s.val _ _ hv);simp only[SV.den]at hw;rw[hw];exact G8 h hS hN hρ hK
   ·rename_i b hv;have hw:=wantedIs _ (hS.s.val _ _ hv);simp only[SV.den]at hw;rw[hw];cases b
    ·have h2:=h.2 rfl;have hS':Sat W0 Fr (V2 S d .ff) ρ a w:=hS.set hv rfl trivial;split at h2
     ·exact G8 h2 hS' hN hρ hK
     ·exact .inl (Q2 hX h2 hS' hN hρ hK)
    ·have h1:=h.1 rfl;have hS':Sat W0 Fr (V2 S d .tt) ρ a w:=hS.set hv rfl trivial;split at h1
     ·exact .inl (Q2 hX h1 hS' hN hρ hK)
     ·exact G8 h1 hS' hN hρ hK
   ·exact h.elim
theorem a2u(hX:B4 P X){N0:Nat}{ρ0:Rho}{ops:List Oper}{Q:Exit->Act->World->Prop}:∀(l:List Oper)(k:Nat) {S:St} {ρ:Rho} {a:Act} {w:World} {K:St->Prop},(∀ j,l[j]? = ops[k+j]?)->
  a8P X ops l S K->Sat W0 Fr S ρ a w->N0<=S.N->(∀ n,n<N0->ρ n=ρ0 n)->a1U W0 Fr N0 ρ0 K (Q .normal)->wpOps P ops.toArray Q (List.range' k l.length) a w
 | [],k,S,ρ,a,w,K,_,h,hS,hN,hρ,hK=>hK S ρ a w h hS hN hρ
 | o :: r,k,S,ρ,a,w,K,hl,h,hS,hN,hρ,hK=>by
  have ho:ops[k]? = some o:=by simpa using (hl 0).symm
  simp only[List.length_cons,List.range'_succ];unfold wpOps;simp only[List.getElem?_toArray,ho];refine a8O hX h hS hN hρ λS' ρ' a' w' h' hS' hN' hρ'=>?_
  refine a2u hX r (k+1) (λj=>?_) h' hS' hN' hρ' hK;have:=hl (j+1);simp only[List.getElem?_cons_succ]at this;rw[this];congr 1;omega
end
inductive DRX where
 | done (s:AS) (log:List Ent) (p:Option Prop)
 | need (j:Nat) (b:Bool)
 | fail
def b3r(ops:List Oper)(o:Oper)(s:AS):DRX :=
 match o.guard with
 | some (j,_)=>match a5c ops j with
  | some d=>match slot s.1 d with
   | some (.bool b)=>.need j b
   | _=>.fail
  | none=>.fail
 | none=>.fail
def b3S{α:Type}:Option α->Bool
 | none=>true
 | some _=>false
def c1V(nt:Nat):Option Nat->Bool
 | none=>true
 | some d=>Nat.blt d nt
def V7(X:F6)(nt N:Nat)(ops:List Oper)(dec:List (Nat×Bool))(r:Nat)(g:ChF):List Oper->Nat->AS->DRX
 | [],_,s=>.done s [] none
 | o :: l,i,s=>match Nat.beq i r with
  | true=>match c1V nt o.dst&&b3S o.guard with
   | true=>match g (opr s.1) (look s.2) (N+24*i)with
    | some (e,p)=>match V7 X nt N ops dec r g l (i+1) (E6 o e s)with
     | .done s' log _=>.done s' ((i,o,e) :: log) (some p)
     | x=>x
    | none=>.fail
   | false=>.fail
  | false=>match a2d X nt N ops dec i o s with
   | some e=>match V7 X nt N ops dec r g l (i+1) (E6 o e s)with
    | .done s' log p=>.done s' ((i,o,e) :: log) p
    | x=>x
   | none=>b3r ops o s
def a4t(p:Option Prop)(q:Prop):Prop:=match p with
 | none=>q
 | some p=>p->q
def a8u(X:F6)(ops:List Oper)(S:St)(K:St->Prop):Nat->List (Nat×Bool)->Prop
 | fuel,dec=>match V7 X S.nt S.N ops dec ops.length (λ_ _ _=>none) ops 0 (S.sl,S.H)with
  | .done s log _=>b1a log (chk ops log=true/\K {nt:=S.nt,sl:=s.1,H:=s.2,N:=S.N+24*ops.length})
  | .need j b=>match fuel with
   | 0=>False
   | f+1=>(b=true->a8u X ops S K f ((j,true) :: dec))/\(b=false->a8u X ops S K f ((j,false) :: dec))
  | .fail=>False
def c5b(X:F6)(ops:List Oper)(S:St)(K:St->Prop)(r:Nat)(R:ROp):Prop :=
 ∀ i,match V7 X S.nt S.N ops [] r (R.ev i) ops 0 (S.sl,S.H)with
  | .done s log p=>b1a log (chk ops log=true/\a4t p (K {nt:=S.nt,sl:=s.1,H:=s.2,N:=S.N+24*ops.length}))
  | _=>False
def b6w(ops:List Oper)(r i:Nat):Bool:=((nth (J2 ops []) i).getD 0).testBit r
def a4i(late:Nat->Bool)(p:Option Prop):List Ent->Prop->Prop
 | [],q=>q
 | (i,_,e) :: l,q=>match e.obl with
  | none=>a4i late p l q
  | some o=>(match late i with
   | true=>a4t p o
   | false=>o)/\a4i late p l q
theorem a2R{ops:List Oper}{r:Nat}{p:Option Prop}:∀ {l:List Ent} {q:Prop},a4i (b6w ops r) p l q->(∀ x∈l,okP x.2.2.obl∨((((J2 ops [])[x.1]?).getD 0).testBit r=true/\a4t p (okP x.2.2.obl)))/\q
 | [],_,h=>⟨λx hx=>absurd hx List.not_mem_nil,h⟩
 | (i,o,e) :: l,q,h=>by
  cases ho:e.obl with
  | none =>
   simp only[a4i,ho]at h;obtain⟨h1,h2⟩:=a2R h;refine⟨λx hx=>?_,h2⟩;rcases List.mem_cons.1 hx with rfl|hx
   ·left
    show okP e.obl;rw[ho];trivial
   ·exact h1 x hx
  | some ob =>
   simp only[a4i,ho]at h;obtain⟨h0,h⟩:=h;obtain⟨h1,h2⟩:=a2R h;refine⟨λx hx=>?_,h2⟩;rcases List.mem_cons.1 hx with rfl|hx
   ·show okP e.obl∨(_/\a4t p (okP e.obl));rw[ho];split at h0
    ·rename_i hl
     right
     refine⟨?_,h0⟩;unfold b6w at hl;rw[V5]at hl;exact hl
    ·exact .inl h0
   ·exact h1 x hx
def c6h(X:F6):Bool:=match b6r X.al 1000000 with
 | some _=>true
 | none=>false
def c6P(X:F6)(ops:List Oper)(S:St)(K:St->Prop)(r:Nat)(R:ROp):Prop :=
 ∀ i,match V7 X S.nt S.N ops [] r (R.ev i) ops 0 (S.sl,S.H)with
  | .done s log p=>a4i (b6w ops r) p log (chk ops log=true/\a4t p (K {nt:=S.nt,sl:=s.1,H:=s.2,N:=S.N+24*ops.length}))
  | _=>False
noncomputable def b0K(X:F6):List Oper->Nat->Option (Nat×ROp)
 | [],_=>none
 | o :: l,i=>match b0u X o.op with
  | some R=>some (i,R)
  | none=>b0K X l (i+1)
def b6L(X:F6)(ops:List Oper)(S:St)(K:St->Prop):Prop :=
 match b0K X ops 0 with
 | none=>a8u X ops S K 20 []
 | some (r,R)=>match c6h X with
  | false=>c5b X ops S K r R
  | true=>c6P X ops S K r R
section
variable {P:Program} {W0:World} {Fr:Nat->Prop} {X:F6}
theorem a6i{r:Nat}{R:ROp}:∀ {l:List Oper} {i:Nat},b0K X l i=some (r,R)->i<=r/\∃ o,l[r-i]? = some o/\b0u X o.op=some R
 | [],i,h=>by simp[b0K]at h
 | o :: l,i,h=>by
  unfold b0K at h;split at h
  ·rename_i R' hR;simp only[oI9,pI9]at h;obtain⟨rfl,rfl⟩:=h;exact⟨Nat.le_refl _,o,by simp,hR⟩
  ·obtain⟨h1,o',h2,h3⟩:=a6i h;refine⟨by omega,o',?_,h3⟩;rw[show r-i=(r-(i+1))+1 by omega];simpa using h2
theorem a2U{nt N:Nat}{ops:List Oper}{dec:List (Nat×Bool)}{r:Nat}{g:ChF}:∀(l:List Oper)(k:Nat)(s s':AS)(log:List Ent)(p:Option Prop),(∀ j,l[j]? = ops[k+j]?)->V7 X nt N ops dec r g l k s=.done s' log p->
  (∀ asm,(∀ q,p=some q->q=asm)->a0q X nt N ops dec r g asm log s)/\fin log s=s'/\(∀ x∈log,ops[x.1]? = some x.2.1)/\log.map (·.1)=List.range' k l.length/\(k<=r->r<k+l.length->∃ q,p=some q)
 | [],k,s,s',log,p,_,h=>by
  simp only[V7,DRX.done.injEq]at h;obtain⟨rfl,rfl,rfl⟩:=h;exact⟨λ_ _=>trivial,rfl,by simp,rfl,λh1 h2=>by simp at h2;omega⟩
 | o :: l,k,s,s',log,p,hl,h=>by
  have ho:ops[k]? = some o:=by simpa using (hl 0).symm
  have hl':∀ j,l[j]? = ops[k+1+j]? := λj=>by
   have:=hl (j+1);simp only[List.getElem?_cons_succ]at this;rw[this];congr 1;omega
  simp only[V7]at h;split at h
  ·rename_i hk;have hk:=eB9 hk;split at h
   ·rename_i hok;simp only[bA9]at hok;split at h
    ·rename_i e q hq;split at h
     ·rename_i s1 log1 p1 h1;simp only[DRX.done.injEq]at h;obtain⟨rfl,rfl,rfl⟩:=h;obtain⟨h2,h3,h4,h5,h6⟩:=a2U l (k+1) _ _ _ _ hl' h1
      have hp1:∀(l:List Oper)(k':Nat)(s:AS)(s1:AS)(log1:List Ent)(p1:Option Prop),r<k'->V7 X nt N ops dec r g l k' s=.done s1 log1 p1->p1=none:=by
       intro l
       induction l with
       | nil=>intro k' s s1 log1 p1 _ h;simp only[V7,DRX.done.injEq]at h;exact h.2.2.symm
       | cons o l ih =>
        intro k' s s1 log1 p1 hlt h;simp only[V7]at h;split at h
        ·rename_i hb;have:=eB9 hb;omega
        ·split at h
         ·split at h
          ·rename_i h9;simp only[DRX.done.injEq]at h;obtain⟨_,_,rfl⟩:=h;exact ih (k'+1) _ _ _ _ (by omega) h9
          ·rename_i hno;exact absurd h (hno _ _ _)
         ·unfold b3r at h;split at h
          ·split at h
           ·split at h <;> cases h
           ·cases h
          ·cases h
      have hpn:=hp1 l (k+1) _ _ _ _ (by omega) h1;subst hpn;refine⟨λasm ha=>⟨.inl ⟨hk,λd hd=>?_,?_,?_⟩,h2 asm (λq hq=>by cases hq)⟩,h3,λx hx=>?_,by simp[h5,List.range'_succ],λ_ _=>⟨q,rfl⟩⟩
      ·have:=hok.1;rw[hd]at this;simpa [c1V]using this
      ·have:=hok.2
       cases hgd:o.guard with
       | none=>rfl
       | some x=>rw[hgd]at this;simp[b3S]at this
      ·rw[<-ha q rfl];exact hq
      ·rcases List.mem_cons.1 hx with rfl|hx
       ·exact ho
       ·exact h4 x hx
     ·rename_i hno;exact absurd h (hno _ _ _)
    ·cases h
   ·cases h
  ·rename_i hk;have hk:k≠r:=λe=>by subst e;simp at hk
   split at h
   ·rename_i e he;split at h
    ·rename_i s1 log1 p1 h1;simp only[DRX.done.injEq]at h;obtain⟨rfl,rfl,rfl⟩:=h;obtain⟨h2,h3,h4,h5,h6⟩:=a2U l (k+1) _ _ _ _ hl' h1;refine⟨λasm ha=>⟨.inr ⟨hk,he⟩,h2 asm ha⟩,h3,λx hx=>?_,by simp[h5,List.range'_succ],λh7 h8=>h6 (by omega) (by simp at h8;omega)⟩;rcases List.mem_cons.1 hx with rfl|hx
     ·exact ho
     ·exact h4 x hx
    ·rename_i hno;exact absurd h (hno _ _ _)
   ·unfold b3r at h;split at h
    ·split at h
     ·split at h <;> cases h
     ·cases h
    ·cases h
theorem a2e(hX:B4 P X)(hm:P.follows .mixedOrders=true){N0:Nat}{ρ0:Rho}{id:Nat}{ops:Array Oper}{S:St}{K:St->Prop}{Q:Exit->Act->World->Prop}{R:ROp}{r:Nat}{dec:List (Nat×Bool)}(hR:∀ o,ops.toList[r]? = some o->b3g P R o.op)
  (h:∀ i,∃ s log p,V7 X S.nt S.N ops.toList dec r (R.ev i) ops.toList 0 (S.sl,S.H)=.done s log p/\(∀ x∈log,okP x.2.2.obl∨((((J2 ops.toList [])[x.1]?).getD 0).testBit r=true/\a4t p (okP x.2.2.obl)))/\(chk ops.toList log=true/\a4t p (K {nt:=S.nt,sl:=s.1,H:=s.2,N:=S.N+24*ops.toList.length})))
  {ρ:Rho} {a:Act} {w:World} (hS:Sat W0 Fr S ρ a w) (hN:N0<=S.N) (hρ:∀ n,n<N0->ρ n=ρ0 n) (hK:a1U W0 Fr N0 ρ0 K (Q .normal)):(Code.region id ops true).wp P Q a w:=by
 obtain⟨i0⟩:=R.ne
 let F:R.ι->AS:=λi=>Classical.choose (h i)
 let L:R.ι->List Ent:=λi=>Classical.choose (Classical.choose_spec (h i))
 let p:R.ι->Option Prop:=λi=>Classical.choose (Classical.choose_spec (Classical.choose_spec (h i)))
 have hc:∀ i,V7 X S.nt S.N ops.toList dec r (R.ev i) ops.toList 0 (S.sl,S.H)=.done (F i) (L i) (p i)/\(∀ x∈L i,okP x.2.2.obl∨((((J2 ops.toList [])[x.1]?).getD 0).testBit r=true/\a4t (p i) (okP x.2.2.obl)))/\(chk ops.toList (L i)=true/\a4t (p i) (K {nt:=S.nt,sl:=(F i).1,H:=(F i).2,N:=S.N+24*ops.toList.length})) :=
  λi=>Classical.choose_spec (Classical.choose_spec (Classical.choose_spec (h i)))
 let asm:R.ι->Prop:=λi=>match p i with
  | some q=>q
  | none=>True
 have hasm:∀ i q,p i=some q->q=asm i:=λi q hq=>by simp only[asm,hq]
 have sp:=λi=>a2U ops.toList 0 _ _ _ _ (λj=>by simp) (hc i).1
 have ob:=λi=>(hc i).2
 have ck:∀ i,a2m ops.toList=true/\a1O ops.toList (J2 ops.toList []) (L i)=true:=λi=>by
  have:=(ob i).2.1;simpa only[chk,bA9]using this
 refine wp_region_any hm ?_
 have:=b2j (nt:=S.nt) (N:=S.N) (dec:=dec) (W0:=W0) (Fr:=Fr) (ρ0:=ρ0) (Q:=Q) hX (ck i0).1 (R:=R) (r:=r) hR (asm:=asm) (F:=F) hN (λi hi ρ' a' w' hS' hρ'=>?_) ops.toList.length (List.range' 0 ops.toList.length) (λ_=>True) L (Array.replicate ops.size false) (S.sl,S.H) ρ a {w with drawn:=w.drawn+1}
  (by simp) (by simp) (λj hj=>?_) ⟨i0,trivial⟩ (λi _=>(sp i).2.2.2.1) (λi _=>(sp i).2.2.1) ?_ (λi _=>S8 (ck i).2) (λi _ x hx=>((ob i).1 x hx).imp (λh9=>h9) λh9=>⟨h9.1,λha=>by
   have h8:=h9.2;unfold a4t at h8;split at h8
   ·exact h8
   ·rename_i q hq
    exact h8 (by rw[hasm i q hq];exact ha)⟩) ?_ ?_ (λi _=>(sp i).1 (asm i) (hasm i)) (λi _=>by rw[(sp i).2.1];exact S5.refl _) ?_ hρ
 ·simpa using this
 ·refine hK _ ρ' a' w' (show K {nt:=S.nt,sl:=(F i).1,H:=(F i).2,N:=S.N+24*ops.toList.length} from ?_) ⟨?_,?_⟩ ?_ hρ'
  ·have h1:=(ob i).2.2;unfold a4t at h1;split at h1
   ·exact h1
   ·rename_i q hq;exact h1 (by rw[hasm i q hq];exact hi)
  ·exact hS'.h.mono λn hn=>hn.1
  ·exact hS'.s.mono (λn hn=>hn.1) (λ_ _=>rfl)
  ·exact Nat.le_trans hN (Nat.le_add_right _ _)
 ·have hj':j<ops.size:=by simpa using hj
  simp[hj']
 ·exact List.pairwise_lt_range'
 ·intro i o _ hl;rw[Array.getD_eq_getD_getElem?,Array.getElem?_replicate]at hl;split at hl <;> simp at hl
 ·by_cases hr:r<ops.toList.length
  ·exact .inl ⟨by simpa using hr,λ_=>trivial⟩
  ·refine .inr ⟨by simpa using hr,λi _=>?_⟩
   have hnone:∀(l:List Oper)(k:Nat)(s s1:AS)(log:List Ent)(q:Option Prop),k+l.length<=r->V7 X S.nt S.N ops.toList dec r (R.ev i) l k s=.done s1 log q->q=none:=by
    intro l
    induction l with
    | nil=>intro k s s1 log q _ h;simp only[V7,DRX.done.injEq]at h;exact h.2.2.symm
    | cons o l ih =>
     intro k s s1 log q hlt h;simp only[List.length_cons]at hlt;simp only[V7]at h;split at h
     ·rename_i hb;have:=eB9 hb;omega
     ·split at h
      ·split at h
       ·rename_i h9;simp only[DRX.done.injEq]at h;obtain⟨_,_,rfl⟩:=h;exact ih (k+1) _ _ _ _ (by omega) h9
       ·rename_i hno;exact absurd h (hno _ _ _)
      ·unfold b3r at h;split at h
       ·split at h
        ·split at h <;> cases h
        ·cases h
       ·cases h
   have:=hnone ops.toList 0 _ _ _ _ (by omega) (hc i).1;simp only[asm,this]
 ·have hU:∀ n,n<S.N->UI S.N ops.toList.length (List.range' 0 ops.toList.length) n:=λn hn=>⟨Nat.lt_of_lt_of_le hn (Nat.le_add_right _ _),λx _ hx=>absurd (Nat.lt_of_lt_of_le hn (Nat.le_trans (Nat.le_add_right _ _) hx.1)) (Nat.lt_irrefl _)⟩
  exact⟨(hS.h.mono hU).drew,hS.s.mono hU (λ_ _=>rfl)⟩
theorem b0m(hX:B4 P X){N0:Nat}{ρ0:Rho}{id:Nat}{ops:Array Oper}{S:St}{K:St->Prop}{Q:Exit->Act->World->Prop}(h:b6L X ops.toList S K)
  {ρ:Rho} {a:Act} {w:World} (hS:Sat W0 Fr S ρ a w) (hN:N0<=S.N) (hρ:∀ n,n<N0->ρ n=ρ0 n) (hK:a1U W0 Fr N0 ρ0 K (Q .normal)):(Code.region id ops true).wp P Q a w:=by
 unfold b6L at h;split at h
 ·have key:∀(fuel:Nat)(dec:List (Nat×Bool)),a8u X ops.toList S K fuel dec->(Code.region id ops true).wp P Q a w:=by
   intro fuel
   induction fuel with
   | zero =>
    intro dec h;unfold a8u at h;split at h
    ·rename_i s log p hrun
     exact a2e hX hX.G.mix (R:=⟨Unit,⟨()⟩,λ_ _ _ _=>none⟩) (r:=ops.toList.length) (dec:=dec) (λo ho=>by simp at ho) (λi=>⟨s,log,p,hrun,λx hx=>.inl (S0 (F8 h).1 x hx),(F8 h).2.1,by
      unfold a4t;split
      ·exact(F8 h).2.2
      ·exact λ_=>(F8 h).2.2⟩) hS hN hρ hK
    ·exact h.elim
    ·exact h.elim
   | succ fuel ih =>
    intro dec h;unfold a8u at h;split at h
    ·rename_i s log p hrun
     exact a2e hX hX.G.mix (R:=⟨Unit,⟨()⟩,λ_ _ _ _=>none⟩) (r:=ops.toList.length) (dec:=dec) (λo ho=>by simp at ho) (λi=>⟨s,log,p,hrun,λx hx=>.inl (S0 (F8 h).1 x hx),(F8 h).2.1,by
      unfold a4t;split
      ·exact(F8 h).2.2
      ·exact λ_=>(F8 h).2.2⟩) hS hN hρ hK
    ·rename_i j b hrun
     cases b with
     | true=>exact ih _ (h.1 rfl)
     | false=>exact ih _ (h.2 rfl)
    ·exact h.elim
  exact key 20 [] h
 ·rename_i r R hR;obtain⟨_,o,ho,hro⟩:=a6i hR;simp only[Nat.sub_zero]at ho;refine a2e hX hX.G.mix (R:=R) (r:=r) (dec:=[]) (λo' ho'=>?_) (λi=>?_) hS hN hρ hK
  ·rw[ho]at ho';injection ho' with ho'
   subst ho';exact b0T hX hro
  ·split at h
   ·have:=h i;split at this
    ·rename_i s log p hrun;exact⟨s,log,p,hrun,λx hx=>.inl (S0 (F8 this).1 x hx),(F8 this).2⟩
    ·exact this.elim
   ·have:=h i;split at this
    ·rename_i s log p hrun;exact⟨s,log,p,hrun,a2R this⟩
    ·exact this.elim
end
def K2(X:F6)(N0:Nat)(A:a7f):Code->Ann->St->(Xt->St->Prop)->Prop
 | .skip,_,S,K=>K .normal S
 | .region _ ops draw,_,S,K=>match draw with
  | false=>a8P X ops.toList ops.toList S (K .normal)
  | true=>b6L X ops.toList S (K .normal)
 | .seq x y,B,S,K=>match b3p B y with
  | none=>K2 X N0 A x B S (λe S'=>match e with
   | .normal=>K2 X N0 A y B S' K
   | e=>K e S')
  | some J=>K2 X N0 A x B S (λe S'=>match e with
   | .normal=>∃ j,J.inv j/\a4R N0 S' (J.I j)
   | e=>K e S')/\∀ j,J.inv j->K2 X N0 A y B (J.I j) K
 | .cond c x y,B,S,K=>match opr S.sl c with
  | some .tt=>K2 X N0 A x B S K
  | some .ff=>K2 X N0 A y B S K
  | some (.bool b)=>(b=true->K2 X N0 A x B S K)/\(b=false->K2 X N0 A y B S K)
  | _=>False
 | .block id x,B,S,K=>K2 X N0 A x B S (λe S'=>match e with
  | .exit j=>match Nat.beq j id with
   | true=>K .normal S'
   | false=>K (.exit j) S'
  | e=>K e S')
 | .exit id,_,S,K=>K (.exit id) S
 | .ret,_,S,K=>K .ret S
 | .loop x,B,S,K=>match b8H A x with
  | none=>match b3p B x with
   | none=>False
   | some J=>b2T N0 (λB' S' K'=>K2 X N0 A x (a1R B' B) S' K') S K ⟨J,λ_=>[]⟩
  | some (.unr l)=>a6B N0 S l/\a8V N0 (λS' K'=>K2 X N0 A x B S' K') K l
  | some (.unrD f)=>a6B N0 S (f S)/\a8V N0 (λS' K'=>K2 X N0 A x B S' K') K (f S)
  | some (.iter n)=>a9W (λS' K'=>K2 X N0 A x B S' K') K n S
  | some (.fam J)=>b2T N0 (λB' S' K'=>K2 X N0 A x (a1R B' B) S' K') S K J
  | some (.alt l)=>b7y N0 (λB' S' K'=>K2 X N0 A x (a1R B' B) S' K') S K l
 | _,_,_,_=>False
def L5(X:F6)(N0:Nat)(A:a7f)(B:Ann)(c:Code)(S:St)(K:Xt->St->Prop):Prop:=K2 X N0 A c B S K
section
variable {P:Program} {X:F6}
theorem a9U(hX:B4 P X){N0:Nat}{A:a7f}:∀(c:Code) {B:Ann} {S:St} {K:Xt->St->Prop},K2 X N0 A c B S K->Wp P N0 c S K:=by
 intro c
 induction c with
 | skip=>intro B S K h;exact Wp.run hX.G h
 | region id ops draw =>
  intro B S K h W0 Fr ρ0 ρ a w Q hS hN hρ hK;unfold K2 at h;split at h
  ·refine wp_region ?_;have:=a2u hX (ops:=ops.toList) (Q:=Q) ops.toList 0 (λj=>by simp) h hS hN hρ (λS' ρ' a' w' h1 h2 h3 h4=>hK .normal S' ρ' a' w' h1 h2 h3 h4);simpa [List.range_eq_range']using this
  ·exact b0m hX h hS hN hρ (λS' ρ' a' w' h1 h2 h3 h4=>hK .normal S' ρ' a' w' h1 h2 h3 h4)
 | seq x y ihx ihy =>
  intro B S K h;unfold K2 at h;split at h
  ·exact Wp.seq (ihx h) (λS' h'=>ihy h') (λ_ _ h=>h) (λ_ h=>h)
  ·rename_i J hJ;obtain⟨h1,h2⟩:=h;refine Wp.seq (ihx h1) (λS' h'=>?_) (λ_ _ h=>h) (λ_ h=>h);obtain⟨j,hj,hf⟩:=h';exact Wp.refines' (I5 hf) (ihy (h2 j hj))
 | cond c x y ihx ihy =>
  intro B S K h W0 Fr ρ0 ρ a w Q hS hN hρ hK;unfold K2 at h;split at h
  ·rename_i hv;exact wp_cond_true (by simpa [SV.den]using (I2 hS.s hv).1) (ihx h W0 Fr ρ0 ρ a w Q hS hN hρ hK)
  ·rename_i hv;exact wp_cond_false (by simpa [SV.den]using (I2 hS.s hv).1) (ihy h W0 Fr ρ0 ρ a w Q hS hN hρ hK)
  ·rename_i b hv;have hb:=(I2 hS.s hv).1;simp only[SV.den]at hb;exact wp_cond_split hb (λe=>ihx (h.1 e) W0 Fr ρ0 ρ a w Q hS hN hρ hK) (λe=>ihy (h.2 e) W0 Fr ρ0 ρ a w Q hS hN hρ hK)
  ·exact h.elim
 | block id x ih =>
  intro B S K h;exact Wp.block (ih h)
 | exit id=>intro B S K h;exact Wp.run hX.G h
 | ret=>intro B S K h;exact Wp.run hX.G h
 | loop x ih =>
  intro B S K h
  have hfam:∀ J:S3,b2T N0 (λB' S' K'=>K2 X N0 A x (a1R B' B) S' K') S K J->Wp P N0 (.loop x) S K:=by
   intro J h;obtain⟨⟨i0,h0,hf⟩,hr⟩:=h;refine Wp.loop (ι:={i:J.f.ι // J.f.inv i}) (λi=>J.f.I i.1) (λi=>J.f.μ i.1) ⟨i0,h0⟩ (I5 hf) λi=>?_
   refine Wp.mono (ih (hr i.1 i.2)) λe S' h'=>?_
   cases e with
   | normal =>
    obtain⟨i',h1,h2,h3⟩:=h';exact⟨⟨i',h1⟩,h2,I5 h3⟩
   | exit id=>exact h'
   | ret=>exact h'
  have hunr:∀ l:List Fam,(a6B N0 S l/\a8V N0 (λS' K'=>K2 X N0 A x B S' K') K l)->Wp P N0 (.loop x) S K:=by
   intro l h;obtain⟨h0,h1⟩:=h
   have key:∀(l:List Fam),a8V N0 (λS' K'=>K2 X N0 A x B S' K') K l->∀(k:Nat)(J:Fam),l[k]? = some J->∀ i,J.inv i->Wp P N0 x (J.I i) (λe S'=>match e with
     | .normal=>∃ J':Fam,l[k+1]? = some J'/\∃ i',J'.inv i'/\a4R N0 S' (J'.I i')
     | e=>K e S'):=by
    intro l
    induction l with
    | nil=>intro _ k J hk;simp at hk
    | cons J0 r ihl =>
     intro hu k J hk i hi;obtain⟨hu1,hu2⟩:=hu
     cases k with
     | zero =>
      simp only[List.getElem?_cons_zero,oI9]at hk;subst hk;refine Wp.mono (ih (hu1 i hi)) λe S' h'=>?_
      cases e with
      | normal =>
       cases r with
       | nil=>exact(h':False).elim
       | cons J1 r1=>exact⟨J1,rfl,h'⟩
      | exit id=>exact h'
      | ret=>exact h'
     | succ k =>
      simp only[List.getElem?_cons_succ]at hk;refine Wp.mono (ihl hu2 k J hk i hi) λe S' h'=>?_
      cases e with
      | normal =>
       obtain⟨J',h2,h3⟩:=h';exact⟨J',by simpa using h2,h3⟩
      | exit id=>exact h'
      | ret=>exact h'
   cases l with
   | nil=>exact(h0:False).elim
   | cons J0 r =>
    obtain⟨i0,hi0,hf⟩:=h0;refine Wp.loop (ι:={q:(Σ k:Fin (J0 :: r).length,((J0 :: r).get k).ι) // ((J0 :: r).get q.1).inv q.2}) (λq=>((J0 :: r).get q.1.1).I q.1.2) (λq=>(J0 :: r).length-q.1.1.val) ⟨⟨⟨0,Nat.succ_pos _⟩,i0⟩,hi0⟩ (I5 hf) λq=>?_
    obtain⟨⟨⟨k,hk⟩,i⟩,hi⟩:=q;refine Wp.mono (key _ h1 k _ (List.getElem?_eq_getElem hk) i hi) λe S' h'=>?_
    cases e with
    | normal =>
     obtain⟨J',h2,i',h3,h4⟩:=h';obtain⟨hlt,h5⟩:=List.getElem?_eq_some_iff.1 h2;subst h5;exact⟨⟨⟨⟨k+1,hlt⟩,i'⟩,h3⟩,by show (J0 :: r).length-(k+1)<(J0 :: r).length-k;omega,I5 h4⟩
    | exit id=>exact h'
    | ret=>exact h'
  unfold K2 at h;split at h
  ·split at h
   ·exact h.elim
   ·rename_i J hJ;exact hfam ⟨J,λ_=>[]⟩ h
  ·rename_i l hl;exact hunr l h
  ·rename_i f hf;exact hunr (f S) h
  ·rename_i n hn;exact Wp.iter (λS K=>ih) n S h
  ·rename_i J hJ;exact hfam J h
  ·rename_i l hl
   have:∀ l:List S3,b7y N0 (λB' S' K'=>K2 X N0 A x (a1R B' B) S' K') S K l->Wp P N0 (.loop x) S K:=by
    intro l
    induction l with
    | nil=>intro h;exact(h:False).elim
    | cons J r ihl =>
     intro h;rcases h with h|h
     ·exact hfam J h
     ·exact ihl h
   exact this l h
 | _=>intro B S K h;exact(h:False).elim
theorem a2I(hX:B4 P X){N0:Nat}{A:a7f}{B:Ann}(c:Code){S:St}{K:Xt->St->Prop}(h:L5 X N0 A B c S K):Wp P N0 c S K:=a9U hX c h
end
structure RHC (ι:Type) where
 args:List SV
 heap:z7
 obl:Option Prop
 P:ι->Prop
 out:ι->HC
inductive RRd (ι:Type) where
 | fail
 | ret (hc:RHC ι)
 | read (n:Nm) (k:Ob->RRd ι)
def RRd.run{ι:Type}(rd:Nm->Option Ob):RRd ι->List Nm->Option (List Nm×RHC ι)
 | .fail,_=>none
 | .ret hc,sg=>some (sg,hc)
 | .read n k,sg=>match rd n with
  | some o=>(k o).run rd (sg++[n])
  | none=>none
def RRd.All{ι:Type}(Q:List (Nm×Ob)->RHC ι->Prop):RRd ι->List (Nm×Ob)->Prop
 | .fail,_=>True
 | .ret hc,acc=>Q acc hc
 | .read n k,acc=>∀ o,(k o).All Q (acc++[(n,o)])
theorem RRd.all_run{ι:Type}{rd:Nm->Option Ob}{Q:List (Nm×Ob)->RHC ι->Prop}:∀ {m:RRd ι} {acc:List (Nm×Ob)} {sg:List Nm} {hc:RHC ι},m.All Q acc->(∀ p∈acc,rd p.1=some p.2)->m.run rd (y6 acc)=some (sg,hc)->
  ∃ acc',y6 acc'=sg/\(∀ p∈acc',rd p.1=some p.2)/\Q acc' hc
 | .fail,_,_,_,_,_,h=>by simp[RRd.run]at h
 | .ret hc',acc,sg,hc,hq,hacc,h=>by
  simp only[RRd.run,oI9,pI9]at h;obtain⟨rfl,rfl⟩:=h;exact⟨acc,rfl,hacc,hq⟩
 | .read n k,acc,sg,hc,hq,hacc,h=>by
  simp only[RRd.run]at h;split at h
  ·rename_i o ho;refine RRd.all_run (hq o) (acc:=acc++[(n,o)]) (λp hp=>?_) (by rw[a1Q];exact h);rcases List.mem_append.1 hp with hp|hp
   ·exact hacc p hp
   ·simp only[List.mem_singleton]at hp;subst hp;exact ho
  ·cases h
theorem RRd.run_sg{ι:Type}{rd:Nm->Option Ob}:∀ {m:RRd ι} {sg sg':List Nm} {hc:RHC ι},m.run rd sg=some (sg',hc)->∀ n∈sg,n∈sg'
 | .fail,_,_,_,h=>by simp[RRd.run]at h
 | .ret hc',sg,sg',hc,h=>by
  simp only[RRd.run,oI9,pI9]at h;obtain⟨rfl,rfl⟩:=h;exact λn hn=>hn
 | .read n k,sg,sg',hc,h=>by
  simp only[RRd.run]at h;split at h
  ·exact λm hm=>RRd.run_sg h m (List.mem_append_left _ hm)
  ·cases h
theorem RRd.run_loc{ι:Type}{rd rd':Nm->Option Ob}:∀ {m:RRd ι} {sg sg':List Nm} {hc:RHC ι},m.run rd sg=some (sg',hc)->(∀ n∈sg',rd' n=rd n)->m.run rd' sg=some (sg',hc)
 | .fail,_,_,_,h,_=>by simp[RRd.run]at h
 | .ret hc',sg,sg',hc,h,_=>h
 | .read n k,sg,sg',hc,h,hr=>by
  simp only[RRd.run]at h ⊢;split at h
  ·rename_i o ho;have hn:n∈sg':=RRd.run_sg h n (by simp);rw[hr n hn,ho];exact RRd.run_loc h hr
  ·cases h
def q7(ι:Type)(ne:Nonempty ι)(C:List SV->RRd ι):a8M:=⟨ι,ne,λi args rd nm=>match (C args).run rd []with
 | some (sg,hc)=>match R9 sg with
  | true=>some (⟨some ((hc.out i).val.ren (J4 sg nm)),W7 (J4 sg nm) (hc.out i).wr,W7 (J4 sg nm) (hc.out i).news,sg,hc.obl⟩,hc.P i)
  | false=>none
 | none=>none⟩
def a9a{ι:Type}(fn:Func)(args:List SV)(acc:List (Nm×Ob))(hc:RHC ι):Prop :=
 Y9 (a0m acc.length hc.args&&Nat.ble hc.args.length fn.ntmps)
  ((∀ i,(a1k acc.length hc.heap (hc.out i).wr&&(a1t acc.length (hc.out i).news&&b0x (hc.out i).wr hc.heap))=true)/\l9 (y4 (y6 acc)) args hc.args/\b9a (y4 (y6 acc)) acc.length 0 acc hc.heap)
theorem J5 {P:Program} {X:F6} (hX:B4 P X) {f:Nat} {fn:Func} (hf:P.funcs[f]? = some fn) (hb:fn.body.isNone=false) (hnm:(fn.name == "runtime.NumGoroutine")=false) {ι:Type} {ne:Nonempty ι} {C:List SV->RRd ι}
  (h:∀ args,(C args).All (λacc hc=>okP hc.obl->a9a fn args acc hc/\
   ∃ A B,L5 X acc.length A B (l7 fn) (z6 fn.ntmps hc.args hc.heap acc.length) (A0 X.G.E.T fn.results.toList λS v=>∃ i,hc.P i/\B3 acc.length (hc.out i) S v)) []):z4 P f (q7 ι ne C) where
 loc:=by
  intro i args rd rd' nm e p hc hr;simp only[q7]at hc ⊢;split at hc
  ·rename_i sg hc0 hrun;split at hc
   ·rename_i hd;have he:=hc;simp only[oI9,pI9]at he;obtain⟨rfl,_⟩:=he;simp only[RRd.run_loc hrun hr,hd];exact hc
   ·cases hc
  ·cases hc
 calls:=by
  intro W0 Fr U H ρ w nm args hH hbd hn hall;obtain⟨i0⟩:=ne;obtain⟨e0,p0,h0,ho⟩:=hall i0;simp only[q7]at h0;split at h0
  case h_2=>cases h0
  rename_i sg hc hrun;split at h0
  case h_2=>cases h0
  rename_i hd;simp only[oI9,pI9]at h0;obtain⟨rfl,rfl⟩:=h0;obtain⟨acc,hacc,hlook,hQ⟩:=RRd.all_run (rd:=look H) (h args) (acc:=[]) (by simp) hrun;obtain⟨h1,A,B,h2⟩:=hQ ho;obtain⟨h3,h4,h5,h6⟩:=H5 h1;simp only[bA9]at h3;subst hacc
  refine(a3E hX.G hf (V0 hb) hnm hH hn hlook hd h5 h3.1 h3.2 (a0r h6) (I:=ι) (post:=hc.P) (out:=hc.out) (λi _=>by
   have:=h4 i;simp only[bA9]at this
   exact⟨this.1,this.2.1,this.2.2⟩) (Wp.mono (a2I hX _ h2) λe S' hk'=>a0w (λ_ _ ⟨i,hi,hp⟩=>⟨i,hi,a2X hp⟩) hk')).mono ?_
  rintro en w' ⟨i,hi,ρ2,h7,h8,v,h9,h10,h11⟩
  exact⟨i,⟨some ((hc.out i).val.ren (J4 (y6 acc) nm)),W7 (J4 (y6 acc) nm) (hc.out i).wr,W7 (J4 (y6 acc) nm) (hc.out i).news,y6 acc,hc.obl⟩,hc.P i,
   by simp only[q7,hrun,hd],hi,ρ2,h7,h8,v,h9,h10,h11⟩
def b5A(ts:List Nat):Ob:=⟨true,0, .raw ts (λ_=>False) (λ_=>0) (λ_ _=>.bool false),0⟩
def St.addRaw(S:St)(ts:List Nat):St:={nt:=S.nt,sl:=S.sl,H:=(S.N,b5A ts) :: S.H,N:=S.N+1}
theorem B6.addRaw{N0:Nat}{S:St}(ts:List Nat)(h:N0<=S.N):B6 N0 S (S.addRaw ts):=by
 refine⟨Nat.le_succ_of_le h,λW0 Fr ρ a w hS=>⟨λn=>if n=S.N then none else ρ n,⟨?_,?_⟩,λn hn=>if_neg (Nat.ne_of_lt (Nat.lt_of_lt_of_le hn h))⟩⟩
 ·have hag:∀ n,n<S.N->(if n=S.N then none else ρ n)=ρ n:=λn hn=>if_neg (Nat.ne_of_lt hn)
  have hne:∀ {m:Nm} {o:Ob},look S.H m=some o->m<S.N:=λhm=>hS.h.used _ _ hm
  refine {
   os:=hS.h.os,tape:=hS.h.tape,output:=hS.h.output,size:=hS.h.size,frlt:=hS.h.frlt,frame:=hS.h.frame
   used:=λm o hm=>?_
   bd:=λm o hm=>?_
   obj:=λm o hm=>?_
   inj:=λm1 m2 o1 o2 p q h1 h2 hne' hr1 hr2 hp hq=>?_
   free:=λm o p hm hr hp=>?_
   rawd:=λm o ts' D sz F hm hr hc=>?_}
  ·simp only[St.addRaw,g8]at hm;split at hm
   ·rename_i e;subst e;exact Nat.lt_succ_self _
   ·exact Nat.lt_succ_of_lt (hne hm)
  ·simp only[St.addRaw,g8]at hm;split at hm
   ·cases hm;intro j hj;exact absurd hj (Nat.not_lt_zero j)
   ·exact b8.bd_mono (λn hn=>Nat.lt_succ_of_lt hn) (hS.h.bd m o hm)
  ·simp only[St.addRaw,g8]at hm;split at hm
   ·rename_i e;subst e;cases hm;rw[if_pos rfl];rfl
   ·have hlt:=hne hm;show R0 w _ o (if m=S.N then none else ρ m);rw[hag m hlt];exact(hS.h.obj m o hm).congr (λ_ _ _ _ _ _=>rfl) (λj hj=>SV.den_congr (U:=(·< S.N)) hag _ (hS.h.bd m o hm j hj))
  ·simp only[St.addRaw,g8]at h1 h2;split at h1
   ·rename_i e;subst e;rw[if_pos rfl]at hp;cases hp
   ·split at h2
    ·rename_i e;subst e;rw[if_pos rfl]at hq;cases hq
    ·rw[hag m1 (hne h1)]at hp;rw[hag m2 (hne h2)]at hq;exact hS.h.inj m1 m2 o1 o2 p q h1 h2 hne' hr1 hr2 hp hq
  ·simp only[St.addRaw,g8]at hm;split at hm
   ·rename_i e;subst e;rw[if_pos rfl]at hp;cases hp
   ·rw[hag m (hne hm)]at hp;exact hS.h.free m o p hm hr hp
  ·simp only[St.addRaw,g8]at hm;split at hm
   ·cases hm;simp only[b5A,b8.raw.injEq]at hc;obtain⟨rfl,rfl,rfl,rfl⟩:=hc;exact⟨λb hb=>hb.elim,λb hb=>hb.elim,λ_ _ _ _ _ _ _=>id,λ_ _ _ _ _ _ _ _ _ _ b hb=>hb.elim⟩
   ·have k:=hS.h.rawd m o ts' D sz F hm hr hc;refine⟨k.sat,k.free,λm' o' q hm' hne' hr' hq=>?_,λm' o' ts2 D2 sz2 F2 hm' hne' hr' hc'=>?_⟩
    ·simp only[St.addRaw,g8]at hm';split at hm'
     ·rename_i e;subst e;rw[if_pos rfl]at hq;cases hq
     ·rw[hag m' (hne hm')]at hq;exact k.sep m' o' q hm' hne' hr' hq
    ·simp only[St.addRaw,g8]at hm';split at hm'
     ·cases hm';simp only[b5A,b8.raw.injEq]at hc';obtain⟨rfl,rfl,rfl,rfl⟩:=hc';exact λb _=>id
     ·exact k.sepr m' o' ts2 D2 sz2 F2 hm' hne' hr' hc'
 ·exact hS.s.mono (λn hn=>Nat.lt_succ_of_lt hn) (λn hn=>if_neg (Nat.ne_of_lt hn))
theorem Wp.addRaw{P:Program}{N0:Nat}{c:Code}{S:St}{K:Xt->St->Prop}(ts:List Nat)(h:N0<=S.N)(hw:Wp P N0 c (S.addRaw ts) K):Wp P N0 c S K:=Wp.refines' (B6.addRaw ts h) hw
theorem b0M {P:Program} {X:F6} (hX:B4 P X) {f:Nat} {fn:Func} (hf:P.funcs[f]? = some fn) (hb:fn.body.isNone=false) (hnm:(fn.name == "runtime.NumGoroutine")=false) {ι:Type} {ne:Nonempty ι} {C:List SV->RRd ι} (ts:List Nat)
  (h:∀ args,(C args).All (λacc hc=>okP hc.obl->a9a fn args acc hc/\
   ∃ A B,L5 X acc.length A B (l7 fn) ((z6 fn.ntmps hc.args hc.heap acc.length).addRaw ts) (A0 X.G.E.T fn.results.toList λS v=>∃ i,hc.P i/\B3 acc.length (hc.out i) S v)) []):z4 P f (q7 ι ne C) where
 loc:=by
  intro i args rd rd' nm e p hc hr;simp only[q7]at hc ⊢;split at hc
  ·rename_i sg hc0 hrun;split at hc
   ·rename_i hd;have he:=hc;simp only[oI9,pI9]at he;obtain⟨rfl,_⟩:=he;simp only[RRd.run_loc hrun hr,hd];exact hc
   ·cases hc
  ·cases hc
 calls:=by
  intro W0 Fr U H ρ w nm args hH hbd hn hall;obtain⟨i0⟩:=ne;obtain⟨e0,p0,h0,ho⟩:=hall i0;simp only[q7]at h0;split at h0
  case h_2=>cases h0
  rename_i sg hc hrun;split at h0
  case h_2=>cases h0
  rename_i hd;simp only[oI9,pI9]at h0;obtain⟨rfl,rfl⟩:=h0;obtain⟨acc,hacc,hlook,hQ⟩:=RRd.all_run (rd:=look H) (h args) (acc:=[]) (by simp) hrun;obtain⟨h1,A,B,h2⟩:=hQ ho;obtain⟨h3,h4,h5,h6⟩:=H5 h1;simp only[bA9]at h3;subst hacc
  refine(a3E hX.G hf (V0 hb) hnm hH hn hlook hd h5 h3.1 h3.2 (a0r h6) (I:=ι) (post:=hc.P) (out:=hc.out) (λi _=>by
   have:=h4 i;simp only[bA9]at this
   exact⟨this.1,this.2.1,this.2.2⟩) (Wp.mono (Wp.addRaw ts (Nat.le_refl _) (a2I hX _ h2)) λe S' hk'=>a0w (λ_ _ ⟨i,hi,hp⟩=>⟨i,hi,a2X hp⟩) hk')).mono ?_
  rintro en w' ⟨i,hi,ρ2,h7,h8,v,h9,h10,h11⟩
  exact⟨i,⟨some ((hc.out i).val.ren (J4 (y6 acc) nm)),W7 (J4 (y6 acc) nm) (hc.out i).wr,W7 (J4 (y6 acc) nm) (hc.out i).news,y6 acc,hc.obl⟩,hc.P i,
   by simp only[q7,hrun,hd],hi,ρ2,h7,h8,v,h9,h10,h11⟩
theorem a8m{k:Nat}{tau:List (Option Nm)}{n:Nat}(h:n<k):K9 k tau n=some n:=by
 unfold K9;rw[show Nat.blt n k=true from Nat.ble_eq_true_of_le h]
theorem a0I.one{k n:Nat}{hc:HC}{S:St}{v:SV}{o o':Ob}(hn:n<k)(hw:hc.wr=[(n,o')])(hnews:hc.news=[])(hl:look S.H n=some o)(hu:o'.c.und (k+24))(ho:obR (K9 k []) o o')(hv:w8 (K9 k []) v hc.val)(hvu:hc.val.und (k+24)=true):a0I k hc S v [] where
 val:=hv
 vu:=hvu
 hp:=by
  rw[hw,hnews];refine⟨⟨Nat.ble_eq_true_of_le (by omega),hu,?_⟩,trivial⟩;rw[a8m hn];simp only[hl];exact ho
 dist:=by
  rw[hw,hnews];show R9 (match o'.gone with|true=>[]|false=>(match K9 k [] n with|some m=>[m]|none=>[]))=true;rw[a8m hn];cases o'.gone <;> rfl
theorem b3W{σ:Sig}{el es:Nat}{ts D sz F}:obR σ ⟨true,el, .raw ts D sz F,es⟩ ⟨true,el, .raw ts D sz F,es⟩:=⟨rfl,rfl,rfl,rfl,rfl,rfl⟩
structure RM where
 D:Nat->Prop
 S:Nat->Nat
 F:Nat->Nat->Value
instance:Inhabited RM:=⟨⟨λ_=>False,λ_=>0,λ_ _=>.bool false⟩⟩
def rwO(ts:List Nat)(q:RM):Ob:=⟨true,0, .raw ts q.D q.S q.F,0⟩
def I6:Ob->Option (List Nat×RM)
 | ⟨true,0, .raw ts D sz F,0⟩=>some (ts,⟨D,sz,F⟩)
 | _=>none
theorem b2p{o:Ob}{ts:List Nat}{q:RM}(h:I6 o=some (ts,q)):o=rwO ts q:=by
 unfold I6 at h;split at h
 ·simp only[oI9,pI9]at h;obtain⟨rfl,rfl⟩:=h;rfl
 ·cases h
theorem C2{σ:Sig}{o:Ob}{ts:List Nat}{q:RM}(h:I6 o=some (ts,q)):obR σ o (rwO ts q):=by
 rw[b2p h];exact b3W
def J3{ι:Type}(k:Nat)(ts:List Nat)(P:ι->Prop)(q:ι->RM)(val:ι->SV)(o:Option Ob)(v:SV):Prop :=
 ∃ i,P i/\o=some (rwO ts (q i))/\w8 (K9 k []) v (val i)
theorem a1E {P:Program} {X:F6} (hX:B4 P X) {f:Nat} {fn:Func} (hf:P.funcs[f]? = some fn) (hb:fn.body.isNone=false) (hnm:(fn.name == "runtime.NumGoroutine")=false) {ι:Type} {ne:Nonempty ι} {C:List SV->RRd ι}
  (h:∀ args,(C args).All (λacc hc=>okP hc.obl->a9a fn args acc hc/\
   Wp P acc.length (l7 fn) (z6 fn.ntmps hc.args hc.heap acc.length) (A0 X.G.E.T fn.results.toList λS v=>∃ i,hc.P i/\∃ tau,a0I acc.length (hc.out i) S v tau)) []):z4 P f (q7 ι ne C) where
 loc:=by
  intro i args rd rd' nm e p hc hr;simp only[q7]at hc ⊢;split at hc
  ·rename_i sg hc0 hrun;split at hc
   ·rename_i hd;have he:=hc;simp only[oI9,pI9]at he;obtain⟨rfl,_⟩:=he;simp only[RRd.run_loc hrun hr,hd];exact hc
   ·cases hc
  ·cases hc
 calls:=by
  intro W0 Fr U H ρ w nm args hH hbd hn hall;obtain⟨i0⟩:=ne;obtain⟨e0,p0,h0,ho⟩:=hall i0;simp only[q7]at h0;split at h0
  case h_2=>cases h0
  rename_i sg hc hrun;split at h0
  case h_2=>cases h0
  rename_i hd;simp only[oI9,pI9]at h0;obtain⟨rfl,rfl⟩:=h0;obtain⟨acc,hacc,hlook,hQ⟩:=RRd.all_run (rd:=look H) (h args) (acc:=[]) (by simp) hrun;obtain⟨h1,h2⟩:=hQ ho;obtain⟨h3,h4,h5,h6⟩:=H5 h1;simp only[bA9]at h3;subst hacc
  refine(a3E hX.G hf (V0 hb) hnm hH hn hlook hd h5 h3.1 h3.2 (a0r h6) (I:=ι) (post:=hc.P) (out:=hc.out) (λi _=>by
   have:=h4 i;simp only[bA9]at this
   exact⟨this.1,this.2.1,this.2.2⟩) h2).mono ?_
  rintro en w' ⟨i,hi,ρ2,h7,h8,v,h9,h10,h11⟩
  exact⟨i,⟨some ((hc.out i).val.ren (J4 (y6 acc) nm)),W7 (J4 (y6 acc) nm) (hc.out i).wr,W7 (J4 (y6 acc) nm) (hc.out i).news,y6 acc,hc.obl⟩,hc.P i,
   by simp only[q7,hrun,hd],hi,ρ2,h7,h8,v,h9,h10,h11⟩
theorem D8 {P:Program} {X:F6} (hX:B4 P X) {f:Nat} {fn:Func} (hf:P.funcs[f]? = some fn) (hb:fn.body.isNone=false) (hnm:(fn.name == "runtime.NumGoroutine")=false) {ι:Type} {ne:Nonempty ι} {C:List SV->RRd ι}
  (h:∀ args,(C args).All (λacc hc=>okP hc.obl->a9a fn args acc hc/\0<acc.length/\
   ∃ ts q val,(∀ i,hc.out i=⟨[],[],val i,[(0,rwO ts (q i))],[],none⟩)/\(∀ i,hc.P i->(val i).und (acc.length+24)=true)/\
   ∃ A B,L5 X acc.length A B (l7 fn) (z6 fn.ntmps hc.args hc.heap acc.length) (A0 X.G.E.T fn.results.toList λS v=>J3 acc.length ts hc.P q val (look S.H 0) v)) []):z4 P f (q7 ι ne C):=by
 refine a1E hX hf hb hnm λargs=>?_
 have mono:∀ {Q Q':List (Nm×Ob)->RHC ι->Prop} (hq:∀ acc hc,Q acc hc->Q' acc hc) {m:RRd ι} {acc:List (Nm×Ob)},m.All Q acc->m.All Q' acc:=by
  intro Q Q' hq m
  induction m with
  | fail=>intro acc h;trivial
  | ret hc=>intro acc h;exact hq _ _ h
  | read n k ih=>intro acc h o;exact ih o (h o)
 refine mono (λacc hc hh ho=>?_) (h args);obtain⟨h1,h0,ts,q,val,ho1,hu,A,B,h2⟩:=hh ho;refine⟨h1,Wp.mono (a2I hX _ h2) λe S' hk'=>a0w (λS v hq=>?_) hk'⟩;obtain⟨i,hi,hl,hv⟩:=hq;refine⟨i,hi,[],?_⟩;rw[ho1 i];exact a0I.one (n:=0) (o:=rwO ts (q i)) (o':=rwO ts (q i)) h0 rfl rfl hl trivial b3W hv (hu i hi)
end Go.Sx

namespace Go.Proofs.Tryz.Sx
open Go Go.Sx Go.Proofs Go.Fl Go.Geo
set_option maxRecDepth 100000
theorem a3x(b:Nat):∀(vs:List Value)(c:Nat)(F:Nat->Nat->Value)(b' c':Nat),a3T F b c vs b' c'=if b'=b/\c<=c'/\c'<c+vs.length then vs.getD (c'-c) (.bool false)else F b' c'
 | [],c,F,b',c'=>by
  have:¬(b'=b/\c<=c'/\c'<c+([]:List Value).length):=by simp only[List.length_nil];omega
  rw[if_neg this];rfl
 | v :: r,c,F,b',c'=>by
  show a3T (j6 F b c v) b (c+1) r b' c'=_;rw[a3x b r (c+1)];by_cases h:b'=b/\c+1<=c'/\c'<c+1+r.length
  ·have h2:b'=b/\c<=c'/\c'<c+(v :: r).length:=⟨h.1,by omega,by simp only[List.length_cons];omega⟩;rw[if_pos h,if_pos h2,show c'-c=(c'-(c+1))+1 by omega];rfl
  ·rw[if_neg h];by_cases h1:b'=b/\c'=c
   ·obtain⟨rfl,rfl⟩:=h1;have h2:b'=b'/\c'<=c'/\c'<c'+(v :: r).length:=⟨rfl,Nat.le_refl _,by simp only[List.length_cons];omega⟩;rw[if_pos h2];simp[j6]
   ·have h2:¬(b'=b/\c<=c'/\c'<c+(v :: r).length):=by
     simp only[List.length_cons];rintro⟨e1,e2,e3⟩;by_cases e:c'=c
     ·exact h1 ⟨e1,e⟩
     ·exact h ⟨e1,by omega,by omega⟩
    rw[if_neg h2];simp only[j6];rw[if_neg h1]
theorem a0y{b c:Nat}{vs:List Value}{F:Nat->Nat->Value}{b' c':Nat}(h:b'≠b∨c'<c∨c+vs.length<=c'):a3T F b c vs b' c'=F b' c':=by
 rw[a3x,if_neg];rintro⟨h1,h2,h3⟩;omega
theorem b9{b c:Nat}{v:Value}{F:Nat->Nat->Value}{b' c':Nat}(h:b'≠b∨c'≠c):j6 F b c v b' c'=F b' c':=by
 unfold j6;rw[if_neg];rintro⟨h1,h2⟩;omega
theorem A2{b c:Nat}{v:Value}{F:Nat->Nat->Value}:j6 F b c v b c=v:=by simp[j6]
def fz(v:Value)(n:Int):Prop:=v=.float .f64 (j7 v)/\FI (j7 v) n/\n.natAbs<=4194304
theorem fz.flt{v:Value}{n:Int}(h:fz v n):z3 .f64 v:=h.1
theorem fz.lt{v w:Value}{n m:Int}(h1:fz v n)(h2:fz w m):fLt .f64 (j7 v) (j7 w)=decide (n<m):=N5 h1.2.1 h2.2.1
theorem fz.gt{v w:Value}{n m:Int}(h1:fz v n)(h2:fz w m):fGt .f64 (j7 v) (j7 w)=decide (m<n):=N1 h1.2.1 h2.2.1
theorem fz.sub{v w:Value}{n m:Int}(h1:fz v n)(h2:fz w m):fok .sub .f64 (j7 v) (j7 w)/\FI (fop .sub .f64 (j7 v) (j7 w)) (n-m)/\(n-m).natAbs<=8388608:=by
 have a:=h1.2.2;have b:=h2.2.2;obtain⟨h3,h4⟩:=a4Y h1.2.1 h2.2.1 (by omega);exact⟨h3,h4,by omega⟩
structure Bx where
 x0:Int
 y0:Int
 x1:Int
 y1:Int
deriving DecidableEq
def Bx.lo(B:Bx)(k:Nat):Int:=if k=0 then B.x0 else B.y0
def Bx.hi(B:Bx)(k:Nat):Int:=if k=0 then B.x1 else B.y1
def isBox(F:Nat->Nat->Value)(b c:Nat)(B:Bx):Prop:=fz (F b (c+1)) B.x0/\fz (F b (c+2)) B.y0/\fz (F b (c+3)) B.x1/\fz (F b (c+4)) B.y1
theorem isBox.lo{F:Nat->Nat->Value}{b c:Nat}{B:Bx}(h:isBox F b c B){k:Nat}(hk:k<2):fz (F b (c+1+k)) (B.lo k):=by
 unfold Bx.lo
 match k,hk with
 | 0,_=>exact h.1
 | 1,_=>exact h.2.1
theorem isBox.hi{F:Nat->Nat->Value}{b c:Nat}{B:Bx}(h:isBox F b c B){k:Nat}(hk:k<2):fz (F b (c+3+k)) (B.hi k):=by
 unfold Bx.hi
 match k,hk with
 | 0,_=>exact h.2.2.1
 | 1,_=>exact h.2.2.2
def D7(A B:Bx):Prop:=A.x0<=B.x0/\A.y0<=B.y0/\B.x1<=A.x1/\B.y1<=A.y1
instance (A B:Bx):Decidable (D7 A B):=by unfold D7;infer_instance
def B8(A B:Bx):Bx:=⟨if B.x0<A.x0 then B.x0 else A.x0,if B.y0<A.y0 then B.y0 else A.y0,if A.x1<B.x1 then B.x1 else A.x1,if A.y1<B.y1 then B.y1 else A.y1⟩
theorem a8d(A B:Bx)(h:D7 A B):B8 A B=A:=by
 unfold D7 at h;cases A;cases B;simp only[B8,Bx.mk.injEq]at h ⊢;refine⟨if_neg (by omega),if_neg (by omega),if_neg (by omega),if_neg (by omega)⟩
def I1(B:Bx)(l:List Bx):Prop:=(∀ a∈l,D7 B a)/\(l≠[]->(∃ a∈l,a.x0=B.x0)/\(∃ a∈l,a.y0=B.y0)/\(∃ a∈l,a.x1=B.x1)/\(∃ a∈l,a.y1=B.y1))
theorem a7Y(B:Bx):I1 B [B]:=⟨λa ha=>by simp at ha;subst ha;exact⟨Int.le_refl _,Int.le_refl _,Int.le_refl _,Int.le_refl _⟩,λ_=>⟨⟨B,by simp⟩,⟨B,by simp⟩,⟨B,by simp⟩,⟨B,by simp⟩⟩⟩
theorem b2u{B:Bx}{l l':List Bx}(h:l.Perm l')(ht:I1 B l):I1 B l':=by
 refine⟨λa ha=>ht.1 a (h.mem_iff.2 ha),λhn=>?_⟩;have hn':l≠[]:=λe=>hn (by rw[e]at h;exact h.nil_eq.symm)
 obtain⟨⟨a,h1,h2⟩,⟨b,h3,h4⟩,⟨c,h5,h6⟩,⟨d,h7,h8⟩⟩:=ht.2 hn';exact⟨⟨a,h.mem_iff.1 h1,h2⟩,⟨b,h.mem_iff.1 h3,h4⟩,⟨c,h.mem_iff.1 h5,h6⟩,⟨d,h.mem_iff.1 h7,h8⟩⟩
theorem a7u{B C:Bx}{l:List Bx}(hn:l≠[])(ht:I1 B l):I1 (B8 B C) (l++[C]):=by
 obtain⟨h0,h⟩:=ht;obtain⟨⟨a,h1,h2⟩,⟨b,h3,h4⟩,⟨c,h5,h6⟩,⟨d,h7,h8⟩⟩:=h hn;refine⟨λx hx=>?_,λ_=>⟨?_,?_,?_,?_⟩⟩
 ·rcases List.mem_append.1 hx with hx|hx
  ·have:=h0 x hx;unfold D7 at this ⊢;simp only[B8];refine⟨?_,?_,?_,?_⟩ <;> split <;> omega
  ·simp at hx;subst hx;unfold D7;simp only[B8];refine⟨?_,?_,?_,?_⟩ <;> split <;> omega
 ·by_cases e:C.x0<B.x0
  ·exact⟨C,by simp,by simp[B8,e]⟩
  ·exact⟨a,by simp[h1],by simp[B8,e,h2]⟩
 ·by_cases e:C.y0<B.y0
  ·exact⟨C,by simp,by simp[B8,e]⟩
  ·exact⟨b,by simp[h3],by simp[B8,e,h4]⟩
 ·by_cases e:B.x1<C.x1
  ·exact⟨C,by simp,by simp[B8,e]⟩
  ·exact⟨c,by simp[h5],by simp[B8,e,h6]⟩
 ·by_cases e:B.y1<C.y1
  ·exact⟨C,by simp,by simp[B8,e]⟩
  ·exact⟨d,by simp[h7],by simp[B8,e,h8]⟩
noncomputable def zI(v:Value):Int:=V (j7 v) / 2 ^ U1
theorem fz.zI{v:Value}{n:Int}(h:fz v n):zI v=n:=by
 unfold Go.Proofs.Tryz.Sx.zI;rw[h.2.1.2];exact Int.mul_ediv_cancel _ (by have:=E8 U1;omega)
noncomputable def bxOf(F:Nat->Nat->Value)(b c:Nat):Bx:=⟨zI (F b (c+1)),zI (F b (c+2)),zI (F b (c+3)),zI (F b (c+4))⟩
theorem isBox.bxOf{F:Nat->Nat->Value}{b c:Nat}{B:Bx}(h:isBox F b c B):bxOf F b c=B:=by
 obtain⟨h1,h2,h3,h4⟩:=h;cases B;simp only[Go.Proofs.Tryz.Sx.bxOf,h1.zI,h2.zI,h3.zI,h4.zI]
def okR(q:RM)(b c:Nat):Prop:=q.D b/\c+5<=q.S b/\isBox q.F b c (bxOf q.F b c)
theorem okR.mk'{q:RM}{b c:Nat}{B:Bx}(hD:q.D b)(hS:c+5<=q.S b)(h:isBox q.F b c B):okR q b c:=⟨hD,hS,by rw[h.bxOf];exact h⟩
def L1(q q':RM)(W:Nat->Nat->Prop):Prop:=q'.D=q.D/\q'.S=q.S/\∀ b c,¬W b c->q'.F b c=q.F b c
theorem L1.refl(q:RM)(W:Nat->Nat->Prop):L1 q q W:=⟨rfl,rfl,λ_ _ _=>rfl⟩
theorem L1.trans{q q' q'':RM}{W W' W'':Nat->Nat->Prop}(h:L1 q q' W)(h':L1 q' q'' W')(h1:∀ b c,W b c->W'' b c)(h2:∀ b c,W' b c->W'' b c):L1 q q'' W'' :=
 ⟨h'.1.trans h.1,h'.2.1.trans h.2.1,λb c hw=>(h'.2.2 b c λhw'=>hw (h2 b c hw')).trans (h.2.2 b c λhw'=>hw (h1 b c hw'))⟩
structure En where
 v:Value
 B:Bx
structure F4 (q:RM) (b:Nat) (l:List En):Prop where
 D:q.D b
 S:q.S b=86
 n:q.F b 0=.int .i64 (l.length:Nat)
 le:l.length<=17
 v:∀ j e,l[j]? = some e->q.F b (1+5*j)=e.v
 o:∀(j:Nat)(e:En),l[j]? = some e->e.v.oneCell'=true
 B:∀ j e,l[j]? = some e->isBox q.F b (1+5*j) e.B
theorem F4.okR{q:RM}{b:Nat}{l:List En}(h:F4 q b l){j:Nat}{e:En}(hj:l[j]? = some e):okR q b (1+5*j):=by
 refine okR.mk' h.D ?_ (h.B j e hj);have:=(List.getElem?_eq_some_iff.1 hj).1;have:=h.le;rw[h.S];omega
theorem F4.same{q q':RM}{b:Nat}{l:List En}(h:F4 q b l)(hD:q'.D b)(hS:q'.S b=q.S b)(hF:∀ c,q'.F b c=q.F b c):F4 q' b l where
 D:=hD
 S:=hS.trans h.S
 n:=(hF 0).trans h.n
 le:=h.le
 v:=λj e hj=>(hF _).trans (h.v j e hj)
 o:=h.o
 B:=λj e hj=>by
  obtain⟨h1,h2,h3,h4⟩:=h.B j e hj;exact⟨by rw[hF];exact h1,by rw[hF];exact h2,by rw[hF];exact h3,by rw[hF];exact h4⟩
theorem F4.push{q q':RM}{b:Nat}{l:List En}(h:F4 q b l)(hl:l.length<17)(hD:q'.D b)(hS:q'.S b=q.S b){e:En}(ho:e.v.oneCell'=true)(hn:q'.F b 0=.int .i64 (l.length+1:Nat))
  (hv:q'.F b (1+5*l.length)=e.v) (hB:isBox q'.F b (1+5*l.length) e.B) (hF:∀ c,1<=c->c<1+5*l.length->q'.F b c=q.F b c):F4 q' b (l++[e]) where
 D:=hD
 S:=hS.trans h.S
 n:=by rw[hn];simp
 le:=by simp;omega
 v:=λj x hj=>by
  by_cases hc:j<l.length
  ·rw[List.getElem?_append_left hc]at hj;rw[hF _ (by omega) (by omega)];exact h.v j x hj
  ·have hjl:j=l.length:=by
    have:=(List.getElem?_eq_some_iff.1 hj).1;simp at this;omega
   subst hjl;simp at hj;subst hj;exact hv
 o:=λj x hj=>by
  rcases List.mem_append.1 (List.mem_of_getElem? hj)with h1|h1
  ·obtain⟨i,hi,h2⟩:=List.getElem_of_mem h1;exact h.o i x (by rw[List.getElem?_eq_getElem hi,h2])
  ·simp at h1;subst h1;exact ho
 B:=λj x hj=>by
  by_cases hc:j<l.length
  ·rw[List.getElem?_append_left hc]at hj;obtain⟨h1,h2,h3,h4⟩:=h.B j x hj;exact⟨by rw[hF _ (by omega) (by omega)];exact h1,by rw[hF _ (by omega) (by omega)];exact h2,by rw[hF _ (by omega) (by omega)];exact h3,by rw[hF _ (by omega) (by omega)];exact h4⟩
  ·have hjl:j=l.length:=by
    have:=(List.getElem?_eq_some_iff.1 hj).1;simp at this;omega
   subst hjl;simp at hj;subst hj;exact hB
def a1s(l:List En)(i:Nat):List En:=(match l.getLast? with|some e=>l.set i e|none=>l).dropLast
theorem a6X{l:List En}{i:Nat}{e:En}(h:l[i]? = some e):l.Perm (e :: a1s l i):=by
 obtain⟨hi,rfl⟩:=List.getElem?_eq_some_iff.1 h;rcases List.eq_nil_or_concat l with rfl|⟨m,x,hm⟩
 ·simp at hi
 ·have hm:l=m++[x]:=by simpa using hm
  subst hm;simp only[a1s,List.getLast?_concat];by_cases hc:i<m.length
  ·rw[List.set_append_left _ _ hc,List.dropLast_concat,List.getElem_append_left hc];have h1:(m.set i x)=m.take i++x :: m.drop (i+1):=List.set_eq_take_append_cons_drop.trans (by rw[if_pos hc])
   have h2:m=m.take i++m[i] :: m.drop (i+1):=by
    conv=>lhs;rw[<-List.take_append_drop i m]
    rw[List.drop_eq_getElem_cons hc]
   rw[h1]
   conv=>lhs;rw[h2]
   rw[List.append_assoc];refine(List.perm_middle).trans (List.Perm.cons _ ?_);exact(List.Perm.append_left _ (List.perm_append_singleton x (m.drop (i+1))))
  ·have:i=m.length:=by simp at hi;omega
   subst this;simp
theorem a3u{l:List En}{i:Nat}(_:i<l.length):(a1s l i).length=l.length-1:=by
 unfold a1s;split <;> simp
theorem a8g{l:List En}{i j:Nat}(hi:i<l.length)(hj:j<l.length-1):(a1s l i)[j]? = if j=i then l[l.length-1]? else l[j]? := by
 rcases List.eq_nil_or_concat l with rfl|⟨m,x,hm⟩
 ·simp at hi
 ·have hm:l=m++[x]:=by simpa using hm
  subst hm;simp only[List.length_append,List.length_cons,List.length_nil,Nat.zero_add,Nat.add_sub_cancel]at hi hj ⊢;simp only[a1s,List.getLast?_concat,List.getElem?_dropLast,List.length_set,List.length_append,List.length_cons,List.length_nil,Nat.zero_add,Nat.add_sub_cancel,hj,if_true];rw[List.getElem?_set];by_cases hc:i=j
  ·subst hc;simp[hi]
  ·rw[if_neg hc,if_neg (λe=>hc e.symm)]
structure Kid where
 b:Nat
 fp:List Nat
 its:List (Int×Bx)
 B:Bx
 n:Nat
def b0i(x:Int×Bx):En:=⟨.iface 3 (.int .i64 x.1),x.2⟩
def E5(k:Kid):En:=⟨.iface 207 (.pointer (some ⟨k.b,0,none⟩)),k.B⟩
def isTr(q:RM):Nat->Kid->Prop
 | 0,k=>k.fp=[k.b]/\k.n=k.its.length/\F4 q k.b (k.its.map b0i)/\I1 k.B (k.its.map (·.2))
 | h+1,k=>∃ ks:List Kid,k.n=ks.length/\1<=k.n/\k.fp=k.b :: ks.flatMap (·.fp)/\k.its=ks.flatMap (·.its)/\F4 q k.b (ks.map E5)/\I1 k.B (ks.map (·.B))/\∀ x∈ks,isTr q h x/\1<=x.n/\x.n<=16
theorem isTr.nd{q:RM}:∀ {h:Nat} {k:Kid},isTr q h k->∃ l:List En,F4 q k.b l/\l.length=k.n/\I1 k.B (l.map (·.B))
 | 0,k,⟨_,h2,h3,h4⟩=>⟨_,h3,by simp[h2],by simpa [List.map_map,b0i,Function.comp_def]using h4⟩
 | h+1,k,⟨ks,h1,_,_,_,h5,h6,_⟩=>⟨_,h5,by simp[h1],by simpa [List.map_map,E5,Function.comp_def]using h6⟩
theorem isTr.fp0{q:RM}:∀ {h:Nat} {k:Kid},isTr q h k->k.b∈k.fp
 | 0,k,⟨h1,_⟩=>by rw[h1];simp
 | h+1,k,⟨ks,_,_,h3,_⟩=>by rw[h3];simp
theorem isTr.D{q:RM}:∀ {h:Nat} {k:Kid},isTr q h k->∀ b∈k.fp,q.D b
 | 0,k,⟨h1,_,h3,_⟩,b,hb=>by rw[h1]at hb;simp at hb;subst hb;exact h3.D
 | h+1,k,⟨ks,_,_,h3,_,h5,_,h7⟩,b,hb=>by
  rw[h3]at hb;rcases List.mem_cons.1 hb with rfl|hb
  ·exact h5.D
  ·obtain⟨x,hx,hb⟩:=List.mem_flatMap.1 hb;exact(h7 x hx).1.D b hb
theorem isTr.same{q q':RM}:∀ {h:Nat} {k:Kid},isTr q h k->(∀ b∈k.fp,q'.D b/\q'.S b=q.S b/\∀ c,q'.F b c=q.F b c)->isTr q' h k
 | 0,k,⟨h1,h2,h3,h4⟩,hs=>⟨h1,h2,h3.same (hs k.b (by rw[h1];simp)).1 (hs k.b (by rw[h1];simp)).2.1 (hs k.b (by rw[h1];simp)).2.2,h4⟩
 | h+1,k,⟨ks,h1,h2,h3,h4,h5,h6,h7⟩,hs=>⟨ks,h1,h2,h3,h4,h5.same (hs k.b (by rw[h3];simp)).1 (hs k.b (by rw[h3];simp)).2.1 (hs k.b (by rw[h3];simp)).2.2,h6,
   λx hx=>⟨(h7 x hx).1.same λb hb=>hs b (by rw[h3];exact List.mem_cons_of_mem _ (List.mem_flatMap.2 ⟨x,hx,hb⟩)),(h7 x hx).2⟩⟩
def X0:F6:=⟨G0,[],[],[],[]⟩
theorem x0:B4 prog X0:=⟨g0,y5.nil⟩
noncomputable def a8E:List SV->RRd (Unit)
 | [.pb n rb rc, .pb n1 bb bc]=>.read n λo0=>(match I6 o0 with
  | some (ts,q)=>.ret ⟨[.pb 0 rb rc, .pb 0 bb bc],[(0,rwO ts q)],some (n=n1/\(okR q rb rc/\okR q bb bc)),λ_i=>True,λ_i=>⟨[],[], .bool (decide (D7 (bxOf q.F rb rc) (bxOf q.F bb bc))),[(0,rwO ts (q))],[],none⟩⟩
  | none=>.fail)
 | _=>.fail
theorem b6u(R:Option Ob->SV->Prop)(ts:List Nat)(q:RM)(rb rc bb bc:Nat){T1}(t1:T1=(Option.some (Ob.mk true 0 (b8.raw ts (RM.D q) q.2 q.3) 0))){T2}(t2:T2=((0:Int)<=0/\(0:Int)<2)){T3}(t3:T3=((0:Int)<=1/\(1:Int)<2)){T4}(t4:T4=((0:Int)<=2/\(2:Int)<2)){T5}(t5:T5=(q.3 bb (bc+1+0))){T6}(t6:T6=(q.3
 rb (rc+1+0))){T7}(t7:T7=(q.3 bb (bc+1+1))){T8}(t8:T8=(q.3 rb (rc+1+1))){T9}(t9:T9=(q.3 bb (bc+1+2))){T10}(t10:T10=(q.3 rb (rc+1+2))){T11}(t11:T11=(q.1 rb/\rc+1+2<q.2 rb/\z3 .f64 T10)){T12}(t12:T12=(q.1 bb/\bc+1+0
 < q.2 bb/\z3 .f64 T5)){T13}(t13:T13=(q.1 rb/\rc+1+0<q.2 rb/\z3 .f64 T6)){T14}(t14:T14=(q.1 bb/\bc+1+1<q.2 bb/\z3 .f64 T7)){T15}(t15:T15=(q.1 rb/\rc+1+1<q.2 rb/\z3 .f64 T8)){T16}(t16:T16=(q.1 bb/\bc+1+2<q.2
 bb/\z3 .f64 T9)):L5 X0 1 [(2, .iter 3)] [] (l7 f133) (z6 f133.ntmps [.pb 0 rb rc, .pb 0 bb bc] [(0,rwO ts q)] 1) (A0 X0.G.E.T f133.results.toList λS v=>R (Go.Sx.look S.H 0) v)=(
 (true=true->(fLt .f64 (j7 T5) (j7 T6)=true->T2/\T12/\T2/\T13/\fLt .f64 (j7 T5) (j7 T6)=true/\true=true/\R T1 SV.ff)/\(fLt .f64 (j7 T5) (j7 T6)=false->T2/\T12/\T2/\T13/\fLt .f64 (j7 T5) (j7 T6)=false/\T2/\
 (q.1 bb/\bc+3+0<q.2 bb/\z3 .f64 (q.3 bb (bc+3+0)))/\T2/\(q.1 rb/\rc+3+0<q.2 rb/\z3 .f64 (q.3 rb (rc+3+0)))/\true=true/\(fGt .f64 (j7 (q.3 bb (bc+3+0))) (j7 (q.3 rb (rc+3+0)))=true->R T1 SV.ff)/\(fGt
 .f64 (j7 (q.3 bb (bc+3+0))) (j7 (q.3 rb (rc+3+0)))=false->(true=true->(fLt .f64 (j7 T7) (j7 T8)=true->T3/\T14/\T3/\T15/\fLt .f64 (j7 T7) (j7 T8)=true/\true=true/\R T1 SV.ff)/\(fLt .f64 (j7 T7) (j7 T8) =
 false->T3/\T14/\((0:Int)<=1/\(1:Int)<(2:Int))/\T15/\fLt .f64 (j7 T7) (j7 T8)=false/\((0:Int)<=(1:Int)/\(1:Int)<2)/\(q.1 bb/\bc+3+1<q.2 bb/\z3 .f64 (q.3 bb (bc+3+1)))/\T3/\(q.1 rb/\rc+3+1<q.2 rb
 /\z3 .f64 (q.3 rb (rc+3+1)))/\true=true/\(fGt .f64 (j7 (q.3 bb (bc+3+1))) (j7 (q.3 rb (rc+3+1)))=true->R T1 SV.ff)/\(fGt .f64 (j7 (q.3 bb (bc+3+1))) (j7 (q.3 rb (rc+3+1)))=false->(false=true->(fLt .f64
 (j7 T9) (j7 T10)=true->T4/\T16/\((0:Int)<=(2:Int)/\(2:Int)<2)/\T11/\fLt .f64 (j7 T9) (j7 T10)=true/\true=true/\R T1 SV.ff)/\(fLt .f64 (j7 T9) (j7 T10)=false->T4/\T16/\T4/\T11/\fLt .f64 (j7 T9) (j7 T10) =
 false/\((0:Int)<=2/\(2:Int)<(2:Int))/\(q.1 bb/\bc+3+2<q.2 bb/\z3 .f64 (q.3 bb (bc+3+2)))/\T4/\(q.1 rb/\rc+3+2<q.2 rb/\z3 .f64 (q.3 rb (rc+3+2)))/\true=true/\(fGt .f64 (j7 (q.3 bb (bc+3+2))) (j7
 (q.3 rb (rc+3+2)))=true->R T1 SV.ff)/\(fGt .f64 (j7 (q.3 bb (bc+3+2))) (j7 (q.3 rb (rc+3+2)))=false->False)))/\(false=false->R T1 SV.tt))))/\(true=false->R T1 SV.tt))))/\(true=false->R T1 SV.tt)):=by subst t1 t2 t3 t4 t5 t6 t7 t8 t9 t10 t11 t12 t13 t14 t15 t16;kernel_rfl
theorem c2B:z4 prog 133 (q7 (Unit) ⟨()⟩ a8E):=by
 refine D8 x0 func133 rfl (by kernel_rfl) λargs=>?_
 unfold a8E;split;rotate_left;trivial;rename_i n rb rc n1 bb bc;intro o0;try dsimp only
 split;rotate_left;trivial;rename_i ts q hm0;intro(ho:n=n1/\(okR q rb rc/\okR q bb bc));obtain⟨heq0,ho⟩:=ho;subst heq0;refine⟨?_,Nat.succ_pos _,ts,λ_i=>q,λ_i=>.bool (decide (D7 (bxOf q.F rb rc) (bxOf q.F bb bc))),λ_=>rfl,?_,_,_,(b6u (J3 1 ts (λ_i=>True) (λ_i=>q) (λ_i=>.bool (decide (D7 (bxOf q.F rb rc) (bxOf q.F bb bc))))) ts q rb rc bb bc rfl rfl rfl rfl rfl rfl rfl rfl rfl rfl rfl rfl rfl rfl rfl rfl).mpr ?_⟩
 ·refine g9 rfl ⟨λ_=>rfl,?_,⟨trivial,C2 hm0,trivial⟩⟩;simp[l9,w8,y4,y6,nth,a8]
 ·intro _i _;rfl
 ·obtain⟨⟨d1,s1,b1⟩,⟨d2,s2,b2⟩⟩:=ho;have e0:=(b2.lo (k:=0) (by omega)).lt (b1.lo (k:=0) (by omega));have e1:=(b2.lo (k:=1) (by omega)).lt (b1.lo (k:=1) (by omega));have e2:=(b2.hi (k:=0) (by omega)).gt (b1.hi (k:=0) (by omega));have e3:=(b2.hi (k:=1) (by omega)).gt (b1.hi (k:=1) (by omega));have f0:=(b2.lo (k:=0) (by omega)).flt;have f1:=(b2.lo (k:=1) (by omega)).flt;have f2:=(b2.hi (k:=0) (by omega)).flt;have f3:=(b2.hi (k:=1) (by omega)).flt;have g0:=(b1.lo (k:=0) (by omega)).flt;have g1:=(b1.lo (k:=1) (by omega)).flt;have g2:=(b1.hi (k:=0) (by omega)).flt
  have g3:=(b1.hi (k:=1) (by omega)).flt;have hR:∀ b:Bool,b=decide (D7 (bxOf q.F rb rc) (bxOf q.F bb bc))->∀ v,w8 (K9 1 []) v (.bool b)->J3 1 ts (λ_i:Unit=>True) (λ_i=>q) (λ_i=>.bool (decide (D7 (bxOf q.F rb rc) (bxOf q.F bb bc)))) (some ⟨true,0, .raw ts q.D q.S q.F,0⟩) v:=λb hb v hv=>⟨(),trivial,rfl,by subst hb;exact hv⟩
  generalize J3 1 ts (λ_i:Unit=>True) (λ_i=>q) (λ_i=>.bool (decide (D7 (bxOf q.F rb rc) (bxOf q.F bb bc))))=R at hR ⊢;have hff:¬D7 (bxOf q.F rb rc) (bxOf q.F bb bc)->R (some ⟨true,0, .raw ts q.D q.S q.F,0⟩) .ff:=λh=>hR false (decide_eq_false h).symm _ rfl
  have htt:D7 (bxOf q.F rb rc) (bxOf q.F bb bc)->R (some ⟨true,0, .raw ts q.D q.S q.F,0⟩) .tt:=λh=>hR true (decide_eq_true h).symm _ rfl
  clear hR;simp only[Bx.lo,Bx.hi,if_true,show ¬(1=0)from by omega,if_false]at e0 e1 e2 e3;simp only[e0,e1,e2,e3,f0,f1,f2,f3,g0,g1,g2,g3,d1,d2,true_and,and_true];unfold D7 at hff htt;grind
open Int (toNat)
def a3i(i j:Nat)(A B:Bx):Bx:=⟨if 0<i/\B.x0<A.x0 then B.x0 else A.x0,if 1<i/\B.y0<A.y0 then B.y0 else A.y0,if 0<j/\A.x1<B.x1 then B.x1 else A.x1,if 1<j/\A.y1<B.y1 then B.y1 else A.y1⟩
def rW(rb rc:Nat):Nat->Nat->Prop:=λb c=>b=rb/\rc+1<=c/\c<rc+5
def apart(rb rc bb bc:Nat):Prop:=rb≠bb∨rc+5<=bc∨bc+5<=rc
def exI(q:RM)(rb rc bb bc i j:Nat)(q':RM):Prop:=L1 q q' (rW rb rc)/\isBox q'.F rb rc (a3i i j (bxOf q.F rb rc) (bxOf q.F bb bc))
def c6b(ts:List Nat)(rb rc bb bc i:Nat)(q:RM):St:=⟨57,[(0, .pb 0 rb rc),(1, .pb 0 bb bc),(4, .int .i64 i)],[(0,rwO ts q)],1⟩
def exL(ts:List Nat)(q:RM)(rb rc bb bc:Nat):S3 :=
 ⟨⟨Nat×RM,λp=>c6b ts rb rc bb bc p.1 p.2,λp=>p.1<=2/\exI q rb rc bb bc p.1 p.1 p.2,λp=>2-p.1⟩,λp=>[(5,⟨RM,λq'=>c6b ts rb rc bb bc p.1 q',λq'=>p.1<2/\exI q rb rc bb bc (p.1+1) p.1 q',λ_=>0⟩)]⟩
theorem O9{F:Nat->Nat->Value}{b c:Nat}{B:Bx}:isBox F b c B↔∀ k,k<2->fz (F b (c+1+k)) (B.lo k)/\fz (F b (c+3+k)) (B.hi k) :=
 ⟨λh k hk=>⟨h.lo hk,h.hi hk⟩,λh=>⟨(h 0 (by omega)).1,(h 1 (by omega)).1,(h 0 (by omega)).2,(h 1 (by omega)).2⟩⟩
theorem a0p(i j k:Nat)(A B:Bx)(hk:k<2):(a3i i j A B).lo k=if k<i/\B.lo k<A.lo k then B.lo k else A.lo k:=by
 match k,hk with
 | 0,_=>rfl
 | 1,_=>rfl
theorem a0o(i j k:Nat)(A B:Bx)(hk:k<2):(a3i i j A B).hi k=if k<j/\A.hi k<B.hi k then B.hi k else A.hi k:=by
 match k,hk with
 | 0,_=>rfl
 | 1,_=>rfl
theorem a4c(A B:Bx):a3i 2 2 A B=B8 A B:=by
 unfold a3i B8;simp
theorem b2S(A B:Bx):a3i 0 0 A B=A:=by
 cases A;simp[a3i]
section
variable {q q':RM} {rb rc bb bc i j:Nat} (h1:okR q rb rc) (h2:okR q bb bc) (ha:apart rb rc bb bc) (h:exI q rb rc bb bc i j q')
include h1 h2 ha h
theorem exI.rd{k:Nat}(hk:k<2):fz (q'.F bb (bc+1+k)) ((bxOf q.F bb bc).lo k)/\fz (q'.F bb (bc+3+k)) ((bxOf q.F bb bc).hi k)/\fz (q'.F rb (rc+1+k)) ((a3i i j (bxOf q.F rb rc) (bxOf q.F bb bc)).lo k)/\fz (q'.F rb (rc+3+k)) ((a3i i j (bxOf q.F rb rc) (bxOf q.F bb bc)).hi k):=by
 have _:=h1;have off:∀ c,bc+1<=c->c<bc+5->q'.F bb c=q.F bb c:=λc c1 c2=>h.1.2.2 bb c (by unfold apart at ha;unfold rW;omega)
 refine⟨?_,?_,h.2.lo hk,h.2.hi hk⟩
 ·rw[off _ (by omega) (by omega)];exact h2.2.2.lo hk
 ·rw[off _ (by omega) (by omega)];exact h2.2.2.hi hk
theorem exI.dom:q'.D bb/\q'.D rb/\bc+5<=q'.S bb/\rc+5<=q'.S rb:=by
 have _:=ha;rw[h.1.1,h.1.2.1];exact⟨h2.1,h1.1,h2.2.1,h1.2.1⟩
theorem exI.lo1(hi:i<2)(hlt:fLt .f64 (j7 (q'.F bb (bc+1+i))) (j7 (q'.F rb (rc+1+i)))=true) :
  exI q rb rc bb bc (i+1) j ⟨q'.D,q'.S,j6 q'.F rb (rc+1+i) (.float .f64 (j7 (q'.F bb (bc+1+i))))⟩:=by
 obtain⟨r1,r2,r3,r4⟩:=exI.rd h1 h2 ha h hi;rw[r1.lt r3,a0p _ _ _ _ _ hi,if_neg (by omega),decide_eq_true_eq]at hlt;refine⟨⟨h.1.1,h.1.2.1,λb c hw=>(b9 (by unfold rW at hw;omega)).trans (h.1.2.2 b c hw)⟩,O9.2 λk hk=>?_⟩;obtain⟨t1,t2⟩:=O9.1 h.2 k hk;rw[a0p _ _ _ _ _ hk]at t1 ⊢;rw[a0o _ _ _ _ _ hk]at t2 ⊢;refine⟨?_,?_⟩
 ·by_cases e:k=i
  ·subst e;show fz (j6 q'.F rb (rc+1+k) _ rb (rc+1+k)) _;rw[A2,if_pos ⟨by omega,hlt⟩,<-r1.1];exact r1
  ·show fz (j6 q'.F rb (rc+1+i) _ rb (rc+1+k)) _;rw[b9 (by omega)];have:(k<i+1/\(bxOf q.F bb bc).lo k<(bxOf q.F rb rc).lo k)↔(k<i/\(bxOf q.F bb bc).lo k<(bxOf q.F rb rc).lo k):=by omega
   simp only[this];exact t1
 ·show fz (j6 q'.F rb (rc+1+i) _ rb (rc+3+k)) _;rw[b9 (by omega)];exact t2
theorem exI.lo0(hi:i<2)(hlt:fLt .f64 (j7 (q'.F bb (bc+1+i))) (j7 (q'.F rb (rc+1+i)))=false):exI q rb rc bb bc (i+1) j q':=by
 obtain⟨r1,r2,r3,r4⟩:=exI.rd h1 h2 ha h hi;rw[r1.lt r3,a0p _ _ _ _ _ hi,if_neg (by omega),decide_eq_false_iff_not]at hlt;refine⟨h.1,O9.2 λk hk=>?_⟩;obtain⟨t1,t2⟩:=O9.1 h.2 k hk;rw[a0p _ _ _ _ _ hk]at t1 ⊢;rw[a0o _ _ _ _ _ hk]at t2 ⊢;refine⟨?_,t2⟩
 have:(k<i+1/\(bxOf q.F bb bc).lo k<(bxOf q.F rb rc).lo k)↔(k<i/\(bxOf q.F bb bc).lo k<(bxOf q.F rb rc).lo k):=by
  by_cases e:k=i
  ·subst e;omega
  ·omega
 simp only[this];exact t1
theorem exI.hi1(hi:j<2)(hlt:fGt .f64 (j7 (q'.F bb (bc+3+j))) (j7 (q'.F rb (rc+3+j)))=true) :
  exI q rb rc bb bc i (j+1) ⟨q'.D,q'.S,j6 q'.F rb (rc+3+j) (.float .f64 (j7 (q'.F bb (bc+3+j))))⟩:=by
 obtain⟨r1,r2,r3,r4⟩:=exI.rd h1 h2 ha h hi;rw[r2.gt r4,a0o _ _ _ _ _ hi,if_neg (by omega),decide_eq_true_eq]at hlt;refine⟨⟨h.1.1,h.1.2.1,λb c hw=>(b9 (by unfold rW at hw;omega)).trans (h.1.2.2 b c hw)⟩,O9.2 λk hk=>?_⟩;obtain⟨t1,t2⟩:=O9.1 h.2 k hk;rw[a0p _ _ _ _ _ hk]at t1 ⊢;rw[a0o _ _ _ _ _ hk]at t2 ⊢;refine⟨?_,?_⟩
 ·show fz (j6 q'.F rb (rc+3+j) _ rb (rc+1+k)) _;rw[b9 (by omega)];exact t1
 ·by_cases e:k=j
  ·subst e;show fz (j6 q'.F rb (rc+3+k) _ rb (rc+3+k)) _;rw[A2,if_pos ⟨by omega,hlt⟩,<-r2.1];exact r2
  ·show fz (j6 q'.F rb (rc+3+j) _ rb (rc+3+k)) _;rw[b9 (by omega)];have:(k<j+1/\(bxOf q.F rb rc).hi k<(bxOf q.F bb bc).hi k)↔(k<j/\(bxOf q.F rb rc).hi k<(bxOf q.F bb bc).hi k):=by omega
   simp only[this];exact t2
theorem exI.hi0(hi:j<2)(hlt:fGt .f64 (j7 (q'.F bb (bc+3+j))) (j7 (q'.F rb (rc+3+j)))=false):exI q rb rc bb bc i (j+1) q':=by
 obtain⟨r1,r2,r3,r4⟩:=exI.rd h1 h2 ha h hi;rw[r2.gt r4,a0o _ _ _ _ _ hi,if_neg (by omega),decide_eq_false_iff_not]at hlt;refine⟨h.1,O9.2 λk hk=>?_⟩;obtain⟨t1,t2⟩:=O9.1 h.2 k hk;rw[a0p _ _ _ _ _ hk]at t1 ⊢;rw[a0o _ _ _ _ _ hk]at t2 ⊢;refine⟨t1,?_⟩
 have:(k<j+1/\(bxOf q.F rb rc).hi k<(bxOf q.F bb bc).hi k)↔(k<j/\(bxOf q.F rb rc).hi k<(bxOf q.F bb bc).hi k):=by
  by_cases e:k=j
  ·subst e;omega
  ·omega
 simp only[this];exact t2
end
noncomputable def a6C:List SV->RRd (RM)
 | [.pb n rb rc, .pb n1 bb bc]=>.read n λo0=>(match I6 o0 with
  | some (ts,q)=>.ret ⟨[.pb 0 rb rc, .pb 0 bb bc],[(0,rwO ts q)],some (n=n1/\(okR q rb rc/\okR q bb bc/\apart rb rc bb bc)),λi=>exI q rb rc bb bc 2 2 i,λi=>⟨[],[], .tup [],[(0,rwO ts (i))],[],none⟩⟩
  | none=>.fail)
 | _=>.fail
theorem b8r(R:Option Ob->SV->Prop)(ts:List Nat)(q:RM)(rb rc bb bc:Nat){T1}(t1:T1=λ(i:Nat×RM)=>(↑(i.1):Int)){T2}(t2:T2=λ(i:Nat×RM)=>((i.2).3 bb (bc+1+toNat (T1 i)*1))){T3}(t3:T3=(True/\rb=rb/\rc=rc)){T4}(t4:T4=(True/\bb=bb/\bc=bc)){T5}(t5:T5=λ(i:Nat×RM) (j:RM)=>(j.3 bb (bc+3 +
 toNat (T1 i)*1))){T6}(t6:T6=λ(pq:Nat×RM)=>(pq.1<=2/\exI q rb rc bb bc (pq.1) (pq.1) (pq.2))){T7}(t7:T7=λ(i:Nat×RM)=>((i.2).3 rb (rc+1+toNat (T1 i)*1))){T8}(t8:T8=λ(i:Nat×RM)=>(rc+3+toNat (T1 i) *
 1)){T9}(t9:T9=λ(i:Nat×RM)=>(0<=(T1 i)/\(T1 i)<2)):L5 X0 1 [(1,exL ts q rb rc bb bc)] [] (l7 f128) (z6 f128.ntmps [.pb 0 rb rc, .pb 0 bb bc] [(0,rwO ts q)] 1) (A0 X0.G.E.T f128.results.toList λS v=>R (Go.Sx.look S.H 0) v)=(
 (∃(pq:Nat×RM),(T6 pq)/\(T3/\T4/\0=(↑(pq.1):Int)/\True)/\True/\(0=0/\0=0/\ts=ts/\q.3=(pq.2).3/\q.2=(pq.2).2/\RM.D q=RM.D (pq.2))/\True)/\∀(i:Nat×RM),i.1<=2/\exI q rb rc bb bc (i.1) (i.1) (i.2)->(decide ((T1
 i)<2)=true->((T9 i)/\((i.2).1 bb/\bc+1+toNat (T1 i)*1<(Prod.snd i).2 bb/\z3 .f64 (T2 i))/\(T9 i)/\((i.2).1 rb/\rc+1+toNat (T1 i)*1<(i.2).2 rb/\z3 .f64 (T7 i))/\true=true/\(fLt .f64 (j7 (T2 i)) (j7 (T7
 i))=true->(T9 i)/\((i.2).1 bb/\bc+1+toNat (T1 i)*1<(i.2).2 bb/\z3 .f64 (T2 i))/\(T9 i)/\((i.2).1 rb/\rc+1+toNat (T1 i)*1+1<=(i.2).2 rb)/\true=true/\∃(pq:RM),(i.1<2/\exI q rb rc bb bc (i.1+1) (i.1) pq)
 /\(T3/\T4/\(T1 i)=(T1 i)/\True)/\True/\(0=0/\0=0/\ts=ts/\j6 (i.2).3 rb (rc+1+toNat (T1 i)*1) (Value.float .f64 (j7 (T2 i)))=pq.3/\(i.2).2=pq.2/\RM.D (i.2)=RM.D pq)/\True)/\(fLt .f64 (j7 (T2 i)) (j7 (T7 i))
 = false->∃(pq:RM),(i.1<2/\exI q rb rc bb bc (i.1+1) (i.1) pq)/\(T3/\T4/\(T1 i)=(T1 i)/\True)/\True/\(0=0/\0=0/\ts=ts/\(i.2).3=pq.3/\(i.2).2=pq.2/\RM.D (i.2)=RM.D pq)/\True))/\∀(j:RM),i.1<2/\exI q rb rc bb
 bc (i.1+1) (i.1) j->((0:Int)<=(T1 i)/\(T1 i)<2)/\(j.1 bb/\bc+3+toNat (T1 i)*1<j.2 bb/\z3 .f64 (T5 i j))/\((0:Int)<=(T1 i)/\(T1 i)<2)/\(j.1 rb/\rc+3+toNat (T1 i)*1<j.2 rb/\z3 .f64 (j.3 rb (T8 i)))/\
 true=true/\(fGt .f64 (j7 (T5 i j)) (j7 (j.3 rb (T8 i)))=true->(0<=(T1 i)/\(T1 i)<(2:Int))/\(j.1 bb/\bc+3+toNat (T1 i)*1<j.2 bb/\z3 .f64 (T5 i j))/\(0<=(T1 i)/\(T1 i)<(2:Int))/\(j.1 rb/\rc+3+toNat (T1
 i)*1+1<=j.2 rb)/\true=true/\∃(pq:Nat×RM),(T6 pq)/\2-pq.1<2-i.1/\(T3/\T4/\IntKind.wrap .i64 ((T1 i)+1)=(↑(pq.1):Int)/\True)/\True/\(0=0/\0=0/\ts=ts/\j6 j.3 rb (T8 i) (Value.float .f64 (j7 (T5 i j))) =
 (pq.2).3/\j.2=(pq.2).2/\RM.D j=RM.D (pq.2))/\True)/\(fGt .f64 (j7 (T5 i j)) (j7 (j.3 rb (T8 i)))=false->∃(pq:Nat×RM),(T6 pq)/\2-pq.1<2-i.1/\(T3/\T4/\IntKind.wrap .i64 ((T1 i)+1)=(↑(pq.1):Int)/\True)/\True/\(0 =
 0/\0=0/\ts=ts/\j.3=(pq.2).3/\j.2=(pq.2).2/\RM.D j=RM.D (pq.2))/\True))/\(decide ((T1 i)<2)=false->R (Option.some (Ob.mk true 0 (b8.raw ts (RM.D (i.2)) (i.2).2 (i.2).3) 0)) (SV.tup []))):=by subst t1 t2 t3 t4 t5 t6 t7 t8 t9;kernel_rfl
theorem b7u:z4 prog 128 (q7 (RM) ⟨default⟩ a6C):=by
 refine D8 x0 func128 rfl (by kernel_rfl) λargs=>?_
 unfold a6C;split;rotate_left;trivial;rename_i n rb rc n1 bb bc;intro o0;try dsimp only
 split;rotate_left;trivial;rename_i ts q hm0;intro(ho:n=n1/\(okR q rb rc/\okR q bb bc/\apart rb rc bb bc));obtain⟨heq0,ho⟩:=ho;subst heq0;refine⟨?_,Nat.succ_pos _,ts,λ(i:RM)=>i,λ(i:RM)=>.tup [],λ_=>rfl,?_,_,_,(b8r (J3 1 ts (λ(i:RM)=>exI q rb rc bb bc 2 2 i) (λ(i:RM)=>i) (λ(i:RM)=>.tup [])) ts q rb rc bb bc rfl rfl rfl rfl rfl rfl rfl rfl rfl).mpr ?_⟩
 ·refine g9 rfl ⟨λ_=>rfl,?_,⟨trivial,C2 hm0,trivial⟩⟩;simp[l9,w8,y4,y6,nth,a8]
 ·intro i _;rfl
 ·obtain⟨o1,o2,hap⟩:=ho;have hw:∀ i:Nat,i<2->IntKind.wrap .i64 ((i:Int)+1)=((i+1:Nat):Int):=λi hi=>by rw[p8 (by omega) (by omega)];omega
  refine⟨⟨(0,q),⟨by show 0<=2;omega,L1.refl _ _,by rw[b2S];exact o1.2.2⟩,(by and_intros <;> first|trivial|rfl|(rw[p8 (by omega) (by omega)];first|rfl|omega))⟩,?_⟩;rintro⟨i,q'⟩ ⟨hi,hq⟩;replace hi:i<=2:=hi;replace hq:exI q rb rc bb bc i i q':=hq;simp only[true_and,and_true,eq_self,tN9,Nat.mul_one,decide_eq_true_eq,decide_eq_false_iff_not];refine⟨λhlt=>⟨?_,?_⟩,λhge=>?_⟩
  ·have hi2:i<2:=by omega
   obtain⟨m1,m2,m3,m4⟩:=exI.dom o1 o2 hap hq;obtain⟨r1,r2,r3,r4⟩:=exI.rd o1 o2 hap hq hi2;refine⟨⟨by omega,by omega⟩,⟨m1,by omega,r1.flt⟩,⟨by omega,by omega⟩,⟨m2,by omega,r3.flt⟩,λhc=>⟨⟨by omega,by omega⟩,⟨m1,by omega,r1.flt⟩,⟨by omega,by omega⟩,⟨m2,by omega⟩,⟨_,_,_⟩,⟨hi2,exI.lo1 o1 o2 hap hq hi2 hc⟩,(by and_intros <;> first|trivial|rfl|(rw[p8 (by omega) (by omega)];first|rfl|omega))⟩,λhc=>⟨q',⟨hi2,exI.lo0 o1 o2 hap hq hi2 hc⟩,(by and_intros <;> first|trivial|rfl|(rw[p8 (by omega) (by omega)];first|rfl|omega))⟩⟩
  ·rintro q2 ⟨hi2,hq2⟩;obtain⟨m1,m2,m3,m4⟩:=exI.dom o1 o2 hap hq2;obtain⟨r1,r2,r3,r4⟩:=exI.rd o1 o2 hap hq2 hi2;simp only[hw i hi2]
   refine⟨⟨by omega,by omega⟩,⟨m1,by omega,r2.flt⟩,⟨by omega,by omega⟩,⟨m2,by omega,r4.flt⟩,λhc=>⟨⟨by omega,by omega⟩,⟨m1,by omega,r2.flt⟩,⟨by omega,by omega⟩,⟨m2,by omega⟩,(i+1,⟨_,_,_⟩),⟨by show i+1<=2;omega,exI.hi1 o1 o2 hap hq2 hi2 hc⟩,by show 2-(i+1)<2-i;omega,(by and_intros <;> first|trivial|rfl|(rw[p8 (by omega) (by omega)];first|rfl|omega))⟩,λhc=>⟨(i+1,q2),⟨by show i+1<=2;omega,exI.hi0 o1 o2 hap hq2 hi2 hc⟩,by show 2-(i+1)<2-i;omega,(by and_intros <;> first|trivial|rfl|(rw[p8 (by omega) (by omega)];first|rfl|omega))⟩⟩
  ·have e:i=2:=by omega
   subst e;exact⟨q',hq,rfl,trivial⟩
end Go.Proofs.Tryz.Sx

namespace Go.Sx
open Go.RowKit
def a2W(R:a8M)(i:R.ι):Con:=λargs rd nm=>match R.c i args rd nm with
 | some (e,_)=>some e
 | none=>none
theorem a8S{P:Program}{f:Nat}{R:a8M}(h:z4 P f R)(i:R.ι)(hi:∀ j,j=i):z8 P f (a2W R i) where
 calls:=by
  intro W0 Fr U H ρ w nm args e hH hbd hn hc ho;unfold a2W at hc;split at hc
  ·rename_i e' p he;simp only[oI9]at hc;subst hc;refine(h.calls hH hbd hn λj=>by rw[hi j];exact⟨e',p,he,ho⟩).mono ?_;rintro en w' ⟨j,e2,p2,h1,h2,h3⟩;rw[hi j,he]at h1;simp only[oI9,pI9]at h1;obtain⟨rfl,rfl⟩:=h1;exact h3
  ·cases hc
 loc:=by
  intro args rd rd' nm e hc hr;unfold a2W at hc ⊢;split at hc
  ·rename_i e' p he;simp only[oI9]at hc;subst hc;rw[h.loc he hr]
  ·cases hc
end Go.Sx
