/- Parts of a proof, in order: what each says stands at its head. No conditions. -/
import Derived.Scope
import Derived.Orders
import Derived.ArgAppend
import Derived.RegionTactic
import Derived.Test.YtfhkmkhcofodmaaM1
namespace Go.Sx
open Go.RowKit
def fltV:Value->Nat
 | .float _ b=>b
 | _=>0
def intV:Value->Int
 | .int _ n=>n
 | _=>0
def bolV:Value->Bool
 | .bool b=>b
 | _=>false
def ptB:Value->Nat
 | .pointer (some a)=>a.block
 | _=>0
def ptC:Value->Nat
 | .pointer (some a)=>a.off
 | _=>0
def slB:Value->Nat
 | .slice (some a) _ _=>a.block
 | _=>0
def slC:Value->Nat
 | .slice (some a) _ _=>a.off
 | _=>0
def slL:Value->Nat
 | .slice _ l _=>l
 | _=>0
def slK:Value->Nat
 | .slice _ _ k=>k
 | _=>0
def ifcV:Value->Value
 | .iface _ v=>v
 | v=>v
def isFlt(k:FloatKind)(v:Value):Prop:=v=.float k (fltV v)
def isInt(k:IntKind)(v:Value):Prop:=v=.int k (intV v)
def isBol(v:Value):Prop:=v=.bool (bolV v)
def isPt(v:Value):Prop:=v=.pointer (some ⟨ptB v,ptC v,none⟩)
def isSl(v:Value):Prop:=v=.slice (some ⟨slB v,slC v,none⟩) (slL v) (slK v)
def isSlN(v:Value):Prop:=v=.slice none 0 0∨isSl v
def isIf(t:Nat)(v:Value):Prop:=v=.iface t (ifcV v)
def nilV:Value->Bool
 | .nilIface=>true
 | .pointer none=>true
 | _=>false
def isIfN(v:Value):Prop:=v=.nilIface∨∃ t x,v=.iface t x
def isPtN(v:Value):Prop:=v=.pointer none∨∃ a,v=.pointer (some a)
def dvs(n:Nm)(F:Nat->Nat->Value)(b:Nat):Nat->Nat->List SV
 | _,0=>[]
 | c,k+1=>.dv n (F b c) :: dvs n F b (c+1) k
def fvs(F:Nat->Nat->Value)(b:Nat):Nat->Nat->List Value
 | _,0=>[]
 | c,k+1=>F b c :: fvs F b (c+1) k
theorem fvs_len(F:Nat->Nat->Value)(b:Nat):∀ k c,(fvs F b c k).length=k
 | 0,_=>rfl
 | k+1,c=>by simp[fvs,fvs_len F b k]
theorem fvs_get(F:Nat->Nat->Value)(b:Nat):∀ k c j v,(fvs F b c k)[j]? = some v->j<k/\v=F b (c+j)
 | 0,_,j,v,h=>by simp[fvs]at h
 | k+1,c,0,v,h=>by simp[fvs]at h;exact⟨by omega,h.symm⟩
 | k+1,c,j+1,v,h=>by
  simp only[fvs,List.getElem?_cons_succ]at h;obtain⟨h1,h2⟩:=fvs_get F b k (c+1) j v h;exact⟨by omega,by rw[h2];congr 1;omega⟩
theorem dvs_den(ρ:Rho)(n:Nm)(F:Nat->Nat->Value)(b:Nat):∀ k c,(∀ j,j<k->(F b (c+j)).oneCell'=true)->denL ρ (dvs n F b c k)=fvs F b c k
 | 0,_,_=>rfl
 | k+1,c,h=>by
  have h0:=h 0 (by omega);simp only[Nat.add_zero]at h0;simp only[dvs,fvs,denL,SV.den,h0,if_true]
  rw[dvs_den ρ n F b k (c+1) (λj hj=>by
   have:=h (j+1) (by omega)
   rwa [show c+(j+1)=c+1+j by omega]at this)]
theorem dvs_bd{U:Nm->Prop}{n:Nm}(hU:U n)(F:Nat->Nat->Value)(b:Nat):∀ k c,bdL U (dvs n F b c k)
 | 0,_=>trivial
 | k+1,c=>⟨hU,dvs_bd hU F b k (c+1)⟩
def valOf:SV->Option (Value×Option Prop)
 | .tt=>some (.bool true,none)
 | .ff=>some (.bool false,none)
 | .bool b=>some (.bool b,none)
 | .int k n=>some (.int k n,none)
 | .flt k n=>some (.float k n,none)
 | .nilp=>some (.pointer none,none)
 | .nils=>some (.slice none 0 0,none)
 | .nili=>some (.nilIface,none)
 | .pb _ b c=>some (.pointer (some ⟨b,c,none⟩),none)
 | .slb _ b c l k=>some (.slice (some ⟨b,c,none⟩) l k,none)
 | .dv _ v=>some (v,some (v.oneCell'=true))
 | .ifc t v=>match valOf v with
  | some (x,p)=>some (.iface t x,p)
  | none=>none
 | _=>none
theorem valOf_den(ρ:Rho):∀ {s:SV} {v:Value} {p:Option Prop},valOf s=some (v,p)->okP p->s.den ρ=v
 | .ifc t u,v,p,h,hp=>by
  simp only[valOf]at h;split at h
  ·rename_i x q hx;simp only[Option.some.injEq,Prod.mk.injEq]at h;obtain⟨rfl,rfl⟩:=h;simp[SV.den,valOf_den ρ hx hp]
  ·cases h
 | .dv n u,v,p,h,hp=>by
  simp only[valOf,Option.some.injEq,Prod.mk.injEq]at h;obtain⟨rfl,rfl⟩:=h;simp only[SV.den];exact if_pos hp
 | .tt,v,p,h,_ | .ff,v,p,h,_ | .bool _,v,p,h,_ | .int _ _,v,p,h,_ | .flt _ _,v,p,h,_ | .nilp,v,p,h,_ | .nils,v,p,h,_ | .nili,v,p,h,_ | .pb _ _ _,v,p,h,_ | .slb _ _ _ _ _,v,p,h,_=>by
  simp only[valOf,Option.some.injEq,Prod.mk.injEq]at h;obtain⟨rfl,rfl⟩:=h;rfl
 | .str _,_,_,h,_ | .ptr _ _,_,_,h,_ | .slc _ _ _ _,_,_,h,_ | .slcc _ _,_,_,h,_ | .agg _,_,_,h,_ | .tup _,_,_,h,_ | .fn _ _ _,_,_,h,_ | .nilf,_,_,h,_ | .sla _ _ _,_,_,h,_=>by simp[valOf]at h
theorem valOf_one:∀ {s:SV} {v:Value} {p:Option Prop},valOf s=some (v,p)->okP p->v.oneCell'=true
 | .ifc t u,v,p,h,hp=>by
  simp only[valOf]at h;split at h
  ·simp only[Option.some.injEq,Prod.mk.injEq]at h;obtain⟨rfl,rfl⟩:=h;rfl
  ·cases h
 | .dv n u,v,p,h,hp=>by
  simp only[valOf,Option.some.injEq,Prod.mk.injEq]at h;obtain⟨rfl,rfl⟩:=h;exact hp
 | .tt,v,p,h,_ | .ff,v,p,h,_ | .bool _,v,p,h,_ | .int _ _,v,p,h,_ | .flt _ _,v,p,h,_ | .nilp,v,p,h,_ | .nils,v,p,h,_ | .nili,v,p,h,_ | .pb _ _ _,v,p,h,_ | .slb _ _ _ _ _,v,p,h,_=>by
  simp only[valOf,Option.some.injEq,Prod.mk.injEq]at h;obtain⟨rfl,rfl⟩:=h;rfl
 | .str _,_,_,h,_ | .ptr _ _,_,_,h,_ | .slc _ _ _ _,_,_,h,_ | .slcc _ _,_,_,h,_ | .agg _,_,_,h,_ | .tup _,_,_,h,_ | .fn _ _ _,_,_,h,_ | .nilf,_,_,h,_ | .sla _ _ _,_,_,h,_=>by simp[valOf]at h
def valsOf:List SV->Option Prop->Option (List Value×Option Prop)
 | [],p=>some ([],p)
 | s :: r,p=>match valOf s with
  | some (v,q)=>match valsOf r (match q with|some q=>andP p q|none=>p)with
   | some (vs,p')=>some (v :: vs,p')
   | none=>none
  | none=>none
theorem valsOf_spec(ρ:Rho):∀ {l:List SV} {p q:Option Prop} {vs:List Value},valsOf l p=some (vs,q)->okP q->okP p/\denL ρ l=vs/\∀ v∈vs,v.oneCell'=true
 | [],p,q,vs,h,hq=>by
  simp only[valsOf,Option.some.injEq,Prod.mk.injEq]at h;obtain⟨rfl,rfl⟩:=h;exact⟨hq,rfl,by simp⟩
 | s :: r,p,q,vs,h,hq=>by
  simp only[valsOf]at h;split at h
  ·rename_i v q' hv;split at h
   ·rename_i vs' p' hvs;simp only[Option.some.injEq,Prod.mk.injEq]at h;obtain⟨rfl,rfl⟩:=h;obtain⟨h1,h2,h3⟩:=valsOf_spec ρ hvs hq
    have h4:okP p/\okP q':=by
     cases q' with
     | none=>exact⟨h1,trivial⟩
     | some x=>exact andP_ok h1
    refine⟨h4.1,by simp[denL,valOf_den ρ hv h4.2,h2],λu hu=>?_⟩;rcases List.mem_cons.1 hu with rfl|hu
    ·exact valOf_one hv h4.2
    ·exact h3 u hu
   ·cases h
  ·cases h
def updC(F:Nat->Nat->Value)(b:Nat):Nat->List Value->Nat->Nat->Value
 | _,[]=>F
 | c,v :: r=>updC (updN F b c v) b (c+1) r
section
variable {P:Program} {W0:World} {Fr:Nat->Prop} {U:Nm->Prop} {H:Heap} {ρ:Rho} {w:World} {nm:Nm}
def rLd(T:Tys)(rd:Nm->Option Ob)(t:Nat)(x:SV):Option Eff :=
 match x with
 | .pb n b c=>match ty T t with
  | some ti=>match rd n with
   | some ⟨true,_, .raw _ D sz F,_⟩=>match ti.isAgg with
    | true=>match Nat.ble 1 ti.size with
     | true=>some ⟨some (.agg (dvs n F b c ti.size)),[],[],[n],some (D b/\c+ti.size<=sz b)⟩
     | false=>none
    | false=>match ti.tk with
     | .flt k=>some ⟨some (.flt k (fltV (F b c))),[],[],[n],some (D b/\c<sz b/\isFlt k (F b c))⟩
     | .int k=>some ⟨some (.int k (intV (F b c))),[],[],[n],some (D b/\c<sz b/\isInt k (F b c))⟩
     | .bool=>some ⟨some (.bool (bolV (F b c))),[],[],[n],some (D b/\c<sz b/\isBol (F b c))⟩
     | _=>some ⟨some (.dv n (F b c)),[],[],[n],some (D b/\c<sz b)⟩
   | _=>none
  | none=>none
 | _=>none
theorem rLd_sound{T:Tys}(hT:TysOk P T)(hH:HSat W0 Fr U H ρ w){t:Nat}{x:SV}{e:Eff}(h:rLd T (look H) t x=some e)(ho:okP e.obl) :
  Done W0 Fr U H ρ nm e ((do pure (.value (<-Instr.loadAt t (x.den ρ))):Sem Next).run P w):=by
 unfold rLd at h;split at h
 ·rename_i n b c;split at h
  ·rename_i ti hti;split at h
   ·rename_i el ts D sz F es hob;have hU:=hH.used n _ hob;split at h
    ·rename_i hag;split at h
     ·rename_i hsz;simp only[Option.some.injEq]at h;subst h;obtain⟨hD,hle⟩:=ho
      have hc:∀ j,j<ti.size->w.cell? ⟨b,c+j,none⟩=some (F b (c+j))/\(F b (c+j)).oneCell'=true:=λj hj=>by
       obtain⟨h1,h2,_⟩:=hH.rawCell hob rfl rfl hD (c:=c+j) (by omega);exact⟨h1,h2⟩
      refine Done.same hH (v:=.agg (dvs n F b c ti.size)) (dvs_bd hU F b _ _) ?_
      have:=run_loadCells (P:=P) (w:=w) (b:=b) (o:=c) (fvs F b c ti.size) (λj u hu=>by
       obtain⟨h1,h2⟩:=fvs_get F b _ _ _ _ hu
       rw[h2];exact(hc j h1).1)
      rw[fvs_len]at this;simp[SV.den,Instr.loadAt,Instr.sureAddr,loadVar,(hT t ti hti).isAgg' w,hag,(hT t ti hti).run_size w,this,dvs_den ρ n F b ti.size c (λj hj=>(hc j hj).2)]
     ·cases h
    ·rename_i hag
     have main:∀ v:SV,D b->c<sz b->v.bd U->v.den ρ=F b c->Done W0 Fr U H ρ nm ⟨some v,[],[],[n],e.obl⟩ ((do pure (.value (<-Instr.loadAt t ((SV.pb n b c).den ρ))):Sem Next).run P w):=by
      intro v hD hlt hv hden;obtain⟨h1,h2,_⟩:=hH.rawCell hob rfl rfl hD hlt;refine Done.same hH (v:=v) hv ?_;simp[SV.den,Instr.loadAt,Instr.sureAddr,loadVar,(hT t ti hti).isAgg' w,hag,run_load,h1,hden]
     split at h
     ·simp only[Option.some.injEq]at h;subst h;obtain⟨h1,h2,h3⟩:=ho;exact main _ h1 h2 trivial h3.symm
     ·simp only[Option.some.injEq]at h;subst h;obtain⟨h1,h2,h3⟩:=ho;exact main _ h1 h2 trivial h3.symm
     ·simp only[Option.some.injEq]at h;subst h;obtain⟨h1,h2,h3⟩:=ho;exact main _ h1 h2 trivial h3.symm
     ·simp only[Option.some.injEq]at h;subst h;obtain⟨h1,h2⟩:=ho;refine main (.dv n (F b c)) h1 h2 hU ?_;obtain⟨_,h4,_⟩:=hH.rawCell hob rfl rfl h1 h2;simp[SV.den,h4]
   ·cases h
  ·cases h
 ·cases h
def rSt(T:Tys)(rd:Nm->Option Ob)(t:Nat)(x v:SV):Option Eff :=
 match x with
 | .pb n b c=>match ty T t with
  | some ti=>match Nat.beq v.cells.length ti.size with
   | true=>match rd n with
    | some ⟨true,el, .raw ts D sz F,es⟩=>match valsOf v.cells (some (D b/\c+ti.size<=sz b))with
     | some (vs,p)=>some ⟨none,[(n,⟨true,el, .raw ts D sz (updC F b c vs),es⟩)],[],[n],p⟩
     | none=>none
    | _=>none
   | false=>none
  | none=>none
 | _=>none
theorem run_storeRaw{n:Nm}{el es:Nat}{ts:List Nat}{D:Nat->Prop}{sz:Nat->Nat}{b:Nat}(hD:D b):∀(vs:List Value)(F:Nat->Nat->Value) {H:Heap} {w:World},HSat W0 Fr U H ρ w->look H n=some ⟨true,el, .raw ts D sz F,es⟩->
  ∀(base i:Nat),base+i+vs.length<=sz b->(∀ v∈vs,v.oneCell'=true)->
  ∃ w',(storeCells ⟨b,base,none⟩ vs i).run P w=.ok () w'/\HSat W0 Fr U ((n,⟨true,el, .raw ts D sz (updC F b (base+i) vs),es⟩) :: H) ρ w'
 | [],F,H,w,hH,hn,base,i,_,_=>by
  refine⟨w,by simp[storeCells],hH.lookEq λm=>?_⟩;rw[look_cons];split
  ·rename_i e;subst e;exact hn.symm
  ·rfl
 | v :: r,F,H,w,hH,hn,base,i,hle,hone=>by
  simp only[List.length_cons]at hle;have hlt:base+i<sz b:=by omega
  have hv:=hone v (by simp);obtain⟨hc,_,hfz⟩:=hH.rawCell hn rfl rfl hD hlt;have hs:=hH.rawStore hn rfl rfl hD hlt hv;obtain⟨w',hrun,hH'⟩:=run_storeRaw hD r (updN F b (base+i) v) hs (by rw[look_cons,if_pos rfl]) base (i+1) (by omega) (λu hu=>hone u (by simp[hu]));refine⟨w',?_,hH'.lookEq λm=>?_⟩
  ·simp only[storeCells,Sem.run_bind,Addr.add_lit];rw[run_store P w _ _ _ hv,hc];simp[hfz,hrun]
  ·simp only[look_cons];split <;> simp[updC,Nat.add_assoc]
theorem rSt_sound{T:Tys}(hT:TysOk P T)(hH:HSat W0 Fr U H ρ w){t:Nat}{x v:SV}{e:Eff}(h:rSt T (look H) t x v=some e)(ho:okP e.obl) :
  Done W0 Fr U H ρ nm e ((do Instr.storeAt t (x.den ρ) (v.den ρ);pure .skip:Sem Next).run P w):=by
 unfold rSt at h;split at h
 ·rename_i n b c;split at h
  ·rename_i ti hti;split at h
   ·rename_i hlen;have hl:=Nat.eq_of_beq_eq_true hlen;split at h
    ·rename_i el ts D sz F es hob;split at h
     ·rename_i vs p hvs;simp only[Option.some.injEq]at h;subst h;obtain⟨⟨hD,hle⟩,hden,hone⟩:=valsOf_spec ρ hvs ho;have hvl:vs.length=ti.size:=by rw[<-hden,denL_eq,List.length_map,hl]
      obtain⟨w',hrun,hH'⟩:=run_storeRaw (P:=P) hD vs F hH hob c 0 (by omega) hone;refine⟨ρ,w',λ_ _=>rfl,by simpa using hH'.mono UU_of,?_⟩;simp only[SV.den,Instr.storeAt,Instr.sureAddr,storeVar,Sem.run_bind,Sem.run_pure,Result.andThen_ok,(hT t ti hti).run_size w,SV.den_cells,hden];simp[hvl,hrun]
     ·cases h
    ·cases h
   ·cases h
  ·cases h
 ·cases h
def rFA(T:Tys)(s:Nat)(x:SV)(i:Nat):Option Eff :=
 match x with
 | .pb n b c=>match ty T s with
  | some {tk:=.struct fs, ..}=>match nth fs i with
   | some (o,e)=>match ty T e with
    | some te=>match Nat.ble 1 te.size with
     | true=>some ⟨some (.pb n b (c+o)),[],[],[],none⟩
     | false=>none
    | none=>none
   | none=>none
  | _=>none
 | _=>none
theorem rFA_sound{T:Tys}(hT:TysOk P T)(hH:HSat W0 Fr U H ρ w){s:Nat}{x:SV}(hx:x.bd U){i:Nat}{e:Eff}(h:rFA T s x i=some e) :
  Done W0 Fr U H ρ nm e ((do pure (.value (<-Instr.fieldAt s (x.den ρ) i)):Sem Next).run P w):=by
 unfold rFA at h;split at h
 ·rename_i n b c;split at h
  ·rename_i fs _ _ _ hti;split at h
   ·rename_i o el hf;split at h
    ·rename_i te hte;split at h
     ·rename_i hsz;simp only[Option.some.injEq]at h;subst h;obtain⟨d,f,h1,h2,rfl,rfl⟩:=struct_field (hT s _ hti) rfl hf;refine Done.same hH (v:=.pb n b (c+f.offset)) hx ?_;have hz:te.size≠0:=by have:=Nat.le_of_ble_eq_true hsz;omega
      simp[Instr.fieldAt,run_underlying h1,h2,Instr.sureAddr,SV.den,fieldPlace,(hT _ te hte).run_size w,hz,Addr.add_lit]
     ·cases h
    ·cases h
   ·cases h
  ·cases h
 ·cases h
def rIA(T:Tys)(t:Nat)(x ix:SV):Option Eff :=
 match ix with
 | .int _ i=>match x with
  | .pb n b c=>match ty T t with
   | some {tk:=.array len e, ..}=>match ty T e with
    | some te=>some ⟨some (.pb n b (c+i.toNat*te.size)),[],[],[],some (0<=i/\i<(len:Int))⟩
    | none=>none
   | _=>none
  | .slb n b c len _=>match ty T t with
   | some {tk:=.slice e, ..}=>match ty T e with
    | some te=>some ⟨some (.pb n b (c+i.toNat*te.size)),[],[],[],some (0<=i/\i<(len:Int))⟩
    | none=>none
   | _=>none
  | .dv n v=>match ty T t with
   | some {tk:=.slice e, ..}=>match ty T e with
    | some te=>some ⟨some (.pb n (slB v) (slC v+i.toNat*te.size)),[],[],[],some (isSl v/\0<=i/\i<(slL v:Int))⟩
    | none=>none
   | _=>none
  | _=>none
 | _=>none
theorem isSl_one{v:Value}(h:isSl v):v.oneCell'=true:=by rw[h];rfl
theorem isPt_one{v:Value}(h:isPt v):v.oneCell'=true:=by rw[h];rfl
theorem rIA_sound{T:Tys}(hT:TysOk P T)(hH:HSat W0 Fr U H ρ w){t:Nat}{x ix:SV}(hx:x.bd U){e:Eff}(h:rIA T t x ix=some e)(ho:okP e.obl) :
  Done W0 Fr U H ρ nm e ((do pure (.value (<-Instr.indexAt t (x.den ρ) (ix.den ρ))):Sem Next).run P w):=by
 unfold rIA at h;split at h
 ·rename_i k i;split at h
  ·rename_i n b c;split at h
   ·rename_i len el _ _ _ hti;split at h
    ·rename_i te hte;simp only[Option.some.injEq]at h;subst h;obtain⟨d,hd,hd2⟩:=(hT t _ hti).desc;cases d <;> simp only[tkOf,TK.array.injEq,reduceCtorEq]at hd2
     obtain⟨rfl,rfl⟩:=hd2;have ho1:0<=i/\i<_:=ho;refine Done.same hH (v:=.pb n b (c+i.toNat*te.size)) hx ?_;simp[Instr.indexAt,run_underlying hd,Instr.sureAddr,SV.den,asIntOf,(hT _ te hte).run_size w,ho1,Addr.add_lit]
    ·cases h
   ·cases h
  ·rename_i n b c len cap;split at h
   ·rename_i el _ _ _ _ hti;split at h
    ·rename_i te hte;simp only[Option.some.injEq]at h;subst h;obtain⟨d,hd,hd2⟩:=(hT t _ hti).desc;cases d <;> simp only[tkOf,TK.slice.injEq,reduceCtorEq]at hd2
     subst hd2;have ho1:0<=i/\i<_:=ho;refine Done.same hH (v:=.pb n b (c+i.toNat*te.size)) hx ?_;simp[Instr.indexAt,run_underlying hd,SV.den,asIntOf,(hT _ te hte).run_size w,ho1,Addr.add_lit]
    ·cases h
   ·cases h
  ·rename_i n v;split at h
   ·rename_i el _ _ _ _ hti;split at h
    ·rename_i te hte;simp only[Option.some.injEq]at h;subst h;obtain⟨d,hd,hd2⟩:=(hT t _ hti).desc;cases d <;> simp only[tkOf,TK.slice.injEq,reduceCtorEq]at hd2
     subst hd2;obtain⟨hsl,ho1⟩:isSl v/\0<=i/\i<_:=ho;refine Done.same hH (v:=.pb n (slB v) (slC v+i.toNat*te.size)) hx ?_;simp only[SV.den,isSl_one hsl,if_true];rw[show Instr.indexAt t v (.int k i)=Instr.indexAt t (.slice (some ⟨slB v,slC v,none⟩) (slL v) (slK v)) (.int k i)from congrArg (λx=>Instr.indexAt t x (.int k i)) hsl];simp[Instr.indexAt,run_underlying hd,asIntOf,(hT _ te hte).run_size w,ho1,Addr.add_lit]
    ·cases h
   ·cases h
  ·cases h
 ·cases h
def rSlice(T:Tys)(t:Nat)(x:SV)(lo hi mx:Option SV):Option Eff :=
 match x,lo,hi,mx with
 | .pb n b c,none,none,none=>match ty T t with
  | some {tk:=.array m el, ..}=>match ty T el with
   | some _=>some ⟨some (.slb n b c m m),[],[],[],none⟩
   | none=>none
  | _=>none
 | .slb n b c len cap,some (.int _ i),none,none=>match ty T t with
  | some {tk:=.slice el, ..}=>match ty T el with
   | some te=>some ⟨some (.slb n b (c+i.toNat*te.size) (len-i.toNat) (cap-i.toNat)),[],[],[],some (0<=i/\i.toNat<=len/\i.toNat<cap)⟩
   | none=>none
  | _=>none
 | _,_,_,_=>none
theorem rSlice_sound{T:Tys}(hT:TysOk P T)(hH:HSat W0 Fr U H ρ w){t:Nat}{x:SV}(hx:x.bd U){lo hi mx:Option SV}{e:Eff}(h:rSlice T t x lo hi mx=some e)(ho:okP e.obl) :
  Done W0 Fr U H ρ nm e ((do pure (.value (<-Instr.sliceAt t (x.den ρ) (lo.map (SV.den ρ)) (hi.map (SV.den ρ)) (mx.map (SV.den ρ)))):Sem Next).run P w):=by
 unfold rSlice at h;split at h
 ·rename_i n b c;split at h
  ·rename_i m el _ _ _ _ hti;split at h
   ·rename_i te hte;simp only[Option.some.injEq]at h;subst h;obtain⟨d,hd,hd2⟩:=(hT t _ hti).desc;cases d <;> simp only[tkOf,TK.array.injEq,reduceCtorEq]at hd2
    obtain⟨hd3,hd4⟩:=hd2;subst hd3 hd4;refine Done.same hH (v:=.slb n b c _ _) hx ?_;simp[Instr.sliceAt,Sem.run_bind,run_underlying hd,Instr.sureAddr,Instr.sliceBounds,SV.den,(hT _ te hte).run_size w,Addr.add]
   ·cases h
  ·cases h
 ·rename_i n b c len cap k i;split at h
  ·rename_i el _ _ _ _ hti;split at h
   ·rename_i te hte;simp only[Option.some.injEq]at h;subst h;obtain⟨h0,h1,h2⟩:=ho;obtain⟨d,hd,hd2⟩:=(hT t _ hti).desc;cases d <;> simp only[tkOf,TK.slice.injEq,reduceCtorEq]at hd2
    subst hd2;refine Done.same hH (v:=.slb n b (c+i.toNat*te.size) (len-i.toNat) (cap-i.toNat)) hx ?_
    have hbounds:(Instr.sliceBounds true len cap (some (.int k i)) none none).run P w=.ok (i.toNat,len,cap) w:=by
     have:i<=(len:Int):=by omega
     simp[Instr.sliceBounds,Instr.sliceBound,asIntOf,h0,this]
    simp only[Instr.sliceAt,Sem.run_bind,run_underlying hd,Result.andThen_ok,Instr.slice,SV.den,Option.map_none,Option.map_some,hbounds,(hT _ te hte).run_size w,Sem.run_pure];rw[if_neg (by omega)];simp[Addr.add_lit]
   ·cases h
  ·cases h
 ·cases h
def rNil(x:SV):Option Eff :=
 match x with
 | .pb n b c=>some ⟨some (.pb n b c),[],[],[],none⟩
 | .dv n v=>some ⟨some (.pb n (ptB v) (ptC v)),[],[],[],some (isPt v)⟩
 | _=>none
theorem rNil_sound(hH:HSat W0 Fr U H ρ w){x:SV}(hx:x.bd U){e:Eff}(h:rNil x=some e)(ho:okP e.obl){ev:Operand->Value}{o:Oper}{y:Operand}(hop:o.op=.nilCheck y)(hy:ev y=x.den ρ) :
  Done W0 Fr U H ρ nm e ((execOp ev o).run P w):=by
 obtain⟨dst,op,ty',pos,after,guard⟩:=o;simp only at hop;subst hop;unfold rNil at h;split at h
 ·rename_i n b c;simp only[Option.some.injEq]at h;subst h;refine Done.same hH (v:=.pb n b c) hx ?_;simp[execOp,hy,SV.den]
 ·rename_i n v;simp only[Option.some.injEq]at h;subst h;have ho:isPt v:=ho;refine Done.same hH (v:=.pb n (ptB v) (ptC v)) hx ?_;have:(SV.dv n v).den ρ=.pointer (some ⟨ptB v,ptC v,none⟩):=by simp only[SV.den,isPt_one ho,if_true];exact ho
  simp only[execOp,hy,this];simp[SV.den]
 ·cases h
def rAssert(T:Tys)(x:SV)(asserted:Nat)(ok:Bool):Option Eff :=
 match x,ok with
 | .dv n v,false=>match ty T asserted with
  | some {tk:=.ptr _, ..}=>some ⟨some (.pb n (ptB (ifcV v)) (ptC (ifcV v))),[],[],[],some (isIf asserted v/\isPt (ifcV v))⟩
  | some {tk:=.int k, ..}=>some ⟨some (.int k (intV (ifcV v))),[],[],[],some (isIf asserted v/\isInt k (ifcV v))⟩
  | _=>none
 | _,_=>none
theorem rAssert_sound{T:Tys}(hT:TysOk P T)(hH:HSat W0 Fr U H ρ w){xt asserted:Nat}{x:SV}(hx:x.bd U){ok:Bool}{e:Eff}(h:rAssert T x asserted ok=some e)(ho:okP e.obl) :
  Done W0 Fr U H ρ nm e ((do pure (.value (<-Instr.typeAssert (x.den ρ) xt asserted ok)):Sem Next).run P w):=by
 unfold rAssert at h;split at h
 ·rename_i n v;have one:isIf asserted v->(SV.dv n v).den ρ=v:=λh=>by simp only[SV.den];rw[if_pos (by rw[h];rfl)]
  split at h
  ·rename_i el _ _ _ _ hti;simp only[Option.some.injEq]at h;subst h;obtain⟨h1,h2⟩:isIf asserted v/\isPt (ifcV v):=ho;obtain⟨d,hd,hd2⟩:=(hT asserted _ hti).desc;cases d <;> simp only[tkOf,TK.ptr.injEq,reduceCtorEq]at hd2
   refine Done.same hH (v:=.pb n (ptB (ifcV v)) (ptC (ifcV v))) hx ?_;rw[one h1,show Instr.typeAssert v xt asserted false=Instr.typeAssert (.iface asserted (ifcV v)) xt asserted false from congrArg (λx=>Instr.typeAssert x xt asserted false) h1];simp only[Instr.typeAssert,Sem.run_bind,run_underlying hd,Result.andThen_ok,Sem.run_pure];simp[SV.den];exact h2
  ·rename_i k _ _ _ _ hti;simp only[Option.some.injEq]at h;subst h;obtain⟨h1,h2⟩:isIf asserted v/\isInt k (ifcV v):=ho;obtain⟨d,hd,hd2⟩:=(hT asserted _ hti).desc;cases d <;> simp only[tkOf,TK.int.injEq,reduceCtorEq]at hd2
   refine Done.same hH (v:=.int k (intV (ifcV v))) trivial ?_;rw[one h1,show Instr.typeAssert v xt asserted false=Instr.typeAssert (.iface asserted (ifcV v)) xt asserted false from congrArg (λx=>Instr.typeAssert x xt asserted false) h1];simp only[Instr.typeAssert,Sem.run_bind,run_underlying hd,Result.andThen_ok,Sem.run_pure];simp[SV.den];exact h2
  ·cases h
 ·cases h
def rEq(T:Tys)(op:BinOp)(t:Nat)(x y:SV):Option Eff :=
 match x,y with
 | .dv _ v, .nili=>match ty T t with
  | some {tk:=.iface, ..}=>match eqTo op (nilV v)with
   | some (r,_)=>some ⟨some r,[],[],[],some (isIfN v)⟩
   | none=>none
  | _=>none
 | .dv _ v, .nilp=>match ty T t with
  | some {tk:=.ptr _, ..}=>match eqTo op (nilV v)with
   | some (r,_)=>some ⟨some r,[],[],[],some (isPtN v)⟩
   | none=>none
  | _=>none
 | .pb _ _ _, .nilp=>match ty T t with
  | some {tk:=.ptr _, ..}=>match eqLit op false with
   | some (r,_)=>some ⟨some r,[],[],[],none⟩
   | none=>none
  | _=>none
 | .slb _ _ _ _ _, .nils=>match ty T t with
  | some {tk:=.slice _, ..}=>match eqLit op false with
   | some (r,_)=>some ⟨some r,[],[],[],none⟩
   | none=>none
  | _=>none
 | _,_=>none
theorem rEq_sound{T:Tys}(hT:TysOk P T)(hH:HSat W0 Fr U H ρ w){op:BinOp}{t:Nat}{xo yo:Operand}{x y:SV}{e:Eff}(h:rEq T op t x y=some e)(ho:okP e.obl)(hyo:isConst yo=true) :
  Done W0 Fr U H ρ nm e ((((do eqGuard op t xo yo (x.den ρ) (y.den ρ);binOp op t (x.den ρ) (y.den ρ)):Sem Value) >>= λv=>(pure (.value v):Sem Next)).run P w):=by
 unfold rEq at h;split at h
 ·rename_i n v;split at h
  ·rename_i _ _ _ _ hti;obtain⟨d,hd,hk⟩:=(hT t _ hti).desc;cases d <;> simp only[tkOf,reduceCtorEq]at hk
   split at h
   ·rename_i r o' hr;simp only[Option.some.injEq]at h;subst h;have ho:isIfN v:=ho
    have hden:(SV.dv n v).den ρ=v:=by
     simp only[SV.den];rcases ho with rfl|⟨u,z,rfl⟩ <;> simp[Value.oneCell']
    rw[hden];rcases ho with rfl|⟨u,z,rfl⟩
    ·have hg:(eqGuard op t xo yo .nilIface .nilIface).run P w=.ok () w:=by
      cases yo <;> simp[isConst]at hyo
      cases xo <;> cases op <;> simp[eqGuard]
     obtain⟨h1,h2⟩:=eqTo_sound (P:=P) w ρ hr (t:=t) (x:=.nilIface) (y:=.nilIface) (by simp) (by simp) (by simp) (by simp) (run_equal_nil_nil w hd);refine Done.same hH (SV.bd_closed U _ h2) ?_;simp only[SV.den,Sem.run_bind,hg,Result.andThen_ok,h1,Sem.run_pure]
    ·have hg:(eqGuard op t xo yo (.iface u z) .nilIface).run P w=.ok () w:=by rw[eqGuard_at_iface];rfl
     obtain⟨h1,h2⟩:=eqTo_sound (P:=P) w ρ hr (t:=t) (x:=.iface u z) (y:=.nilIface) (by simp) (by simp) (by simp) (by simp) (run_equal_iface_nil w hd u z);refine Done.same hH (SV.bd_closed U _ h2) ?_;simp only[SV.den,Sem.run_bind,hg,Result.andThen_ok,h1,Sem.run_pure]
   ·cases h
  ·cases h
 ·rename_i n v;split at h
  ·rename_i el _ _ _ _ hti;obtain⟨d,hd,hk⟩:=(hT t _ hti).desc;cases d <;> simp only[tkOf,TK.ptr.injEq,reduceCtorEq]at hk
   split at h
   ·rename_i r o' hr;simp only[Option.some.injEq]at h;subst h;have ho:isPtN v:=ho
    have hden:(SV.dv n v).den ρ=v:=by
     simp only[SV.den];rcases ho with rfl|⟨u,rfl⟩ <;> simp[Value.oneCell']
    rw[hden]
    have hg:(eqGuard op t xo yo v (SV.nilp.den ρ)).run P w=.ok () w:=by
     rcases ho with rfl|⟨u,rfl⟩ <;> simp only[SV.den] <;> rw[eqGuard_at_pointer] <;> rfl
    have he:(Op.equal t v (SV.nilp.den ρ)).run P w=.ok (nilV v) w:=by
     rcases ho with rfl|⟨u,rfl⟩ <;> simp only[SV.den,nilV] <;> rw[equal_succ] <;> unfold Op.equalIn <;> simp[Sem.run_bind,run_underlying hd,Result.andThen_ok,Sem.run_pure]
    obtain⟨h1,h2⟩:=eqTo_sound (P:=P) w ρ hr (t:=t) (x:=v) (y:=SV.nilp.den ρ) (by rcases ho with rfl|⟨u,rfl⟩ <;> simp) (by rcases ho with rfl|⟨u,rfl⟩ <;> simp) (by rcases ho with rfl|⟨u,rfl⟩ <;> simp) (by rcases ho with rfl|⟨u,rfl⟩ <;> simp) he;refine Done.same hH (SV.bd_closed U _ h2) ?_;simp only[Sem.run_bind,hg,Result.andThen_ok,h1,Sem.run_pure]
   ·cases h
  ·cases h
 ·rename_i n b c;split at h
  ·rename_i el _ _ _ _ hti;obtain⟨d,hd,hk⟩:=(hT t _ hti).desc;cases d <;> simp only[tkOf,TK.ptr.injEq,reduceCtorEq]at hk
   split at h
   ·rename_i r o' hr;simp only[Option.some.injEq]at h;subst h;have hg:(eqGuard op t xo yo ((SV.pb n b c).den ρ) (SV.nilp.den ρ)).run P w=.ok () w:=by simp only[SV.den];rw[eqGuard_at_pointer];rfl
    obtain⟨h1,h2⟩:=eqLit_sound (P:=P) w ρ hr (t:=t) (x:=(SV.pb n b c).den ρ) (y:=SV.nilp.den ρ) (by simp[SV.den]) (by simp[SV.den]) (by simp[SV.den]) (by simp[SV.den]) (by
     simp only[SV.den];rw[equal_succ];unfold Op.equalIn
     simp only[Sem.run_bind,run_underlying hd,Result.andThen_ok,Sem.run_pure])
    refine Done.same hH (SV.bd_closed U _ h2) ?_;simp only[Sem.run_bind,hg,Result.andThen_ok,h1,Sem.run_pure]
   ·cases h
  ·cases h
 ·rename_i n b c sl sk;split at h
  ·rename_i el _ _ _ _ hti;obtain⟨d,hd,hk⟩:=(hT t _ hti).desc;cases d <;> simp only[tkOf,TK.slice.injEq,reduceCtorEq]at hk
   split at h
   ·rename_i r o' hr;simp only[Option.some.injEq]at h;subst h;have hg:(eqGuard op t xo yo ((SV.slb n b c sl sk).den ρ) (SV.nils.den ρ)).run P w=.ok () w:=by simp only[SV.den];rw[eqGuard_at_slice];rfl
    obtain⟨h1,h2⟩:=eqLit_sound (P:=P) w ρ hr (t:=t) (x:=(SV.slb n b c sl sk).den ρ) (y:=SV.nils.den ρ) (by simp[SV.den]) (by simp[SV.den]) (by simp[SV.den]) (by simp[SV.den]) (by
     simp only[SV.den];rw[equal_succ];unfold Op.equalIn
     simp only[Sem.run_bind,run_underlying hd,Result.andThen_ok,Sem.run_pure])
    refine Done.same hH (SV.bd_closed U _ h2) ?_;simp only[Sem.run_bind,hg,Result.andThen_ok,h1,Sem.run_pure]
   ·cases h
  ·cases h
 ·cases h
def rLen(T:Tys)(t:Nat)(x:SV):Option Eff :=
 match ty T t with
 | some {tk:=.slice _, ..}=>match x with
  | .slb _ _ _ len _=>some ⟨some (.int .i64 (len:Nat)),[],[],[],none⟩
  | .dv _ v=>some ⟨some (.int .i64 (slL v:Nat)),[],[],[],some (isSlN v)⟩
  | _=>none
 | _=>none
theorem rLen_sound{T:Tys}(hT:TysOk P T)(hH:HSat W0 Fr U H ρ w){t:Nat}{x:SV}{e:Eff}(h:rLen T t x=some e)(ho:okP e.obl)(ty':Nat)(cs:Array Bool) :
  Done W0 Fr U H ρ nm e ((builtin .len #[t] ty' cs #[x.den ρ]).run P w):=by
 unfold rLen at h;split at h
 ·rename_i hti;obtain⟨d,hd,hd2⟩:=(hT t _ hti).desc;cases d <;> simp only[tkOf,TK.slice.injEq,reduceCtorEq]at hd2
  split at h
  ·simp only[Option.some.injEq]at h;subst h;refine Done.same hH (v:=.int .i64 _) trivial ?_;simp[builtin,Builtin.len_,run_underlying hd,SV.den,goInt]
  ·rename_i n v;simp only[Option.some.injEq]at h;subst h;have ho:isSlN v:=ho;refine Done.same hH (v:=.int .i64 _) trivial ?_;rcases ho with rfl|ho
   ·simp[builtin,Builtin.len_,run_underlying hd,SV.den,goInt,Value.oneCell',slL]
   ·have:(SV.dv n v).den ρ=.slice (some ⟨slB v,slC v,none⟩) (slL v) (slK v):=by simp only[SV.den,isSl_one ho,if_true];exact ho
    rw[this];simp[builtin,Builtin.len_,run_underlying hd,SV.den,goInt]
  ·cases h
 ·cases h
end
end Go.Sx

namespace Go.Sx
open Go.RowKit
def updZ(g:Nat->Int):Nat->List Int->Nat->Int
 | _,[]=>g
 | i,x :: r=>updZ (upd g i x) (i+1) r
theorem updZ_lo:∀(xs:List Int)(g:Nat->Int)(i j:Nat),j<i->updZ g i xs j=g j
 | [],_,_,_,_=>rfl
 | x :: r,g,i,j,h=>by
  rw[updZ,updZ_lo r _ (i+1) j (by omega)];simp[upd];omega
theorem updZ_at:∀(xs:List Int)(g:Nat->Int)(i j:Nat)(x:Int),xs[j]? = some x->updZ g i xs (i+j)=x
 | [],_,_,_,_,h=>by simp at h
 | y :: r,g,i,0,x,h=>by
  simp only[List.getElem?_cons_zero,Option.some.injEq]at h;rw[updZ,updZ_lo r _ (i+1) _ (by omega)];simp[upd,h]
 | y :: r,g,i,j+1,x,h=>by
  simp only[List.getElem?_cons_succ]at h;rw[updZ,show i+(j+1)=i+1+j by omega];exact updZ_at r _ (i+1) j x h
theorem kEq_refl'(k:IntKind):kEq k k=true:=by cases k <;> rfl
theorem setN_ints(k:IntKind)(n:Nat):∀(xs:List Int)(i:Nat)(g:Nat->Int),(Cont.ints k n g).setN i (xs.map (SV.int k))=some (.ints k n (updZ g i xs))
 | [],_,_=>rfl
 | x :: r,i,g=>by
  simp only[List.map_cons,Cont.setN,Cont.set,kEq_refl'];exact setN_ints k n r (i+1) _
def rCopy(T:Tys)(rd:Nm->Option Ob)(t:Nat)(d s:SV):Option Eff :=
 match ty T t with
 | some {tk:=.slice e, ..}=>match ty T e with
  | some te=>match d,s with
   | .slcc dn dl, .slb sn b c sl _=>match rd dn with
    | some ⟨true,el, .ints k n _,es⟩=>match rd sn with
     | some ⟨true,_, .raw _ D sz F,_⟩=>some ⟨some (.int .i64 dl),[(dn,⟨true,el, .ints k n (λj=>intV (F b (c+j))),es⟩)],[],[dn,sn],
       some (sl=dl/\n=dl*te.size/\0<n/\D b/\c+n<=sz b/\∀ j,j<n->isInt k (F b (c+j)))⟩
     | _=>none
    | _=>none
   | _,_=>none
  | none=>none
 | _=>none
section
variable {P:Program} {W0:World} {Fr:Nat->Prop} {U:Nm->Prop} {H:Heap} {ρ:Rho} {w:World} {nm:Nm}
theorem rCopy_sound{T:Tys}(hT:TysOk P T)(hH:HSat W0 Fr U H ρ w){t:Nat}{d s:SV}{e:Eff}(h:rCopy T (look H) t d s=some e)(ho:okP e.obl)(ty':Nat) :
  Done W0 Fr U H ρ nm e ((do pure (.value (<-Builtin.copy_ #[t,t] ty' #[d.den ρ,s.den ρ])):Sem Next).run P w):=by
 unfold rCopy at h;split at h
 case h_2=>cases h
 rename_i el _ _ _ _ hti;split at h
 case h_2=>cases h
 rename_i te hte;split at h
 case h_2=>cases h
 rename_i dn dl sn b c sl cap;split at h
 case h_2=>cases h
 rename_i el' k n g es hdn;split at h
 case h_2=>cases h
 rename_i el2 ts D sz F es2 hsn;simp only[Option.some.injEq]at h;subst h;obtain⟨rfl,hn1,h0,hD,hfit,hint⟩:=ho;obtain⟨dd,hd,hd2⟩:=(hT t _ hti).desc;cases dd <;> simp only[tkOf,TK.slice.injEq,reduceCtorEq]at hd2
 subst hd2;rename_i el0;have hs:(sizeOf el0).run P w=.ok te.size w:=(hT el0 _ hte).run_size w;have hon:=hH.obj dn _ hdn
 let g':Nat->Int:=λj=>intV (F b (c+j))
 have hlist:(List.range n).map (λj=>SV.int k (g' j))=((List.range n).map g').map (SV.int k):=by simp
 obtain⟨b1,off,cp,hρ,_⟩:=hH.cell hdn (i:=0) h0;rw[hρ]at hon;obtain⟨rfl,_⟩:=hon.2.1 rfl;have hcp1:=hon.2.2 h0
 have hld:(loadCells ⟨b,c,none⟩ (sl*te.size)).run P w=.ok (denL ρ ((List.range n).map λj=>SV.int k (g' j))).toArray w:=by
  have:=run_loadCells (P:=P) (w:=w) (b:=b) (o:=c) (denL ρ ((List.range n).map λj=>SV.int k (g' j))) (λj v hv=>by
   simp only[denL_eq,List.getElem?_map,Option.map_eq_some_iff]at hv;obtain⟨x,⟨y,hy,rfl⟩,rfl⟩:=hv;have hjn:j<n:=by simpa using (List.getElem?_eq_some_iff.1 hy).1
   have hy':y=j:=by simpa [hjn]using hy.symm
   subst hy';obtain⟨h1,_,_⟩:=hH.rawCell hsn rfl rfl hD (c:=c+y) (by omega);rw[h1]
   exact congrArg some (hint y hjn))
  rw[<-this];simp[denL_eq,hn1]
 obtain⟨w',hrun,hH'⟩:=run_storeCells (P:=P) ((List.range n).map λj=>SV.int k (g' j)) hH hdn rfl hρ 0 0 (by rw[bdL_iff];intro v hv;simp only[List.mem_map]at hv;obtain⟨_,_,rfl⟩:=hv;trivial)
  (c':=.ints k n (updZ g 0 ((List.range n).map g'))) (by rw[hlist];exact setN_ints k n _ _ g) (by simp[Cont.inb])
 refine⟨ρ,w',λ_ _=>rfl,?_,trivial,?_⟩
 ·have hR:=hH'.recont (n:=dn) (o:=⟨true,el', .ints k n (updZ g 0 ((List.range n).map g')),es⟩) (by simp[look_cons]) (c':=.ints k n g') rfl rfl (λj hj=>by
   have hjn:j<n:=hj;simp only[Cont.at];have:=updZ_at ((List.range n).map g') g 0 j (g' j) (by simp[hjn]);rw[Nat.zero_add]at this
   rw[this])
  exact(hR.lookEq λm=>by
   simp only[List.nil_append,List.cons_append,look_cons]
   split <;> rfl).mono UU_of
 ·rw[Sem.run_bind]
  have:(Builtin.copy_ #[t,t] ty' #[(SV.slcc dn sl).den ρ,(SV.slb sn b c sl cap).den ρ]).run P w=.ok (goInt sl) w':=by
   simp[Builtin.copy_,SV.den,Rho.addrC,Rho.cap,hρ,Rho.sp_le hcp1,run_underlying hd,Builtin.lenOf,Builtin.firstCells,hs,hld,hrun]
  rw[this];rfl
theorem rCopy_loc{T:Tys}{rd rd':Nm->Option Ob}{t:Nat}{d s:SV}{e:Eff}(h:rCopy T rd t d s=some e)(hr:∀ n∈e.rds,rd' n=rd n):rCopy T rd' t d s=some e:=by
 unfold rCopy at h ⊢;split at h
 case h_2=>cases h
 rename_i el _ _ _ _ hti;split at h
 case h_2=>cases h
 rename_i te hte;split at h
 case h_2=>cases h
 rename_i dn dl sn b c sl cap
 have key:rd' dn=rd dn/\rd' sn=rd sn:=by
  split at h
  case h_2=>cases h
  split at h
  case h_2=>cases h
  simp only[Option.some.injEq]at h;subst h;exact⟨hr _ (by simp),hr _ (by simp)⟩
 simp only[key.1,key.2];exact h
end
end Go.Sx

namespace Go.Sx
open Go.RowKit
structure St where
 nt:Nat
 sl:Slots
 H:Heap
 N:Nat
structure Sat (W0:World) (Fr:Nat->Prop) (S:St) (ρ:Rho) (a:Act) (w:World):Prop where
 h:HSat W0 Fr (·< S.N) S.H ρ w
 s:SSat (·< S.N) S.nt S.sl ρ a
abbrev Con:=List SV->(Nm->Option Ob)->Nm->Option Eff
def FOk (P:Program) (f:Nat):Prop:=∃ fn,P.funcs[f]? = some fn/\(fn.name == "runtime.NumGoroutine")=false/\fn.body.isNone=false
def CallsV(P:Program)(f:Nat)(args:Array Value)(w:World)(R:Ending->World->Prop):Prop :=
 (FOk P f/\Calls P f args w R)∨∃ v w',(callFunc f args).run P w=.ok (.value v) w'/\R (.returned v) w'
theorem CallsV.mono{P:Program}{f:Nat}{args:Array Value}{w:World}{R R':Ending->World->Prop}(h:CallsV P f args w R)(hr:∀ e w',R e w'->R' e w'):CallsV P f args w R':=by
 rcases h with⟨h1,h2⟩|⟨v,w',h1,h2⟩
 ·exact .inl ⟨h1,h2.mono hr⟩
 ·exact .inr ⟨v,w',h1,hr _ _ h2⟩
structure ConOk (P:Program) (f:Nat) (c:Con):Prop where
 calls:∀ {W0:World} {Fr:Nat->Prop} {U:Nm->Prop} {H:Heap} {ρ:Rho} {w:World} {nm:Nm} {args:List SV} {e:Eff},
  HSat W0 Fr U H ρ w->bdL U args->(∀ j,j<12->¬U (nm+j))->c args (look H) nm=some e->okP e.obl->
  CallsV P f (denL ρ args).toArray w λen w'=>∃ ρ',(∀ n,U n->ρ' n=ρ n)/\HSat W0 Fr (UU U nm) (e.wr++(e.news++H)) ρ' w'/\
   ∃ v,e.val=some v/\v.bd (UU U nm)/\en=.returned (v.den ρ')
 loc:∀ {args:List SV} {rd rd':Nm->Option Ob} {nm:Nm} {e:Eff},c args rd nm=some e->(∀ n∈e.rds,rd' n=rd n)->c args rd' nm=some e
abbrev Gam:=List (Nat×Con)
def con:Gam->Nat->Option Con
 | [],_=>none
 | (m,v) :: r,n=>match Nat.beq m n with
  | true=>some v
  | false=>con r n
def GamOk(P:Program)(Γ:Gam):Prop:=∀ f c,con Γ f=some c->ConOk P f c
theorem GamOk.nil{P:Program}:GamOk P []:=λ_ _ h=>by simp[con]at h
theorem GamOk.cons{P:Program}{f:Nat}{c:Con}{Γ:Gam}(h1:ConOk P f c)(h2:GamOk P Γ):GamOk P ((f,c) :: Γ):=λu ui h=>by
 simp only[con]at h;cases hb:Nat.beq f u
 ·rw[hb]at h;exact h2 u ui h
 ·rw[hb]at h;have:f=u:=Nat.eq_of_beq_eq_true hb;subst this;simp only[Option.some.injEq]at h;subst h;exact h1
abbrev PF:=List SV->Option (SV×Option Prop)
def pureCon(F:PF):Con:=λargs _ _=>match F args with
 | some (v,p)=>some (Eff.pureO v p)
 | none=>none
def PureOk(P:Program)(f:Nat)(F:PF):Prop :=
 ∀ args v p,F args=some (v,p)->okP p->v.closed=true/\∀(ρ:Rho)(w:World),CallsV P f (denL ρ args).toArray w λe w'=>e=.returned (v.den ρ)/\Below w.heap.size w w'
theorem ConOk.pure{P:Program}{f:Nat}{F:PF}(h:PureOk P f F):ConOk P f (pureCon F) where
 calls:=by
  intro W0 Fr U H ρ w nm args e hH hb hn hc ho;unfold pureCon at hc;split at hc
  ·rename_i v p hv;simp only[Option.some.injEq]at hc;subst hc;obtain⟨h1,h2⟩:=h args v p hv ho;refine(h2 ρ w).mono ?_;rintro en w' ⟨rfl,hb'⟩;exact⟨ρ,λ_ _=>rfl,(hH.below hb').mono UU_of,v,rfl,SV.bd_closed _ v h1,rfl⟩
  ·cases hc
 loc:=λh _=>h
structure Ctx where
 E:Env
 Γ:Gam
structure CtxOk (P:Program) (G:Ctx):Prop where
 E:EnvOk P G.E
 Γ:GamOk P G.Γ
 mix:P.follows .mixedOrders=true
def recvOf(rd:Nm->Option Ob)(m:Mth)(v:SV):Option (SV×List Nm) :=
 match m.off with
 | none=>some (v,[])
 | some o=>match v with
  | .ptr n i=>match rd n with
   | some ⟨_,_, .cells (_ :: _),_⟩=>some (.ptr n (i+o),[n])
   | _=>none
  | _=>none
def evInv(T:Tys)(Γ:Gam)(rd:Nm->Option Ob)(nm:Nm)(name:String)(x:SV)(vs:List SV):Option Eff :=
 match x with
 | .ifc t v=>match ty T t with
  | some ti=>match mfind ti.ms name with
   | some m=>match recvOf rd m v with
    | some (v',rs)=>match con Γ m.f with
     | some k=>match k (v' :: vs) rd nm with
      | some e=>some ⟨e.val,e.wr,e.news,rs++e.rds,e.obl⟩
      | none=>none
     | none=>none
    | none=>none
   | none=>none
  | none=>none
 | _=>none
def evCallF(T:Tys)(Γ:Gam)(ev:Operand->Option SV)(rd:Nm->Option Ob)(nm:Nm)(c:Call):Option Eff :=
 match c.callee with
 | .invoke x name=>match ev x with
  | some v=>match evL ev c.args.toList with
   | some vs=>evInv T Γ rd nm name v vs
   | none=>none
  | none=>none
 | .value x=>match ev x with
  | some (.fn (.func f) first captured)=>match evL ev c.args.toList with
   | some vs=>match con Γ f with
    | some k=>k (first++(vs++captured)) rd nm
    | none=>none
   | none=>none
  | _=>none
 | _=>none
def evAny(G:Ctx)(ev:Operand->Option SV)(rd:Nm->Option Ob)(nm:Nm)(o:Op):Option Eff :=
 match o with
 | .call c=>match c.callee with
  | .builtin _=>evCallB G.E ev rd nm c
  | _=>evCallF G.E.T G.Γ ev rd nm c
 | o=>evOp G.E ev rd nm o
theorem denL_append(ρ:Rho):∀ a b:List SV,denL ρ (a++b)=denL ρ a++denL ρ b
 | [],_=>rfl
 | x :: r,b=>by simp[denL,denL_append ρ r b]
theorem bdL_append{U:Nm->Prop}{a b:List SV}(h:bdL U a)(h':bdL U b):bdL U (a++b):=by
 rw[bdL_iff]at *;intro v hv;rcases List.mem_append.1 hv with hv|hv
 ·exact h v hv
 ·exact h' v hv
section
variable {P:Program} {W0:World} {Fr:Nat->Prop} {U:Nm->Prop} {H:Heap} {ρ:Rho} {w:World} {nm:Nm}
theorem evAny_sound{G : Ctx}(hG : CtxOk P G)(hH : HSat W0 Fr U H ρ w)(hn : ∀ j, j < 12 -> ¬ U (nm + j)){ev : Operand -> Option SV}{a : Act}(hev : ∀ x v, ev x = some v -> a.eval x = v.den ρ /\ v.bd U)
   (hc : ∀ c v, ev (.const c) = some v -> c = v.den ρ) {o : Oper} {e : Eff} (h : evAny G ev (look H) nm o.op = some e) (ho : okP e.obl)
   {next : Act -> World -> Prop} {Q : Exit -> Act -> World -> Prop}
   (hk : ∀ ρ' w', (∀ n, U n -> ρ' n = ρ n) -> HSat W0 Fr (UU U nm) (e.wr ++ (e.news ++ H)) ρ' w' ->
     (match e.val with
      | some v => v.bd (UU U nm) -> next (a.put o.dst (v.den ρ')) w'
      | none => next (a.put o.dst undef) w')) : o.wp P a w next Q := by
 have plain : Done W0 Fr U H ρ nm e ((execOp a.eval o).run P w) -> o.wp P a w next Q := by
   rintro ⟨ρ', w', h1, h2, h3⟩;have h4 := hk ρ' w' h1 h2;unfold Oper.wp;split at h3
   · rename_i v hv
     obtain ⟨h5, h6⟩ := h3;rw [h6];simp only [hv] at h4;exact h4 h5
   · rename_i hv
     rw [h3];simp only [hv] at h4;exact h4
 by_cases hcall : ∃ c, o.op = .call c
 · obtain ⟨c, hoc⟩ := hcall
   rw [hoc] at h;simp only [evAny] at h;split at h
   · rename_i b hb
     refine plain (evOp_sound hG.E hH (by simpa using hn 0 (by decide)) hev hc (e := e) ?_ ho);rw [hoc];exact h
   · unfold evCallF at h
     split at h
     · rename_i x name hx
       split at h
       · rename_i v hv
         split at h
         · rename_i vs hvs
           unfold evInv at h;split at h
           · rename_i t u
             split at h
             · rename_i ti hti
               split at h
               · rename_i m hm
                 split at h
                 · rename_i v' rs hrecv
                   split at h
                   · rename_i k hk'
                     split at h
                     · rename_i e' he'
                       simp only [Option.some.injEq] at h;subst h;obtain ⟨h1, h2⟩ := hev _ _ hv;obtain ⟨h3, h4⟩ := evL_sound hev hvs;obtain ⟨hmem, hname⟩ := mfind_mem hm;have hmok := (hG.E.T t ti hti).ms m hmem
                       have hrv : v'.bd U /\ (method (P.types.size + Made.depth) t (u.den ρ) name).run P w = .ok (m.f, v'.den ρ) w := by
                         unfold recvOf at hrecv;unfold MOk at hmok;split at hrecv
                         · rename_i hoff
                           simp only [Option.some.injEq, Prod.mk.injEq] at hrecv;obtain ⟨rfl, rfl⟩ := hrecv;rw [hoff, hname] at hmok;exact ⟨h2, hmok.1 _ _⟩
                         · rename_i o hoff
                           rw [hoff, hname] at hmok;split at hrecv
                           · rename_i n i
                             split at hrecv
                             · rename_i rw' el y l es hob
                               simp only [Option.some.injEq, Prod.mk.injEq] at hrecv;obtain ⟨rfl, rfl⟩ := hrecv;obtain ⟨b, off, cp, hρ⟩ := hH.there hob trivial;have e1 : (SV.ptr n i).den ρ = .pointer (some ⟨b, off + i, none⟩) := by simp [SV.den, Rho.addr, hρ]
                               have e2 : (SV.ptr n (i + o)).den ρ = .pointer (some ((⟨b, off + i, none⟩ : Addr).add o)) := by simp [SV.den, Rho.addr, hρ, Addr.add_lit, Nat.add_assoc]
                               rw [e1, e2];exact ⟨h2, hmok _ _⟩
                             · cases hrecv
                           · cases hrecv
                       have hok := hG.Γ m.f k hk';have hcalls := hok.calls hH (show bdL U (v' :: vs) from ⟨hrv.1, h4⟩) hn he' ho
                       have hrun : (execOp a.eval o).run P w = (callFunc m.f (denL ρ (v' :: vs)).toArray).run P w := by
                         have e1 : c.args.map a.eval = (denL ρ vs).toArray := by rw [<- h3]; apply Array.ext'; simp
                         have e2 : ((#[Value.iface t (u.den ρ)] ++ (denL ρ vs).toArray)[0]? : Option Value) = some (Value.iface t (u.den ρ)) := by simp
                         have e3 : (#[Value.iface t (u.den ρ)] ++ (denL ρ vs).toArray).extract 1 (#[Value.iface t (u.den ρ)] ++ (denL ρ vs).toArray).size = (denL ρ vs).toArray := by
                           apply Array.ext'; simp
                         simp only [execOp, hoc, resolve, hx, h1, e1, SV.den, Sem.run_bind, Sem.run_pure, Result.andThen_ok, invoke, e2, callMethod, run_program, hrv.2];rw [e3];congr 2;simp [denL]
                       unfold Oper.wp;rw [hrun];rcases hcalls with ⟨⟨fn, hfn, hname', hbody⟩, hcalls⟩ | ⟨v, w', hv, ρ', h5, h6, v', h7, h8, h10⟩
                       · have hcf : (callFunc m.f (denL ρ (v' :: vs)).toArray).run P w = .ok (.enter m.f (denL ρ (v' :: vs)).toArray) w := by
                           simp only [callFunc, Sem.run_bind, run_program, Result.andThen_ok, hfn, hname', hbody, Bool.false_eq_true, if_false, Sem.run_pure]
                         rw [hcf];show Calls P m.f _ w _;refine hcalls.mono ?_;rintro en w' ⟨ρ', h5, h6, v, h7, h8, rfl⟩;have h9 := hk ρ' w' h5 h6;simp only [h7] at h9;exact h9 h8
                       · rw [hv]
                         have h9 := hk ρ' w' h5 h6;simp only [h7] at h9;injection h10 with h10
                         rw [h10];exact h9 h8
                     · cases h
                   · cases h
                 · cases h
               · cases h
             · cases h
           · cases h
         · cases h
       · cases h
     · rename_i x hx
       split at h
       · rename_i f first captured hf
         split at h
         · rename_i vs hvs
           split at h
           · rename_i k hk'
             obtain ⟨h1, h2⟩ := hev _ _ hf;obtain ⟨h3, h4⟩ := evL_sound hev hvs;simp only [SV.bd] at h2;have hok := hG.Γ f k hk';have hcalls := hok.calls hH (bdL_append h2.1 (bdL_append h4 h2.2)) hn h ho
             have hrun : (execOp a.eval o).run P w = (callFunc f (denL ρ (first ++ (vs ++ captured))).toArray).run P w := by
               have e1 : c.args.map a.eval = (denL ρ vs).toArray := by rw [<- h3]; apply Array.ext'; simp
               simp only [execOp, hoc, resolve, hx, h1, e1, SV.den, Deferred.ofValue, Sem.run_bind, Sem.run_pure, Result.andThen_ok, invoke];congr 2;rw [denL_append, denL_append];simp
             unfold Oper.wp;rw [hrun];rcases hcalls with ⟨⟨fn, hfn, hname, hbody⟩, hcalls⟩ | ⟨v, w', hv, ρ', h5, h6, v', h7, h8, h10⟩
             · have hcf : (callFunc f (denL ρ (first ++ (vs ++ captured))).toArray).run P w = .ok (.enter f (denL ρ (first ++ (vs ++ captured))).toArray) w := by
                 simp only [callFunc, Sem.run_bind, run_program, Result.andThen_ok, hfn, hname, hbody, Bool.false_eq_true, if_false, Sem.run_pure]
               rw [hcf];show Calls P f _ w _;refine hcalls.mono ?_;rintro en w' ⟨ρ', h5, h6, v, h7, h8, rfl⟩;have h9 := hk ρ' w' h5 h6;simp only [h7] at h9;exact h9 h8
             · rw [hv]
               have h9 := hk ρ' w' h5 h6;simp only [h7] at h9;injection h10 with h10
               rw [h10];exact h9 h8
           · cases h
         · cases h
       · cases h
     · cases h
 · have hop : evOp G.E ev (look H) nm o.op = some e := by
     unfold evAny at h;split at h
     · rename_i c hoc
       exact absurd ⟨c, hoc⟩ hcall
     · exact h
   exact plain (evOp_sound hG.E hH (by simpa using hn 0 (by decide)) hev hc hop ho)
end
end Go.Sx

namespace Go.Sx
open Go.RowKit
section
variable {G:Ctx} {E:Env} {ev ev':Operand->Option SV} {rd rd':Nm->Option Ob} {nm:Nm} {e:Eff}
theorem evL_congr:∀ {xs:List Operand},(∀ x∈xs,ev' x=ev x)->evL ev' xs=evL ev xs
 | [],_=>rfl
 | x :: r,h=>by
  simp only[evL,h x (by simp),evL_congr (xs:=r) λy hy=>h y (by simp[hy])]
theorem evParts_congr:∀ {xs:List (Nat×Operand)},(∀ p∈xs,ev' p.2=ev p.2)->evParts ev' xs=evParts ev xs
 | [],_=>rfl
 | (i,x) :: r,h=>by
  have h1:ev' x=ev x:=h (i,x) (by simp);simp only[evParts,h1,evParts_congr (xs:=r) λy hy=>h y (by simp[hy])]
theorem evO_congr{x:Option Operand}(h:∀ y,x=some y->ev' y=ev y):evO ev' x=evO ev x:=by
 cases x with
 | none=>rfl
 | some y=>simp only[evO,h y rfl]
theorem evLd_loc{T:Tys}{t:Nat}{x:SV}(h:evLd T rd t x=some e)(hr:∀ n∈e.rds,rd' n=rd n):evLd T rd' t x=some e:=by
 unfold evLd at *;split at h
 ·rename_i n i;split at h
  ·rename_i ti hti;split at h
   ·rename_i hs;split at h
    ·rename_i ob hob;split at h
     ·rename_i v p hv;simp only[Option.some.injEq]at h;subst h;simp only[hr n (by simp),hob,hv]
     ·cases h
    ·cases h
   ·cases h
  ·cases h
 ·cases h
theorem evSt_loc{T:Tys}{t:Nat}{x v:SV}(h:evSt T rd t x v=some e)(hr:∀ n∈e.rds,rd' n=rd n):evSt T rd' t x v=some e:=by
 unfold evSt at *;split at h
 ·rename_i n i;split at h
  ·rename_i ti hti;split at h
   ·rename_i hs;split at h
    ·rename_i hs2;split at h
     ·rename_i el c hob;split at h
      ·rename_i c' hc';simp only[Option.some.injEq]at h;subst h;simp only[hr n (by simp),hob,hc']
      ·cases h
     ·cases h
    ·cases h
   ·cases h
  ·cases h
 ·cases h
theorem evFieldAddr_loc{T:Tys}{s:Nat}{x:SV}{i:Nat}(h:evFieldAddr T rd s x i=some e)(hr:∀ n∈e.rds,rd' n=rd n):evFieldAddr T rd' s x i=some e:=by
 unfold evFieldAddr at *;split at h
 ·rename_i n off;split at h
  ·rename_i hti;split at h
   ·rename_i hf;split at h
    ·rename_i hte;split at h
     ·rename_i hs;split at h
      ·rename_i ob hob;simp only[Option.some.injEq]at h;subst h;simp only[hr n (by simp),hob]
      ·cases h
     ·cases h
    ·cases h
   ·cases h
  ·cases h
 ·cases h
theorem evSliceC_loc{T:Tys}{t:Nat}{x:SV}{lo hi mx:Option SV}(h:evSliceC T rd t x lo hi mx=some e)(hr:∀ n∈e.rds,rd' n=rd n):evSliceC T rd' t x lo hi mx=some e:=by
 unfold evSliceC at *;split at h
 ·rename_i n len k i;split at h
  ·split at h
   ·split at h
    ·rename_i ob hob;split at h
     ·rename_i hf;simp only[Option.some.injEq]at h;subst h;simp only[hr n (by simp),hob,hf]
     ·cases h
    ·cases h
   ·cases h
  ·cases h
 ·rename_i n off;split at h
  ·split at h
   ·split at h
    ·rename_i ob hob;simp only[Option.some.injEq]at h;subst h;simp only[hr n (by simp),hob]
    ·cases h
   ·cases h
  ·cases h
 ·cases h
theorem evIndexAddr_loc{T:Tys}{t:Nat}{x ix:SV}(h:evIndexAddr T rd t x ix=some e)(hr:∀ n∈e.rds,rd' n=rd n):evIndexAddr T rd' t x ix=some e:=by
 unfold evIndexAddr at *;split at h
 ·split at h
  ·rename_i n off;split at h
   ·rename_i hti;split at h
    ·rename_i hte;split at h
     ·rename_i ob hob;simp only[Option.some.injEq]at h;subst h;simp only[hr n (by simp),hob]
     ·cases h
    ·cases h
   ·cases h
  ·rename_i n off len cap;split at h
   ·rename_i hti;split at h
    ·rename_i hte;split at h
     ·rename_i ob hob;simp only[Option.some.injEq]at h;subst h;simp only[hr n (by simp),hob]
     ·cases h
    ·cases h
   ·cases h
  ·rename_i n len;split at h
   ·rename_i hti;split at h
    ·rename_i hte;split at h
     ·rename_i ob hob;simp only[Option.some.injEq]at h;subst h;simp only[hr n (by simp),hob]
     ·cases h
    ·cases h
   ·cases h
  ·cases h
 ·cases h
theorem evSrc_loc{sz:Nat}{x:SV}{m:Nat}{vs:List SV}{mn:Nm}{p:Option Prop}(h:evSrc rd sz x=some (m,vs,mn,p))(hr:rd' mn=rd mn):evSrc rd' sz x=some (m,vs,mn,p):=by
 unfold evSrc at *;split at h
 ·split at h
  ·rename_i ob hob;split at h
   ·rename_i us hus;have hm:=h;simp only[Option.some.injEq,Prod.mk.injEq]at hm;obtain⟨_,_,rfl,_⟩:=hm;simp only[hr,hob,hus];exact h
   ·cases h
  ·cases h
 ·split at h
  ·rename_i ob hob;split at h
   ·rename_i us hus;have hm:=h;simp only[Option.some.injEq,Prod.mk.injEq]at hm;obtain⟨_,_,rfl,_⟩:=hm;simp only[hr,hob,hus];exact h
   ·cases h
  ·cases h
 ·cases h
theorem evAppend_loc{T:Tys}{t:Nat}{s x:SV}(h:evAppend T rd nm t s x=some e)(hr:∀ n∈e.rds,rd' n=rd n):evAppend T rd' nm t s x=some e:=by
 unfold evAppend at *;split at h
 ·split at h
  ·rename_i te hte;split at h
   ·rename_i m vs mn p hsrc;split at h
    ·rename_i hb;split at h
     ·split at h
      ·rename_i hf;have hm:=h;simp only[Option.some.injEq]at hm;subst hm;simp only[evSrc_loc hsrc (hr mn (by simp)),hb,hf]
      ·cases h
     ·rename_i n len;split at h
      ·rename_i el c es hob;split at h
       ·rename_i hbe;split at h
        ·rename_i c' hc';have hm:=h;simp only[Option.some.injEq]at hm;subst hm;simp only[evSrc_loc hsrc (hr mn (by simp)),hb,hr n (by simp),hob,hbe,hc']
        ·cases h
       ·cases h
      ·cases h
     ·cases h
    ·cases h
   ·cases h
  ·cases h
 ·cases h
theorem evNilCheck_loc{T:Tys}{x:SV}(h:evNilCheck T rd x=some e)(hr:∀ n∈e.rds,rd' n=rd n):evNilCheck T rd' x=some e:=by
 unfold evNilCheck at *;split at h
 ·split at h
  ·rename_i ob hob;simp only[Option.some.injEq]at h;subst h;simp only[hr _ (List.mem_singleton_self _),hob]
  ·cases h
 ·exact h
 ·exact h
 ·cases h
theorem evPtrNil_loc{T:Tys}{op:BinOp}{t:Nat}{x y:SV}(h:evPtrNil T rd op t x y=some e)(hr:∀ n∈e.rds,rd' n=rd n):evPtrNil T rd' op t x y=some e:=by
 unfold evPtrNil at *;split at h
 ·split at h
  ·split at h
   ·rename_i ob hob;split at h
    ·rename_i hl;simp only[Option.some.injEq]at h;subst h;simp only[hr _ (List.mem_singleton_self _),hob]
    ·cases h
   ·cases h
  ·exact h
  ·cases h
 ·cases h
theorem evCopy_loc{T:Tys}{t:Nat}{d s:SV}(h:evCopy T rd t d s=some e)(hr:∀ n∈e.rds,rd' n=rd n):evCopy T rd' t d s=some e:=by
 unfold evCopy at *;split at h
 ·split at h
  ·split at h
   ·split at h
    ·rename_i hdn;split at h
     ·rename_i hsn;split at h
      ·rename_i hk;simp only[Option.some.injEq]at h;subst h;simp only[hr _ (List.mem_cons_self),hr _ (List.mem_cons_of_mem _ (List.mem_singleton_self _)),hdn,hsn,hk]
      ·cases h
     ·cases h
    ·cases h
   ·cases h
  ·cases h
 ·cases h
theorem evOp_loc{o:Op}(h:evOp E ev rd nm o=some e)(hv:∀ x∈o.operands,ev' x=ev x)(hr:∀ n∈e.rds,rd' n=rd n):evOp E ev' rd' nm o=some e:=by
 cases o <;> simp only[evOp,reduceCtorEq]at h
 case move x=>simp only[evOp,hv x (by simp[Op.operands])];exact h
 case assign x=>simp only[evOp,hv x (by simp[Op.operands])];exact h
 case pick c a b=>simp only[evOp,hv c (by simp[Op.operands]),hv a (by simp[Op.operands]),hv b (by simp[Op.operands])];exact h
 case alloc t=>exact h
 case box t x=>simp only[evOp,hv x (by simp[Op.operands])];exact h
 case load t x =>
  simp only[evOp,hv x (by simp[Op.operands])];split at h
  ·exact evLd_loc h hr
  ·cases h
 case store t x y =>
  simp only[evOp,hv x (by simp[Op.operands]),hv y (by simp[Op.operands])];split at h
  ·exact evSt_loc h hr
  ·cases h
 case binOp op t x y yt =>
  simp only[evOp,hv x (by simp[Op.operands]),hv y (by simp[Op.operands])];split at h
  ·split at h
   ·exact h
   ·exact evPtrNil_loc h hr
  ·cases h
 case nilCheck x =>
  simp only[evOp,hv x (by simp[Op.operands])];split at h
  ·exact evNilCheck_loc h hr
  ·cases h
 case makeSlice t l c=>simp only[evOp,hv l (by simp[Op.operands]),hv c (by simp[Op.operands])];exact h
 case unOp op t x=>simp only[evOp,hv x (by simp[Op.operands])];exact h
 case convert s d x=>simp only[evOp,hv x (by simp[Op.operands])];exact h
 case makeInterface t x=>simp only[evOp,hv x (by simp[Op.operands])];exact h
 case makeFunc fn first captured =>
  simp only[evOp];rw[evL_congr (ev:=ev) (ev':=ev') λx hx=>hv x (by simp[Op.operands];exact .inl (by simpa using hx)),evL_congr (ev:=ev) (ev':=ev') λx hx=>hv x (by simp[Op.operands];exact .inr (by simpa using hx))];exact h
 case slice t x lo hi mx =>
  simp only[evOp,hv x (by simp[Op.operands])];rw[evO_congr (ev:=ev) (ev':=ev') (x:=lo) λy hy=>hv y (by simp[Op.operands,hy]),evO_congr (ev:=ev) (ev':=ev') (x:=hi) λy hy=>hv y (by simp[Op.operands,hy]),evO_congr (ev:=ev) (ev':=ev') (x:=mx) λy hy=>hv y (by simp[Op.operands,hy])];split at h
  ·split at h
   ·rename_i hs
    first|exact h|(simp only[hs];exact h)
   ·rename_i hs
    first|exact evSliceC_loc h hr|(simp only[hs];exact evSliceC_loc h hr)
  ·cases h
 case fieldAddr s x i =>
  simp only[evOp,hv x (by simp[Op.operands])];split at h
  ·exact evFieldAddr_loc h hr
  ·cases h
 case field s x i=>simp only[evOp,hv x (by simp[Op.operands])];exact h
 case indexAddr t x i =>
  simp only[evOp,hv x (by simp[Op.operands]),hv i (by simp[Op.operands])];split at h
  ·exact evIndexAddr_loc h hr
  ·cases h
 case build t parts =>
  simp only[evOp];rw[evParts_congr (ev:=ev) (ev':=ev') λp hp=>hv p.2 (by simp only[Op.operands,List.mem_toArray,List.mem_map];exact⟨p,hp,rfl⟩)];exact h
 case buildSlice t len parts =>
  simp only[evOp];rw[evParts_congr (ev:=ev) (ev':=ev') λp hp=>hv p.2 (by simp only[Op.operands,List.mem_toArray,List.mem_map];exact⟨p,hp,rfl⟩)];exact h
 case typeAssert x t asserted ok=>simp only[evOp,hv x (by simp[Op.operands])];exact h
 case extract x i=>simp only[evOp,hv x (by simp[Op.operands])];exact h
 case call c =>
  simp only[evOp];unfold evCallB at *;split at h
  ·split at h
   ·split at h
    ·rw[evL_congr (ev:=ev) (ev':=ev') λx hx=>hv x (by simp[Op.operands,Call.operands];exact .inr (by simpa using hx))];split at h
     ·exact evAppend_loc h hr
     ·cases h
    ·cases h
   ·cases h
  ·split at h
   ·split at h
    ·rw[evL_congr (ev:=ev) (ev':=ev') λx hx=>hv x (by simp[Op.operands,Call.operands];exact .inr (by simpa using hx))];split at h
     ·exact evCopy_loc h hr
     ·cases h
    ·cases h
   ·cases h
  ·rw[evL_congr (ev:=ev) (ev':=ev') λx hx=>hv x (by simp[Op.operands,Call.operands];exact .inr (by simpa using hx))];exact h
  ·cases h
theorem recvOf_loc{m:Mth}{v v':SV}{rs:List Nm}(h:recvOf rd m v=some (v',rs))(hr:∀ n∈rs,rd' n=rd n):recvOf rd' m v=some (v',rs):=by
 unfold recvOf at *;split at h
 ·exact h
 ·split at h
  ·split at h
   ·rename_i hob;simp only[Option.some.injEq,Prod.mk.injEq]at h;obtain⟨rfl,rfl⟩:=h;simp only[hr _ (List.mem_singleton_self _),hob]
   ·cases h
  ·cases h
theorem evInv_loc{P:Program}{T:Tys}(hG:GamOk P G.Γ){name:String}{x:SV}{vs:List SV}(h:evInv T G.Γ rd nm name x vs=some e)(hr:∀ n∈e.rds,rd' n=rd n):evInv T G.Γ rd' nm name x vs=some e:=by
 unfold evInv at *;split at h
 ·split at h
  ·split at h
   ·split at h
    ·rename_i hrv;split at h
     ·rename_i k hk;split at h
      ·rename_i e' he';simp only[Option.some.injEq]at h;subst h;simp only[recvOf_loc hrv (λn hn=>hr n (by simp[hn])),(hG _ k hk).loc he' (λn hn=>hr n (by simp[hn]))]
      ·cases h
     ·cases h
    ·cases h
   ·cases h
  ·cases h
 ·cases h
theorem evAny_loc{P:Program}(hG:GamOk P G.Γ){o:Op}(h:evAny G ev rd nm o=some e)(hv:∀ x∈o.operands,ev' x=ev x)(hr:∀ n∈e.rds,rd' n=rd n):evAny G ev' rd' nm o=some e:=by
 unfold evAny at h;split at h
 ·rename_i c;simp only[evAny];split at h
  ·exact evOp_loc (nm:=nm) (rd:=rd) (rd':=rd') (o:=.call c) h hv hr
  ·unfold evCallF at *;split at h
   ·rename_i x name hx;have h1:ev' x=ev x:=hv x (by simp[Op.operands,Call.operands,hx]);have h2:evL ev' c.args.toList=evL ev c.args.toList:=evL_congr λy hy=>hv y (by simp[Op.operands,Call.operands];exact .inr (by simpa using hy))
    simp only[h1,h2];split at h
    ·split at h
     ·exact evInv_loc hG h hr
     ·cases h
    ·cases h
   ·rename_i x hx;have h1:ev' x=ev x:=hv x (by simp[Op.operands,Call.operands,hx]);have h2:evL ev' c.args.toList=evL ev c.args.toList:=evL_congr λy hy=>hv y (by simp[Op.operands,Call.operands];exact .inr (by simpa using hy))
    simp only[h1,h2];split at h
    ·split at h
     ·split at h
      ·rename_i k hk;exact(hG _ k hk).loc h hr
      ·cases h
     ·cases h
    ·cases h
   ·cases h
 ·rename_i hno;unfold evAny;split
  ·rename_i c;exact absurd rfl (hno c)
  ·exact evOp_loc h hv hr
end
end Go.Sx

namespace Go.Sx
open Go.RowKit
def rGl(T:Tys)(t:Nat):Option Eff :=
 match ty T t with
 | some ti=>match ti.isAgg&&Nat.beq ti.size 0 with
  | true=>some (Eff.pure (.agg []))
  | false=>none
 | none=>none
def rOp(E:Env)(ev:Operand->Option SV)(rd:Nm->Option Ob)(o:Op):Option Eff :=
 match o with
 | .load t (.global _)=>rGl E.T t
 | .load t x=>match ev x with
  | some v=>rLd E.T rd t v
  | none=>none
 | .store t x y=>match ev x,ev y with
  | some v,some u=>rSt E.T rd t v u
  | _,_=>none
 | .binOp op t x y _=>match isConst y with
  | true=>match ev x,ev y with
   | some v,some u=>rEq E.T op t v u
   | _,_=>none
  | false=>none
 | .nilCheck x=>match ev x with
  | some v=>rNil v
  | none=>none
 | .slice t x lo hi mx=>match ev x,evO ev lo,evO ev hi,evO ev mx with
  | some v,some l,some h,some m=>rSlice E.T t v l h m
  | _,_,_,_=>none
 | .fieldAddr s x i=>match ev x with
  | some v=>rFA E.T s v i
  | none=>none
 | .indexAddr t x i=>match ev x,ev i with
  | some v,some u=>rIA E.T t v u
  | _,_=>none
 | .typeAssert x _ asserted ok=>match ev x with
  | some v=>rAssert E.T v asserted ok
  | none=>none
 | .call c=>match c.callee with
  | .builtin .len=>match c.argTypes.toList with
   | [t]=>match evL ev c.args.toList with
    | some [x]=>rLen E.T t x
    | _=>none
   | _=>none
  | .builtin .copy=>match c.argTypes.toList with
   | [t,t']=>match Nat.beq t t' with
    | true=>match evL ev c.args.toList with
     | some [d,x]=>rCopy E.T rd t d x
     | _=>none
    | false=>none
   | _=>none
  | _=>none
 | _=>none
section
variable {P:Program} {W0:World} {Fr:Nat->Prop} {U:Nm->Prop} {H:Heap} {ρ:Rho} {w:World} {nm:Nm}
theorem rOp_sound{E:Env}(hE:EnvOk P E)(hH:HSat W0 Fr U H ρ w){ev:Operand->Option SV}{a:Act}(hev:∀ x v,ev x=some v->a.eval x=v.den ρ/\v.bd U)
  {o:Oper} {e:Eff} (h:rOp E ev (look H) o.op=some e) (ho:okP e.obl) :
  Done W0 Fr U H ρ nm e ((execOp a.eval o).run P w):=by
 obtain⟨dst,op,ty',pos,after,guard⟩:=o;simp only at h;cases op <;> simp only[rOp,reduceCtorEq]at h
 case load t x =>
  have plain:(match ev x with|some v=>rLd E.T (look H) t v|none=>none)=some e->Done W0 Fr U H ρ nm e ((execOp a.eval ⟨dst, .load t x,ty',pos,after,guard⟩).run P w):=by
   intro h;split at h
   ·rename_i v hv;obtain⟨h1,h2⟩:=hev _ _ hv;have:=rLd_sound (nm:=nm) hE.T hH h ho;simpa only[execOp,h1]using this
   ·cases h
  cases x with
  | global g =>
   simp only at h;unfold rGl at h;split at h
   ·rename_i ti hti;split at h
    ·rename_i hz;simp only[Bool.and_eq_true]at hz;simp only[Option.some.injEq]at h;subst h;have hz2:=Nat.eq_of_beq_eq_true hz.2;refine Done.same hH (v:=.agg []) trivial ?_;simp[execOp,Act.eval,Instr.loadAt,Instr.sureAddr,loadVar,(hE.T t ti hti).isAgg' w,hz.1,(hE.T t ti hti).run_size w,hz2,loadCells,loadCellsFrom,SV.den,denL]
    ·cases h
   ·cases h
  | _=>exact plain h
 case store t x y =>
  split at h
  ·rename_i v u hv hu;obtain⟨h1,h2⟩:=hev _ _ hv;obtain⟨h3,h4⟩:=hev _ _ hu;have:=rSt_sound (nm:=nm) hE.T hH h ho;simpa only[execOp,h1,h3]using this
  ·cases h
 case binOp op t x y yt =>
  split at h
  ·rename_i hy;split at h
   ·rename_i v u hv hu;obtain⟨h1,h2⟩:=hev _ _ hv;obtain⟨h3,h4⟩:=hev _ _ hu;have:=rEq_sound (P:=P) (nm:=nm) (xo:=x) (yo:=y) hE.T hH h ho hy;simp only[execOp,h1,h3];exact this
   ·cases h
  ·cases h
 case nilCheck x =>
  split at h
  ·rename_i v hv;obtain⟨h1,h2⟩:=hev _ _ hv;exact rNil_sound hH h2 h ho rfl h1
  ·cases h
 case slice t x lo hi mx =>
  split at h
  ·rename_i v l hh m hv hl hhi hm;obtain⟨h1,h2⟩:=hev _ _ hv;have:=rSlice_sound (nm:=nm) hE.T hH h2 h ho;rw[<-evO_sound hev hl,<-evO_sound hev hhi,<-evO_sound hev hm]at this;simpa only[execOp,h1]using this
  ·cases h
 case fieldAddr s x i =>
  split at h
  ·rename_i v hv;obtain⟨h1,h2⟩:=hev _ _ hv;have:=rFA_sound (nm:=nm) hE.T hH h2 h;simpa only[execOp,h1]using this
  ·cases h
 case indexAddr t x i =>
  split at h
  ·rename_i v u hv hu;obtain⟨h1,h2⟩:=hev _ _ hv;obtain⟨h3,h4⟩:=hev _ _ hu;have:=rIA_sound (nm:=nm) hE.T hH h2 h ho;simpa only[execOp,h1,h3]using this
  ·cases h
 case typeAssert x t asserted ok =>
  split at h
  ·rename_i v hv;obtain⟨h1,h2⟩:=hev _ _ hv;have:=rAssert_sound (nm:=nm) (xt:=t) hE.T hH h2 h ho;simpa only[execOp,h1]using this
  ·cases h
 case call c =>
  split at h
  ·rename_i hb;split at h
   ·rename_i t hat;split at h
    ·rename_i x hvs;obtain⟨h1,h2⟩:=evL_sound hev hvs;have e1:c.args.map a.eval=(denL ρ [x]).toArray:=by rw[<-h1];apply Array.ext';simp
     have e2:c.argTypes = #[t]:=by apply Array.ext';simpa using hat
     have:=rLen_sound (P:=P) (nm:=nm) hE.T hH h ho ty' (c.args.map fun | .const _=>true|_=>false);simp only[execOp,resolve,hb,Sem.run_bind,Sem.run_pure,Result.andThen_ok,invoke,e1,e2];exact this
    ·cases h
   ·cases h
  ·rename_i hb;split at h
   ·rename_i t t' hat;split at h
    ·rename_i htt;have:=Nat.eq_of_beq_eq_true htt;subst this;split at h
     ·rename_i d x hvs;obtain⟨h1,h2⟩:=evL_sound hev hvs;have e1:c.args.map a.eval=(denL ρ [d,x]).toArray:=by rw[<-h1];apply Array.ext';simp
      have e2:c.argTypes = #[t,t]:=by apply Array.ext';simpa using hat
      have:=rCopy_sound (P:=P) (nm:=nm) hE.T hH h ho ty';simp only[execOp,resolve,hb,Sem.run_bind,Sem.run_pure,Result.andThen_ok,invoke,e1,e2,builtin];simp only[Sem.run_bind,Sem.run_pure]at this;exact this
     ·cases h
    ·cases h
   ·cases h
  ·cases h
end
section
variable {E:Env} {ev ev':Operand->Option SV} {rd rd':Nm->Option Ob} {e:Eff}
theorem rLd_loc{T:Tys}{t:Nat}{x:SV}(h:rLd T rd t x=some e)(hr:∀ n∈e.rds,rd' n=rd n):rLd T rd' t x=some e:=by
 unfold rLd at h ⊢;split at h
 ·rename_i n b c;split at h
  ·rename_i ti hti
   have key:rd' n=rd n:=by
    split at h
    ·split at h
     ·split at h
      ·simp only[Option.some.injEq]at h;subst h;exact hr _ (by simp)
      ·cases h
     ·split at h <;> (simp only[Option.some.injEq]at h;subst h;exact hr _ (by simp))
    ·cases h
   simp only[key];exact h
  ·cases h
 ·cases h
theorem rSt_loc{T:Tys}{t:Nat}{x v:SV}(h:rSt T rd t x v=some e)(hr:∀ n∈e.rds,rd' n=rd n):rSt T rd' t x v=some e:=by
 unfold rSt at h ⊢;split at h
 ·rename_i n b c;split at h
  ·rename_i ti hti;split at h
   ·rename_i hl
    have key:rd' n=rd n:=by
     split at h
     ·split at h
      ·simp only[Option.some.injEq]at h;subst h;exact hr _ (by simp)
      ·cases h
     ·cases h
    simp only[key];exact h
   ·cases h
  ·cases h
 ·cases h
theorem rOp_loc{o:Op}(h:rOp E ev rd o=some e)(hv:∀ x∈o.operands,ev' x=ev x)(hr:∀ n∈e.rds,rd' n=rd n):rOp E ev' rd' o=some e:=by
 cases o <;> simp only[rOp,reduceCtorEq]at h ⊢
 case load t x =>
  cases x with
  | global g=>exact h
  | _ =>
   simp only at h ⊢;rw[hv _ (by simp[Op.operands])];split at h
   ·rename_i v hx;exact rLd_loc h hr
   ·cases h
 case store t x y =>
  rw[hv x (by simp[Op.operands]),hv y (by simp[Op.operands])];split at h
  ·rename_i v u hx hy;exact rSt_loc h hr
  ·cases h
 case binOp op t x y yt =>
  rw[hv x (by simp[Op.operands]),hv y (by simp[Op.operands])];exact h
 case nilCheck x =>
  rw[hv x (by simp[Op.operands])];exact h
 case slice t x lo hi mx =>
  rw[hv x (by simp[Op.operands]),evO_congr (x:=lo) (λy hy=>hv y (by simp[Op.operands,hy])),evO_congr (x:=hi) (λy hy=>hv y (by simp[Op.operands,hy])),evO_congr (x:=mx) (λy hy=>hv y (by simp[Op.operands,hy]))];exact h
 case fieldAddr s x i =>
  rw[hv x (by simp[Op.operands])];exact h
 case indexAddr t x i =>
  rw[hv x (by simp[Op.operands]),hv i (by simp[Op.operands])];exact h
 case typeAssert x t asserted ok =>
  rw[hv x (by simp[Op.operands])];exact h
 case call c =>
  split at h
  ·rename_i hb;rw[evL_congr (xs:=c.args.toList) (λx hx=>hv x (by simp[Op.operands,Call.operands];exact .inr (by simpa using hx)))];exact h
  ·rename_i hb;rw[evL_congr (xs:=c.args.toList) (λx hx=>hv x (by simp[Op.operands,Call.operands];exact .inr (by simpa using hx)))];split at h
   ·split at h
    ·split at h
     ·exact rCopy_loc h hr
     ·cases h
    ·cases h
   ·cases h
  ·cases h
end
end Go.Sx

namespace Go.Sx
open Go.RowKit
structure ROp where
 ι:Type
 ne:Nonempty ι
 ev:ι->(Operand->Option SV)->(Nm->Option Ob)->Nm->Option (Eff×Prop)
structure ROpOk (P : Program) (R : ROp) (op : Op) : Prop where
 sound : ∀ {W0 : World} {Fr : Nat -> Prop} {U : Nm -> Prop} {H : Heap} {ρ : Rho} {w : World} {nm : Nm} {ev : Operand -> Option SV} {a : Act} {o : Oper}, o.op = op ->
   HSat W0 Fr U H ρ w -> (∀ j, j < 12 -> ¬ U (nm + j)) -> (∀ x v, ev x = some v -> a.eval x = v.den ρ /\ v.bd U) ->
   (∀ i, ∃ e p, R.ev i ev (look H) nm = some (e, p) /\ okP e.obl) -> ∀ {next : Act -> World -> Prop} {Q : Exit -> Act -> World -> Prop},
   (∀ i e p ρ' w', R.ev i ev (look H) nm = some (e, p) -> p -> (∀ n, U n -> ρ' n = ρ n) -> HSat W0 Fr (UU U nm) (e.wr ++ (e.news ++ H)) ρ' w' ->
     (match e.val with
      | some v => v.bd (UU U nm) -> next (a.put o.dst (v.den ρ')) w'
      | none => next (a.put o.dst undef) w')) -> o.wp P a w next Q
 loc : ∀ {i : R.ι} {ev ev' : Operand -> Option SV} {rd rd' : Nm -> Option Ob} {nm : Nm} {e : Eff} {p : Prop}, R.ev i ev rd nm = some (e, p) -> (∀ x ∈ op.operands, ev' x = ev x) -> (∀ n ∈ e.rds, rd' n = rd n) -> R.ev i ev' rd' nm = some (e, p)
theorem Done.wp{P : Program}{W0 : World}{Fr : Nat -> Prop}{U : Nm -> Prop}{H : Heap}{ρ : Rho}{w : World}{nm : Nm}{e : Eff}{a : Act}{o : Oper}(h : Done W0 Fr U H ρ nm e ((execOp a.eval o).run P w))
   {next : Act -> World -> Prop} {Q : Exit -> Act -> World -> Prop}
   (hk : ∀ ρ' w', (∀ n, U n -> ρ' n = ρ n) -> HSat W0 Fr (UU U nm) (e.wr ++ (e.news ++ H)) ρ' w' ->
     (match e.val with
      | some v => v.bd (UU U nm) -> next (a.put o.dst (v.den ρ')) w'
      | none => next (a.put o.dst undef) w')) : o.wp P a w next Q := by
 obtain ⟨ρ', w', h1, h2, h3⟩ := h;have h4 := hk ρ' w' h1 h2;unfold Oper.wp;split at h3
 · rename_i v hv
   obtain ⟨h5, h6⟩ := h3;rw [h6];simp only [hv] at h4;exact h4 h5
 · rename_i hv
   rw [h3];simp only [hv] at h4;exact h4
def rz(T:Tys)(t:Nat)(c:Nat):Value:=match ty T t with
 | some ti=>(ti.zero.at c).den λ_=>none
 | none=>.bool false
def allOneC:Cont->Bool
 | .cells l=>allOne l
 | .ints _ _ _=>true
 | .flts _ _ _=>true
 | _=>false
theorem allOneC_spec{c:Cont}(h:allOneC c=true):∀ i,i<c.size->(c.at i).one=true:=by
 intro i hi
 cases c with
 | cells l =>
  have hi':i<l.length:=hi;simp only[Cont.at,getL_eq,List.getElem?_eq_getElem hi',Option.getD_some];exact allOne_spec h _ (List.getElem_mem hi')
 | ints k n g=>rfl
 | flts k n g=>rfl
 | gen n f=>simp[allOneC]at h
 | upto n l=>simp[allOneC]at h
 | raw ts D sz F=>simp[allOneC]at h
noncomputable def rAlloc(T:Tys)(n:Nm)(t b:Nat)(rd:Nm->Option Ob):Option (Eff×Prop) :=
 match ty T t with
 | some ti=>match allOneC ti.zero with
  | true=>match rd n with
   | some ⟨true,el, .raw ts D sz F,es⟩=>some (⟨some (.pb n b 0),[(n,⟨true,el, .raw ts (newD D b) (newSx D sz b ti.size) (newFx D F b (rz T t)),es⟩)],[],[n],none⟩,¬D b)
   | _=>none
  | false=>none
 | none=>none
section
variable {P:Program} {W0:World} {Fr:Nat->Prop} {U:Nm->Prop} {H:Heap} {ρ:Rho} {w:World} {nm:Nm}
theorem rAlloc_sound{T:Tys}(hT:TysOk P T)(hH:HSat W0 Fr U H ρ w){t n b0:Nat}{e:Eff}{p:Prop}(h:rAlloc T n t b0 (look H)=some (e,p)) :
  ∃ b e p,rAlloc T n t b (look H)=some (e,p)/\p/\Done W0 Fr U H ρ nm e ((do pure (.value (<-Instr.alloc t true (.tuple #[]))):Sem Next).run P w):=by
 unfold rAlloc at h;split at h
 ·rename_i ti hti;split at h
  ·rename_i hall;split at h
   ·rename_i el ts D sz F es hob;have ht:=hT t ti hti;obtain⟨z,hz,hzs,hzv⟩:=ht.run_zero w
    obtain⟨h1,h2⟩:=hH.rawAlloc hob rfl rfl (arr:=z.cells) (t:=t) (z:=rz T t) (λc hc=>by
     have hc':c<ti.zero.size:=by rw[<-hzs];exact hc
     have:=hzv (λ_=>none) c hc';simp only[rz,hti]
     exact⟨this,SV.one_den _ (allOneC_spec hall c hc')⟩)
    refine⟨w.heap.size,⟨some (.pb n w.heap.size 0),[(n,⟨true,el, .raw ts (newD D w.heap.size) (newSx D sz w.heap.size ti.size) (newFx D F w.heap.size (rz T t)),es⟩)],[],[n],none⟩,¬D w.heap.size,by simp only[rAlloc,hti,hall,hob],h1,ρ,w.alloc (.cells z.cells t),λ_ _=>rfl,?_,?_⟩
    ·have hs:z.cells.size=ti.size:=by rw[hzs,ht.zsz]
     rw[hs]at h2;rw[newFx_eq h1,newSx_eq h1];exact h2.mono UU_of
    ·refine⟨.inl (hH.used n _ hob),?_⟩;simp[Instr.alloc,hz,newVar,newRow,SV.den]
   ·cases h
  ·cases h
 ·cases h
def appG(F:Nat->Nat->Value)(b c n1:Nat)(vs:List Value)(z:Nat->Value):Nat->Value:=λj =>
 if j<n1 then F b (c+j)else if j<n1+vs.length then vs.getD (j-n1) (.bool false)else z j
def addP(q p:Option Prop):Option Prop:=match p with
 | some p=>andP q p
 | none=>q
def rDst:SV->Option (Nat×Nat×Nat×Nat×Option Prop)
 | .slb _ b c l k=>some (b,c,l,k,none)
 | .dv _ v=>some (slB v,slC v,slL v,slK v,some (isSlN v))
 | .nils=>some (0,0,0,0,none)
 | _=>none
def rApp(T:Tys)(n:Nm)(t:Nat)(s x:SV)(i:Option (Nat×Nat×(Nat->Value)))(rd:Nm->Option Ob):Option (Eff×Prop) :=
 match ty T t with
 | some {tk:=.slice e, ..}=>match ty T e with
  | some te=>match evSrc rd te.size x with
   | some (m,vs,mn,p)=>match Nat.ble 1 te.size&&(Nat.ble 1 m&&allOneC te.zero)with
    | true=>match valsOf vs p with
     | some (us,q)=>match rDst s with
      | some (b,c,l,k,p1)=>match rd n with
       | some ⟨true,el, .raw ts D sz F,es⟩=>match i with
        | none=>some (⟨some (.slb n b c (l+m) k),[(n,⟨true,el, .raw ts D sz (updC F b (c+l*te.size) us),es⟩)],[],[n,mn],
          andP (addP q p1) (l+m<=k->D b/\c+(l+m)*te.size<=sz b)⟩,l+m<=k)
        | some (b',k',z)=>some (⟨some (.slb n b' 0 (l+m) k'),[(n,⟨true,el, .raw ts (newD D b') (newS sz b' (k'*te.size)) (newF F b' (appG F b c (l*te.size) us z)),es⟩)],[],[n,mn],
          andP (addP q p1) ((0<l->D b/\c+l*te.size<=sz b)/\(l+m)*te.bytes<=140737488355328/\l+m<=maxLen)⟩,¬D b'/\k<l+m/\l+m<=k'/\k'<=maxLen)
       | _=>none
      | none=>none
     | none=>none
    | false=>none
   | none=>none
  | none=>none
 | _=>none
theorem rDst_spec{s:SV}{b c l k:Nat}{p:Option Prop}(h:rDst s=some (b,c,l,k,p))(hp:okP p)(ρ:Rho) :
  s.den ρ=.slice (some ⟨b,c,none⟩) l k∨(s.den ρ=.slice none 0 0/\l=0/\k=0):=by
 unfold rDst at h;split at h
 ·simp only[Option.some.injEq,Prod.mk.injEq]at h;obtain⟨rfl,rfl,rfl,rfl,rfl⟩:=h;exact .inl rfl
 ·rename_i n v;simp only[Option.some.injEq,Prod.mk.injEq]at h;obtain⟨rfl,rfl,rfl,rfl,rfl⟩:=h;have hp:isSlN v:=hp;rcases hp with rfl|hp
  ·exact .inr ⟨by simp[SV.den,Value.oneCell'],rfl,rfl⟩
  ·refine .inl ?_;simp only[SV.den];rw[if_pos (isSl_one hp)];exact hp
 ·simp only[Option.some.injEq,Prod.mk.injEq]at h;obtain⟨rfl,rfl,rfl,rfl,rfl⟩:=h;exact .inr ⟨rfl,rfl,rfl⟩
 ·cases h
theorem zeroCells_one{z:Array Value}(hz:∀ i,i<z.size->∃ v,z[i]? = some v/\v.oneCell'=true)(hpos:0<z.size){n j:Nat}{v:Value}(h:(Builtin.zeroCells z n)[j]? = some v):v.oneCell'=true:=by
 unfold Builtin.zeroCells at h;rw[Array.getElem?_map]at h;rw[Option.map_eq_some_iff]at h;obtain⟨a,ha,rfl⟩:=h;have hm:=Nat.mod_lt a hpos;obtain⟨v,hv,ho⟩:=hz _ hm;rw[getElem!_pos z _ hm];rw[Array.getElem?_eq_getElem hm]at hv;injection hv with hv
 rw[hv];exact ho
theorem rApp_sound{T:Tys}(hT:TysOk P T)(hH:HSat W0 Fr U H ρ w){n t:Nat}{s x:SV}(h:∀ i,∃ e p,rApp T n t s x i (look H)=some (e,p)/\okP e.obl)(ty':Nat) :
  ∃ i e p,rApp T n t s x i (look H)=some (e,p)/\p/\Done W0 Fr U H ρ nm e ((do pure (.value (<-Builtin.append_ #[t,t] ty' #[s.den ρ,x.den ρ])):Sem Next).run P w):=by
 obtain⟨e0,p0,h0,ho0⟩:=h none;have hgrow:=λb' k' z=>h (some (b',k',z))
 clear h;unfold rApp at h0;split at h0
 case h_2=>cases h0
 rename_i el0 _ _ _ _ hti;split at h0
 case h_2=>cases h0
 rename_i te hte;split at h0
 case h_2=>cases h0
 rename_i m vs mn p hsrc;split at h0
 case h_2=>cases h0
 rename_i hb;split at h0
 case h_2=>cases h0
 rename_i us q hus;split at h0
 case h_2=>cases h0
 rename_i b c l k p1 hdst;split at h0
 case h_2=>cases h0
 rename_i el ts D sz F es hob;simp only[Option.some.injEq,Prod.mk.injEq]at h0;obtain⟨rfl,rfl⟩:=h0
 have hcalc:∀ i,rApp T n t s x i (look H)=(match i with
   | none=>some (⟨some (.slb n b c (l+m) k),[(n,⟨true,el, .raw ts D sz (updC F b (c+l*te.size) us),es⟩)],[],[n,mn],
     andP (addP q p1) (l+m<=k->D b/\c+(l+m)*te.size<=sz b)⟩,l+m<=k)
   | some (b',k',z)=>some (⟨some (.slb n b' 0 (l+m) k'),[(n,⟨true,el, .raw ts (newD D b') (newS sz b' (k'*te.size)) (newF F b' (appG F b c (l*te.size) us z)),es⟩)],[],[n,mn],
     andP (addP q p1) ((0<l->D b/\c+l*te.size<=sz b)/\(l+m)*te.bytes<=140737488355328/\l+m<=maxLen)⟩,¬D b'/\k<l+m/\l+m<=k'/\k'<=maxLen)):=by
  intro i
  cases i with
  | none=>simp only[rApp,hti,hte,hsrc,hb,hus,hdst,hob]
  | some j=>obtain⟨b',k',z⟩:=j;simp only[rApp,hti,hte,hsrc,hb,hus,hdst,hob]
 simp only[Bool.and_eq_true]at hb;have hsz:=Nat.le_of_ble_eq_true hb.1;have hm:=Nat.le_of_ble_eq_true hb.2.1;obtain⟨hq,hroomO⟩:=andP_ok ho0
 have hqp:okP q/\okP p1:=by
  cases p1 with
  | none=>exact⟨hq,trivial⟩
  | some p1=>exact andP_ok hq
 obtain⟨hp,hden,hone⟩:=valsOf_spec ρ hus hqp.1;obtain⟨a,off,cap,hx,hl,_,hcell⟩:=evSrc_sound (w:=w) hsz hH hsrc hp hm;rw[hden]at hcell;have hul:us.length=m*te.size:=by rw[<-hden,denL_eq,List.length_map,hl]
 obtain⟨d,hd,hd2⟩:=(hT t _ hti).desc;cases d <;> simp only[tkOf,TK.slice.injEq,reduceCtorEq]at hd2
 subst hd2;rename_i el0;obtain⟨i,z,hi,hz,hsi,hby,hzs⟩:=(hT el0 _ hte).zero_row
 have hzone:∀ j,j<z.cells.size->∃ v,z.cells[j]? = some v/\v.oneCell'=true:=by
  intro j hj;obtain⟨z',hz',hzs',hzv⟩:=(hT el0 _ hte).run_zero w
  have:z'=z:=by
   simp[zeroValue,typeInfo,hi,hz]at hz';exact hz'.symm
  subst this;have hj':j<te.zero.size:=by rw[<-hzs'];exact hj
  exact⟨_,hzv (λ_=>none) j hj',SV.one_den _ (allOneC_spec hb.2.2 j hj')⟩
 have hU:=hH.used n _ hob;by_cases hroom:l+m<=k
 ·obtain⟨hD,hfit⟩:=hroomO hroom;refine⟨none,_,_,hcalc none,hroom,?_⟩
  have hs:s.den ρ=.slice (some ⟨b,c,none⟩) l k:=by
   rcases rDst_spec hdst hqp.2 ρ with h1|⟨_,h2,h3⟩
   ·exact h1
   ·omega
  have hlen:c+l*te.size+us.length<=sz b:=by rw[hul];rw[Nat.add_mul]at hfit;omega
  obtain⟨w',hrun,hH'⟩:=run_storeRaw (P:=P) hD us F hH hob (c+l*te.size) 0 (by omega) hone
  have hr:=run_append_room_cells (P:=P) (w:=w) t ty' el0 i hd hi b c l k ⟨a,off,none⟩ m cap us (by rw[hul,hsi]) hcell hone hroom (λj hj=>by
    obtain⟨h1,_,_⟩:=hH.rawCell hob rfl rfl hD (c:=c+l*i.size+j) (by rw[hsi];omega)
    rw[h1];rfl) (λj hj=>(hH.rawCell hob rfl rfl hD (c:=c+l*i.size+j) (by rw[hsi];omega)).2.2)
  have hst:=run_storeCells_cells (P:=P) b (c+l*te.size) us 0 w (λj hj=>by
    obtain⟨h1,_,_⟩:=hH.rawCell hob rfl rfl hD (c:=c+l*te.size+0+j) (by omega)
    rw[h1];rfl) (λj hj=>(hH.rawCell hob rfl rfl hD (c:=c+l*te.size+0+j) (by omega)).2.2) hone
  rw[hrun]at hst;injection hst with _ hst
  refine⟨ρ,w',λ_ _=>rfl,by simpa using hH'.mono UU_of, .inl hU,?_⟩;rw[hs,hx,Sem.run_bind,hr,hsi,hst];simp[SV.den]
 ·
  have key:∀(olds:List Value),olds.length=l*te.size->(∀ j v,olds[j]? = some v->v=F b (c+j)/\v.oneCell'=true)->
    (Builtin.append_ #[t,t] ty' #[s.den ρ,x.den ρ]).run P w=.ok (.slice (some ⟨w.heap.size,0,none⟩) (l+m) (grownCap w (l+m) k el0))
     (w.drew.alloc (.cells (olds.toArray++us.toArray++Builtin.zeroCells z.cells (grownCap w (l+m) k el0-(l+m))) el0))->
    ∃ i e p,rApp T n t s x i (look H)=some (e,p)/\p/\Done W0 Fr U H ρ nm e ((do pure (.value (<-Builtin.append_ #[t,t] ty' #[s.den ρ,x.den ρ])):Sem Next).run P w):=by
   intro olds hol holds hr
   let arr:=olds.toArray++us.toArray++Builtin.zeroCells z.cells (grownCap w (l+m) k el0-(l+m))
   obtain⟨e1,p1',h1,ho1⟩:=hgrow 0 0 λ_=>.bool false
   rw[hcalc]at h1;simp only[Option.some.injEq,Prod.mk.injEq]at h1;obtain⟨rfl,rfl⟩:=h1;obtain⟨_,_,_,hlm⟩:=andP_ok ho1;have hge:=grownCap_ge w (l+m) k el0;have hcm:=grownCap_le_maxLen w (l+m) k el0 hlm
   have hsize:arr.size=grownCap w (l+m) k el0*te.size:=by
    simp only[arr,Array.size_append,List.size_toArray,size_zeroCells,hzs,hul,hol,<-Nat.add_mul];congr 1;omega
   obtain⟨h2,h3⟩:=hH.drew.rawAlloc hob rfl rfl (arr:=arr) (t:=el0) (z:=appG F b c (l*te.size) us λj=>(arr[j]?).getD (.bool false)) (λj hj=>by
    unfold appG;by_cases hj1:j<l*te.size
    ·rw[if_pos hj1];have hjo:j<olds.length:=by omega
     have:arr[j]? = some olds[j]:=by
      simp only[arr];rw[Array.getElem?_append_left (by simp;omega),Array.getElem?_append_left (by simpa using hjo)];simp[hjo]
     obtain⟨h4,h5⟩:=holds j olds[j] (List.getElem?_eq_getElem hjo);rw[this,<-h4];exact⟨rfl,h5⟩
    ·rw[if_neg hj1];by_cases hj2:j<l*te.size+us.length
     ·rw[if_pos hj2];have hju:j-l*te.size<us.length:=by omega
      have:arr[j]? = some us[j-l*te.size]:=by
       simp only[arr];rw[Array.getElem?_append_left (by simp;omega),Array.getElem?_append_right (by simp;omega)];simp[hol,hju]
      rw[this,List.getD_eq_getElem?_getD,List.getElem?_eq_getElem hju];exact⟨rfl,hone _ (List.getElem_mem hju)⟩
     ·rw[if_neg hj2];have hv:arr[j]? = some arr[j]:=Array.getElem?_eq_getElem hj;refine⟨by simp only[hv,Option.getD_some],?_⟩;show ((arr[j]?).getD (.bool false)).oneCell'=true;rw[hv];show (arr[j]).oneCell'=true;simp only[arr]at hv;rw[Array.getElem?_append_right (by simp;omega)]at hv
      exact zeroCells_one hzone (by omega) hv)
   have hwz:(w.drew).heap.size=w.heap.size:=rfl;rw[hwz]at h2 h3;refine⟨some (w.heap.size,grownCap w (l+m) k el0,λj=>(arr[j]?).getD (.bool false)),_,_,hcalc _,⟨h2,by omega,hge,hcm⟩,ρ,w.drew.alloc (.cells arr el0),λ_ _=>rfl,?_, .inl hU,?_⟩
   ·rw[hsize]at h3;exact h3.mono UU_of
   ·rw[Sem.run_bind,hr];rfl
  obtain⟨e1,p1',h1,ho1⟩:=hgrow 0 0 λ_=>.bool false
  rw[hcalc]at h1;simp only[Option.some.injEq,Prod.mk.injEq]at h1;obtain⟨rfl,rfl⟩:=h1;obtain⟨_,hDl,hby2,hlm⟩:=andP_ok ho1;rcases rDst_spec hdst hqp.2 ρ with hs|⟨hs,hl0,hk0⟩
  ·have hcells:∀ j,j<l*te.size->w.cell? ⟨b,c+j,none⟩=some (F b (c+j))/\(F b (c+j)).oneCell'=true:=by
    intro j hj
    have hl0:0<l:=by
     rcases Nat.eq_zero_or_pos l with h0|h0
     ·subst h0;simp at hj
     ·exact h0
    obtain⟨hD,hfit⟩:=hDl hl0;obtain⟨h4,h5,_⟩:=hH.rawCell hob rfl rfl hD (c:=c+j) (by omega);exact⟨h4,h5⟩
   refine key (fvs F b c (l*te.size)) (fvs_len _ _ _ _) (λj v hj=>?_) ?_
   ·obtain⟨h4,h5⟩:=fvs_get F b _ _ _ _ hj;exact⟨h5,by rw[h5];exact(hcells j h4).2⟩
   ·rw[hs,hx]
    exact run_append_grow (P:=P) w t ty' el0 i z hd hi hz ⟨b,c,none⟩ l k (fvs F b c (l*te.size)) (by rw[fvs_len,hsi]) (λj v hj=>by
     obtain⟨h4,h5⟩:=fvs_get F b _ _ _ _ hj
     rw[Addr.add_lit,h5];exact(hcells j h4).1) ⟨a,off,none⟩ m cap us (by rw[hul,hsi]) hcell (by omega) (by simp only[maxLen]at hlm;omega) (growslice_fits (by omega) (by rw[hby];exact hby2))
  ·subst hl0 hk0;refine key [] (by simp) (λj v hj=>by simp at hj) ?_;have hr:=run_append_nil (P:=P) w t ty' el0 i z hd hi hz ⟨a,off,none⟩ m cap us (by rw[hul,hsi]) hcell (by omega) (by simp only[maxLen]at hlm;omega) (by rw[hby];rw[Nat.zero_add]at hby2;omega);rw[hs,hx,hr];simp
end
end Go.Sx

namespace Go.Sx
open Go.RowKit
section
variable {P:Program} {W0:World} {Fr:Nat->Prop} {U:Nm->Prop} {H:Heap} {ρ:Rho} {w:World} {nm:Nm}
def rBuild(T:Tys)(n:Nm)(t len:Nat)(ps:List (Nat×SV))(b:Nat)(rd:Nm->Option Ob):Option (Eff×Prop) :=
 match ty T t with
 | some {tk:=.slice e, ..}=>match ty T e with
  | some {zero:=.cells z,size:=sz, ..}=>match Nat.ble 1 (len*sz)&&Nat.ble (len*sz) 16777216 with
   | true=>match fillS (λi=>some (i*sz,sz)) (repL z len) ps with
    | some r=>match valsOf r none with
     | some (us,q)=>match rd n with
      | some ⟨true,el, .raw ts D sz' F,es⟩=>some (⟨some (.slb n b 0 len len),[(n,⟨true,el, .raw ts (newD D b) (newS sz' b (len*sz)) (newF F b λj=>us.getD j (.bool false)),es⟩)],[],[n],q⟩,¬D b)
      | _=>none
     | none=>none
    | none=>none
   | false=>none
  | _=>none
 | _=>none
theorem run_buildSlice{T:Tys}(hT:TysOk P T){t len el:Nat}{ps:List (Nat×SV)}{s1 b1:Nat}{z1:Cont}{m1:List Mth}(hti:ty T t=some ⟨.slice el,s1,b1,z1,m1⟩){tk:TK}{sz by':Nat}{z:List SV}{msx:List Mth}(hte:ty T el=some ⟨tk,sz,by', .cells z,msx⟩)
  (h1':1<=len*sz) (h2':len*sz<=16777216) {r:List SV} (hr:fillS (λi=>some (i*sz,sz)) (repL z len) ps=some r) :
  (denL ρ r).length=len*sz/\(Instr.buildSlice t len (ps.map λp=>(p.1,p.2.den ρ)).toArray).run P w=.ok (.slice (some ⟨w.heap.size,0,none⟩) len len) (w.alloc (.cells (denL ρ r).toArray el)):=by
 have hte':=hT el _ hte;obtain⟨d,hd,hd2⟩:=(hT t _ hti).desc;cases d <;> simp only[tkOf,TK.slice.injEq,reduceCtorEq]at hd2
 subst hd2;obtain⟨v,hz1,hz2,hz3⟩:=zero_cells hte' rfl ρ w;have hzl:z.length=sz:=hte'.zsz;have hrl:r.length=len*sz:=by rw[fillS_length hr,repL_length,hzl]
 have hs:(sizeOf ‹Nat›).run P w=.ok sz w:=hte'.run_size w
 have hinit:((Array.range (len*sz)).map λi=>(denL ρ z).toArray[i % (denL ρ z).toArray.size]!)=(denL ρ (repL z len)).toArray:=by
  apply Array.ext_getElem?
  intro i;by_cases hi:i<len*sz
  ·have hp0:0<z.length:=by
    rw[hzl];rcases Nat.eq_zero_or_pos sz with h0|h0
    ·rw[h0]at h1';simp at h1'
    ·exact h0
   have h3:i % z.length<z.length:=Nat.mod_lt _ hp0;have h4:i<len*z.length:=by rw[hzl];exact hi
   simp only[Array.getElem?_map,Array.getElem?_range,hi,if_true,Option.map_some,denL_eq,List.getElem?_toArray,List.getElem?_map,repL_get z len i h4,List.getElem?_eq_getElem h3];simp[h3]
  ·have h4:¬i<len*z.length:=by rw[hzl];exact hi
   rw[Array.getElem?_eq_none (by simp;omega),Array.getElem?_eq_none (by simp[denL_eq,repL_length];omega)]
 refine⟨by simp[denL_eq,hrl],?_⟩;have hne:len*sz≠0:=by omega
 simp only[Instr.buildSlice,Sem.run_bind,run_underlying hd,Result.andThen_ok,hs,Sem.run_ite,hne,if_false,hz1,hz2,Sem.run_pure];have hle2:¬len*sz > 2 ^ 24:=by omega
 simp only[hle2,if_false,Sem.run_bind,Sem.run_pure,hinit,fill_eq ρ hr];simp[newRow]
theorem rBuild_sound{T:Tys}(hT:TysOk P T)(hH:HSat W0 Fr U H ρ w){n t len b0:Nat}{ps:List (Nat×SV)}{e:Eff}{p:Prop}(h:rBuild T n t len ps b0 (look H)=some (e,p))(ho:okP e.obl) :
  ∃ b e p,rBuild T n t len ps b (look H)=some (e,p)/\p/\Done W0 Fr U H ρ nm e ((do pure (.value (<-Instr.buildSlice t len (ps.map λp=>(p.1,p.2.den ρ)).toArray)):Sem Next).run P w):=by
 unfold rBuild at h;split at h
 case h_2=>cases h
 rename_i el _ _ _ _ hti;split at h
 case h_2=>cases h
 rename_i tk sz by' z msx hte;split at h
 case h_2=>cases h
 rename_i hb;split at h
 case h_2=>cases h
 rename_i r hr;split at h
 case h_2=>cases h
 rename_i us q hus;split at h
 case h_2=>cases h
 rename_i el' ts D sz' F es hob;simp only[Option.some.injEq,Prod.mk.injEq]at h;obtain⟨rfl,rfl⟩:=h;have hb2:=hb;simp only[Bool.and_eq_true]at hb2;obtain⟨_,hden,hone⟩:=valsOf_spec ρ hus ho;obtain⟨hl,hrun⟩:=run_buildSlice (ρ:=ρ) (w:=w) hT hti hte (Nat.le_of_ble_eq_true hb2.1) (Nat.le_of_ble_eq_true hb2.2) hr;rw[hden]at hl hrun
 obtain⟨h1,h2⟩:=hH.rawAlloc hob rfl rfl (arr:=us.toArray) (t:=el) (z:=λj=>us.getD j (.bool false)) (λc hc=>by
  have hc':c<us.length:=by simpa using hc
  simp only[List.getElem?_toArray,List.getElem?_eq_getElem hc',List.getD_eq_getElem?_getD,Option.getD_some]
  exact⟨trivial,hone _ (List.getElem_mem hc')⟩)
 refine⟨w.heap.size,⟨some (.slb n w.heap.size 0 len len),[(n,⟨true,el', .raw ts (newD D w.heap.size) (newS sz' w.heap.size (len*sz)) (newF F w.heap.size λj=>us.getD j (.bool false)),es⟩)],[],[n],q⟩,¬D w.heap.size,
  by simp only[rBuild,hti,hte,hb,hr,hus,hob],h1,ρ,w.alloc (.cells us.toArray el),λ_ _=>rfl,?_, .inl (hH.used n _ hob),?_⟩
 ·have hs:us.toArray.size=len*sz:=by simpa using hl
  rw[hs]at h2;exact h2.mono UU_of
 ·rw[Sem.run_bind,hrun];rfl
structure ApI where
 b:Nat
 c:Nat
 k:Nat
 D:Nat->Prop
 S:Nat->Nat
 F:Nat->Nat->Value
def appP(D:Nat->Prop)(sz:Nat->Nat)(F:Nat->Nat->Value)(z b c l k m:Nat)(us:List Value)(i:ApI):Prop :=
 (l+m<=k/\i.b=b/\i.c=c/\i.k=k/\i.D=D/\i.S=sz/\i.F=updC F b (c+l*z) us)∨
 (k<l+m/\¬D i.b/\i.c=0/\l+m<=i.k/\i.k<=maxLen/\i.D=newD D i.b/\i.S=newS sz i.b (i.k*z)/\∃ zz,i.F=newF F i.b (appG F b c (l*z) us zz))
def appO(D:Nat->Prop)(sz:Nat->Nat)(z y b c l k m:Nat):Prop :=
 (l+m<=k->D b/\c+(l+m)*z<=sz b)/\(0<l->D b/\c+l*z<=sz b)/\(l+m)*y<=140737488355328/\l+m<=maxLen
def rAppU(T:Tys)(n:Nm)(t:Nat)(s x:SV)(i:ApI)(rd:Nm->Option Ob):Option (Eff×Prop) :=
 match ty T t with
 | some {tk:=.slice e, ..}=>match ty T e with
  | some te=>match evSrc rd te.size x with
   | some (m,vs,mn,p)=>match Nat.ble 1 te.size&&(Nat.ble 1 m&&allOneC te.zero)with
    | true=>match valsOf vs p with
     | some (us,q)=>match rDst s with
      | some (b,c,l,k,p1)=>match rd n with
       | some ⟨true,el, .raw ts D sz F,es⟩=>some (⟨some (.slb n i.b i.c (l+m) i.k),[(n,⟨true,el, .raw ts i.D i.S i.F,es⟩)],[],[n,mn],
          andP (addP q p1) (appO D sz te.size te.bytes b c l k m)⟩,appP D sz F te.size b c l k m us i)
       | _=>none
      | none=>none
     | none=>none
    | false=>none
   | none=>none
  | none=>none
 | _=>none
theorem rAppU_sound{T:Tys}(hT:TysOk P T)(hH:HSat W0 Fr U H ρ w){n t:Nat}{s x:SV}(h:∀ i,∃ e p,rAppU T n t s x i (look H)=some (e,p)/\okP e.obl)(ty':Nat) :
  ∃ i e p,rAppU T n t s x i (look H)=some (e,p)/\p/\Done W0 Fr U H ρ nm e ((do pure (.value (<-Builtin.append_ #[t,t] ty' #[s.den ρ,x.den ρ])):Sem Next).run P w):=by
 obtain⟨e0,p0,h0,ho0⟩:=h ⟨0,0,0,λ_=>False,λ_=>0,λ_ _=>.bool false⟩;clear h;unfold rAppU at h0;split at h0
 case h_2=>cases h0
 rename_i el0 _ _ _ _ hti;split at h0
 case h_2=>cases h0
 rename_i te hte;split at h0
 case h_2=>cases h0
 rename_i m vs mn p hsrc;split at h0
 case h_2=>cases h0
 rename_i hb;split at h0
 case h_2=>cases h0
 rename_i us q hus;split at h0
 case h_2=>cases h0
 rename_i b c l k p1 hdst;split at h0
 case h_2=>cases h0
 rename_i el ts D sz F es hob;simp only[Option.some.injEq,Prod.mk.injEq]at h0;obtain⟨rfl,rfl⟩:=h0;obtain⟨hq,hO1,hO2,hO3,hO4⟩:=andP_ok ho0
 have hcalc:∀ i,rAppU T n t s x i (look H)=some (⟨some (.slb n i.b i.c (l+m) i.k),[(n,⟨true,el, .raw ts i.D i.S i.F,es⟩)],[],[n,mn],
   andP (addP q p1) (appO D sz te.size te.bytes b c l k m)⟩,appP D sz F te.size b c l k m us i):=by
  intro i;simp only[rAppU,hti,hte,hsrc,hb,hus,hdst,hob]
 have hcalc2:∀ i,rApp T n t s x i (look H)=(match i with
   | none=>some (⟨some (.slb n b c (l+m) k),[(n,⟨true,el, .raw ts D sz (updC F b (c+l*te.size) us),es⟩)],[],[n,mn],
     andP (addP q p1) (l+m<=k->D b/\c+(l+m)*te.size<=sz b)⟩,l+m<=k)
   | some (b',k',z)=>some (⟨some (.slb n b' 0 (l+m) k'),[(n,⟨true,el, .raw ts (newD D b') (newS sz b' (k'*te.size)) (newF F b' (appG F b c (l*te.size) us z)),es⟩)],[],[n,mn],
     andP (addP q p1) ((0<l->D b/\c+l*te.size<=sz b)/\(l+m)*te.bytes<=140737488355328/\l+m<=maxLen)⟩,¬D b'/\k<l+m/\l+m<=k'/\k'<=maxLen)):=by
  intro i
  cases i with
  | none=>simp only[rApp,hti,hte,hsrc,hb,hus,hdst,hob]
  | some j=>obtain⟨b',k',z⟩:=j;simp only[rApp,hti,hte,hsrc,hb,hus,hdst,hob]
 have andP_mk:∀ {q:Option Prop} {r:Prop},okP q->r->okP (andP q r):=by
  intro q r h1 h2
  cases q with
  | none=>exact h2
  | some q=>exact⟨h1,h2⟩
 obtain⟨j,e,p',h1,h2,h3⟩:=rApp_sound (nm:=nm) hT hH (n:=n) (t:=t) (s:=s) (x:=x) (λj=>by
  rw[hcalc2]
  cases j with
  | none=>exact⟨_,_,rfl,andP_mk hq hO1⟩
  | some j=>obtain⟨b',k',z⟩:=j;exact⟨_,_,rfl,andP_mk hq ⟨hO2,hO3,hO4⟩⟩) ty'
 rw[hcalc2]at h1
 cases j with
 | none =>
  simp only[Option.some.injEq,Prod.mk.injEq]at h1;obtain⟨rfl,rfl⟩:=h1;exact⟨⟨b,c,k,D,sz,updC F b (c+l*te.size) us⟩,_,_,hcalc _, .inl ⟨h2,rfl,rfl,rfl,rfl,rfl,rfl⟩,h3⟩
 | some j =>
  obtain⟨b',k',z⟩:=j;simp only[Option.some.injEq,Prod.mk.injEq]at h1;obtain⟨rfl,rfl⟩:=h1;obtain⟨h4,h5,h6,h7⟩:=h2;exact⟨⟨b',0,k',newD D b',newS sz b' (k'*te.size),newF F b' (appG F b c (l*te.size) us z)⟩,_,_,hcalc _, .inr ⟨h5,h4,rfl,h6,h7,rfl,rfl,z,rfl⟩,h3⟩
end
structure RCon where
 ι:Type
 ne:Nonempty ι
 c:ι->List SV->(Nm->Option Ob)->Nm->Option (Eff×Prop)
structure RConOk (P:Program) (f:Nat) (R:RCon):Prop where
 calls:∀ {W0:World} {Fr:Nat->Prop} {U:Nm->Prop} {H:Heap} {ρ:Rho} {w:World} {nm:Nm} {args:List SV},
  HSat W0 Fr U H ρ w->bdL U args->(∀ j,j<12->¬U (nm+j))->(∀ i,∃ e p,R.c i args (look H) nm=some (e,p)/\okP e.obl)->
  CallsV P f (denL ρ args).toArray w λen w'=>∃ i e p,R.c i args (look H) nm=some (e,p)/\p/\∃ ρ',(∀ n,U n->ρ' n=ρ n)/\HSat W0 Fr (UU U nm) (e.wr++(e.news++H)) ρ' w'/\
   ∃ v,e.val=some v/\v.bd (UU U nm)/\en=.returned (v.den ρ')
 loc:∀ {i:R.ι} {args:List SV} {rd rd':Nm->Option Ob} {nm:Nm} {e:Eff} {p:Prop},R.c i args rd nm=some (e,p)->(∀ n∈e.rds,rd' n=rd n)->R.c i args rd' nm=some (e,p)
abbrev RGam:=List (Nat×RCon)
def rcon:RGam->Nat->Option RCon
 | [],_=>none
 | (m,v) :: r,n=>match Nat.beq m n with
  | true=>some v
  | false=>rcon r n
def RGamOk(P:Program)(Γ:RGam):Prop:=∀ f c,rcon Γ f=some c->RConOk P f c
theorem RGamOk.nil{P:Program}:RGamOk P []:=λ_ _ h=>by simp[rcon]at h
theorem RGamOk.cons{P:Program}{f:Nat}{c:RCon}{Γ:RGam}(h1:RConOk P f c)(h2:RGamOk P Γ):RGamOk P ((f,c) :: Γ):=λu ui h=>by
 simp only[rcon]at h;cases hb:Nat.beq f u
 ·rw[hb]at h;exact h2 u ui h
 ·rw[hb]at h;have:f=u:=Nat.eq_of_beq_eq_true hb;subst this;simp only[Option.some.injEq]at h;subst h;exact h1
structure RCtx where
 G:Ctx
 R:RGam
 al:List (Nat×Nm)
 bs:List (Nat×Nm)
 ap:List (Nat×Nm)
structure RCtxOk (P:Program) (X:RCtx):Prop where
 G:CtxOk P X.G
 R:RGamOk P X.R
def nmAt:List (Nat×Nm)->Nat->Option Nm
 | [],_=>none
 | (m,v) :: r,n=>match Nat.beq m n with
  | true=>some v
  | false=>nmAt r n
def nrm(T:Tys)(t:Nat)(v:SV):SV×Option Prop :=
 match v with
 | .dv n x=>match ty T t with
  | some {tk:=.ptr _, ..}=>(.pb n (ptB x) (ptC x),some (isPt x))
  | _=>(v,none)
 | _=>(v,none)
def nrmL(T:Tys):List Nat->List SV->Option Prop->List SV×Option Prop
 | t :: ts,v :: vs,p=>((nrm T t v).1 :: (nrmL T ts vs (addP p (nrm T t v).2)).1,(nrmL T ts vs (addP p (nrm T t v).2)).2)
 | _,vs,p=>(vs,p)
theorem addP_ok{q p:Option Prop}(h:okP (addP q p)):okP q/\okP p:=by
 cases p with
 | none=>exact⟨h,trivial⟩
 | some p=>exact andP_ok h
theorem nrm_spec{T:Tys}{t:Nat}{v:SV}(h:okP (nrm T t v).2)(ρ:Rho)(U:Nm->Prop):(nrm T t v).1.den ρ=v.den ρ/\(v.bd U->(nrm T t v).1.bd U):=by
 unfold nrm at h ⊢;split
 ·rename_i n x;split
  ·rename_i hti;simp only[hti]at h;have h:isPt x:=h;refine⟨?_,λhb=>hb⟩;simp only[SV.den];rw[if_pos (isPt_one h)];exact h.symm
  ·exact⟨rfl,λhb=>hb⟩
 ·exact⟨rfl,λhb=>hb⟩
theorem nrmL_spec{T:Tys}(ρ:Rho)(U:Nm->Prop):∀ {ts:List Nat} {vs:List SV} {p:Option Prop},okP (nrmL T ts vs p).2->okP p/\denL ρ (nrmL T ts vs p).1=denL ρ vs/\(bdL U vs->bdL U (nrmL T ts vs p).1)
 | t :: ts,v :: vs,p,h=>by
  simp only[nrmL]at h ⊢;obtain⟨h1,h2,h3⟩:=nrmL_spec ρ U (ts:=ts) (vs:=vs) h;obtain⟨h4,h5⟩:=addP_ok h1;obtain⟨h6,h7⟩:=nrm_spec h5 ρ U;exact⟨h4,by simp[denL,h6,h2],λhb=>⟨h7 hb.1,h3 hb.2⟩⟩
 | [],vs,p,h=>⟨h,rfl,λhb=>hb⟩
 | _ :: _,[],p,h=>⟨h,rfl,λhb=>hb⟩
def rCall(T:Tys)(k:RCon)(c:Call)(i:k.ι)(ev:Operand->Option SV)(rd:Nm->Option Ob)(nm:Nm):Option (Eff×Prop) :=
 match evL ev c.args.toList with
 | some vs=>match k.c i (nrmL T c.argTypes.toList vs none).1 rd nm with
  | some (e,p)=>some (⟨e.val,e.wr,e.news,e.rds,addP e.obl (nrmL T c.argTypes.toList vs none).2⟩,p)
  | none=>none
 | none=>none
noncomputable def ropOf(X:RCtx)(o:Op):Option ROp :=
 match o with
 | .alloc t=>match nmAt X.al t with
  | some n=>some ⟨Nat,⟨0⟩,λb _ rd _=>rAlloc X.G.E.T n t b rd⟩
  | none=>none
 | .buildSlice t len parts=>match nmAt X.bs t with
  | some n=>some ⟨Nat,⟨0⟩,λb ev rd _=>match evParts ev parts.toList with
   | some ps=>rBuild X.G.E.T n t len ps b rd
   | none=>none⟩
  | none=>none
 | .call c=>match c.callee with
  | .value (.func f)=>match rcon X.R f with
   | some k=>some ⟨k.ι,k.ne,λi ev rd nm=>rCall X.G.E.T k c i ev rd nm⟩
   | none=>none
  | .builtin .append=>match c.argTypes.toList with
   | [t,t']=>match Nat.beq t t' with
    | true=>match nmAt X.ap t with
     | some n=>some ⟨ApI,⟨⟨0,0,0,λ_=>False,λ_=>0,λ_ _=>.bool false⟩⟩,λi ev rd _=>match evL ev c.args.toList with
      | some [s,x]=>rAppU X.G.E.T n t s x i rd
      | _=>none⟩
     | none=>none
    | false=>none
   | _=>none
  | _=>none
 | _=>none
end Go.Sx

namespace Go.Sx
open Go.RowKit
section
variable {P:Program}
theorem rAlloc_loc{T:Tys}{n t b:Nat}{rd rd':Nm->Option Ob}{e:Eff}{p:Prop}(h:rAlloc T n t b rd=some (e,p))(hr:∀ m∈e.rds,rd' m=rd m):rAlloc T n t b rd'=some (e,p):=by
 unfold rAlloc at h ⊢;split at h
 ·rename_i ti hti;split at h
  ·rename_i hall
   have key:rd' n=rd n:=by
    split at h
    ·simp only[Option.some.injEq,Prod.mk.injEq]at h;obtain⟨rfl,_⟩:=h;exact hr _ (by simp)
    ·cases h
   simp only[key];exact h
  ·cases h
 ·cases h
theorem rBuild_loc{T:Tys}{n t len b:Nat}{ps:List (Nat×SV)}{rd rd':Nm->Option Ob}{e:Eff}{p:Prop}(h:rBuild T n t len ps b rd=some (e,p))(hr:∀ m∈e.rds,rd' m=rd m):rBuild T n t len ps b rd'=some (e,p):=by
 unfold rBuild at h ⊢;split at h
 case h_2=>cases h
 rename_i el _ _ _ _ hti;split at h
 case h_2=>cases h
 rename_i tk sz by' z msx hte;split at h
 case h_2=>cases h
 rename_i hb;split at h
 case h_2=>cases h
 rename_i r hr';split at h
 case h_2=>cases h
 rename_i us q hus
 have key:rd' n=rd n:=by
  split at h
  ·simp only[Option.some.injEq,Prod.mk.injEq]at h;obtain⟨rfl,_⟩:=h;exact hr _ (by simp)
  ·cases h
 simp only[key];exact h
theorem rAppU_loc{T:Tys}{n t:Nat}{s x:SV}{i:ApI}{rd rd':Nm->Option Ob}{e:Eff}{p:Prop}(h:rAppU T n t s x i rd=some (e,p))(hr:∀ m∈e.rds,rd' m=rd m):rAppU T n t s x i rd'=some (e,p):=by
 unfold rAppU at h ⊢;split at h
 case h_2=>cases h
 rename_i el0 _ _ _ _ hti;split at h
 case h_2=>cases h
 rename_i te hte;split at h
 case h_2=>cases h
 rename_i m vs mn p hsrc;split at h
 case h_2=>cases h
 rename_i hb;split at h
 case h_2=>cases h
 rename_i us q hus;split at h
 case h_2=>cases h
 rename_i b c l k p1 hdst
 have key:rd' n=rd n/\rd' mn=rd mn:=by
  split at h
  ·simp only[Option.some.injEq,Prod.mk.injEq]at h;obtain⟨rfl,_⟩:=h;exact⟨hr _ (by simp),hr _ (by simp)⟩
  ·cases h
 simp only[evSrc_loc hsrc key.2,hb,hus,key.1];exact h
theorem ropOf_ok{X:RCtx}(hX:RCtxOk P X){op:Op}{R:ROp}(h:ropOf X op=some R):ROpOk P R op:=by
 unfold ropOf at h;split at h
 ·
  rename_i t;split at h
  ·rename_i n hn;simp only[Option.some.injEq]at h;subst h;refine⟨?_,λh _ hr=>rAlloc_loc h hr⟩;intro W0 Fr U H ρ w nm ev a o ho hH hfr hev hall next Q hk;obtain⟨e,p,h1,h2⟩:=hall (0:Nat);obtain⟨b,e',p',h3,h4,h5⟩:=rAlloc_sound (nm:=nm) hX.G.E.T hH h1;obtain⟨dst,op',ty',pos,after,guard⟩:=o;simp only at ho;subst ho;exact Done.wp (e:=e') h5 λρ' w' h6 h7=>hk b e' p' ρ' w' h3 h4 h6 h7
  ·cases h
 ·
  rename_i t len parts;split at h
  ·rename_i n hn;simp only[Option.some.injEq]at h;subst h;refine⟨?_,fun {i ev ev' rd rd' nm e p} h hv hr=>?_⟩
   ·intro W0 Fr U H ρ w nm ev a o ho hH hfr hev hall next Q hk;obtain⟨e,p,h1,h2⟩:=hall (0:Nat);simp only at h1;split at h1
    ·rename_i ps hps;obtain⟨h8,h9⟩:=evParts_sound hev hps;obtain⟨b,e',p',h3,h4,h5⟩:=rBuild_sound (nm:=nm) hX.G.E.T hH h1 h2;obtain⟨dst,op',ty',pos,after,guard⟩:=o;simp only at ho;subst ho;refine Done.wp (e:=e') ?_ λρ' w' h6 h7=>hk b e' p' ρ' w' (by simp only[hps];exact h3) h4 h6 h7
     rw[<-h8]at h5;have e1:(parts.map λp=>(p.1,a.eval p.2))=(parts.toList.map λp=>(p.1,a.eval p.2)).toArray:=by apply Array.ext';simp
     simp only[execOp];rw[show (parts.map λ(i,x)=>(i,a.eval x))=(parts.map λp=>(p.1,a.eval p.2))from rfl,e1];exact h5
    ·cases h1
   ·simp only at h ⊢;rw[evParts_congr (ev:=ev) (ev':=ev') λp hp=>hv p.2 (by simp[Op.operands];exact⟨p.1,by simpa using hp⟩)];split at h
    ·exact rBuild_loc h hr
    ·cases h
  ·cases h
 ·rename_i c;split at h
  ·
   rename_i f hf;split at h
   ·rename_i k hk;simp only[Option.some.injEq]at h;subst h;have hok:=hX.R f k hk;refine⟨?_,fun {i ev ev' rd rd' nm e p} h hv hr=>?_⟩
    ·intro W0 Fr U H ρ w nm ev a o ho hH hfr hev hall next Q hkk
     have hargs:∃ vs,evL ev c.args.toList=some vs:=by
      obtain⟨i0⟩:=k.ne;obtain⟨e,p,h1,_⟩:=hall i0;simp only[rCall]at h1;split at h1
      ·rename_i vs hvs;exact⟨vs,hvs⟩
      ·cases h1
     obtain⟨vs,hvs⟩:=hargs;obtain⟨h3,h4⟩:=evL_sound hev hvs
     have each:∀ i,∃ e p,k.c i (nrmL X.G.E.T c.argTypes.toList vs none).1 (look H) nm=some (e,p)/\okP e.obl/\okP (nrmL X.G.E.T c.argTypes.toList vs none).2:=by
      intro i;obtain⟨e,p,h1,h2⟩:=hall i;simp only[rCall,hvs]at h1;split at h1
      ·rename_i e' p' he;simp only[Option.some.injEq,Prod.mk.injEq]at h1;obtain⟨rfl,rfl⟩:=h1;obtain⟨h5,h6⟩:=addP_ok h2;exact⟨e',p',he,h5,h6⟩
      ·cases h1
     have hq:okP (nrmL X.G.E.T c.argTypes.toList vs none).2:=by
      obtain⟨i0⟩:=k.ne;obtain⟨_,_,_,_,h⟩:=each i0;exact h
     obtain⟨_,hden,hbd⟩:=nrmL_spec ρ U hq
     have hcalls:=hok.calls hH (hbd h4) hfr λi=>by
      obtain⟨e,p,h1,h2,_⟩:=each i;exact⟨e,p,h1,h2⟩
     rw[hden]at hcalls
     have hrun:(execOp a.eval o).run P w=(callFunc f (denL ρ vs).toArray).run P w:=by
      have e1:c.args.map a.eval=(denL ρ vs).toArray:=by rw[<-h3];apply Array.ext';simp
      simp only[execOp,ho,resolve,hf,Act.eval,e1,Deferred.ofValue,Sem.run_bind,Sem.run_pure,Result.andThen_ok,invoke];congr 2;simp
     unfold Oper.wp;rw[hrun];rcases hcalls with⟨⟨fn,hfn,hname,hbody⟩,hcalls⟩|⟨v,w',hv,i,e,p,h5,hp,ρ',h6,h7,v',h8,h9,h10⟩
     ·have hcf:(callFunc f (denL ρ vs).toArray).run P w=.ok (.enter f (denL ρ vs).toArray) w:=by
       simp only[callFunc,Sem.run_bind,run_program,Result.andThen_ok,hfn,hname,hbody,Bool.false_eq_true,if_false,Sem.run_pure]
      rw[hcf];show Calls P f _ w _;refine hcalls.mono ?_;rintro en w' ⟨i,e,p,h5,hp,ρ',h6,h7,v,h8,h9,rfl⟩;have:=hkk i ⟨e.val,e.wr,e.news,e.rds,addP e.obl (nrmL X.G.E.T c.argTypes.toList vs none).2⟩ p ρ' w' (by simp only[rCall,hvs,h5]) hp h6 h7;simp only[h8]at this;exact this h9
     ·rw[hv];have:=hkk i ⟨e.val,e.wr,e.news,e.rds,addP e.obl (nrmL X.G.E.T c.argTypes.toList vs none).2⟩ p ρ' w' (by simp only[rCall,hvs,h5]) hp h6 h7;simp only[h8]at this;injection h10 with h10
      rw[h10];exact this h9
    ·simp only[rCall]at h ⊢;rw[evL_congr (ev:=ev) (ev':=ev') λx hx=>hv x (by simp[Op.operands,Call.operands];exact .inr (by simpa using hx))];split at h
     ·split at h
      ·rename_i e' p' he;simp only[Option.some.injEq,Prod.mk.injEq]at h;obtain⟨rfl,rfl⟩:=h;rw[hok.loc he hr]
      ·cases h
     ·cases h
   ·cases h
  ·
   rename_i hf;split at h
   ·rename_i t t' hat;split at h
    ·rename_i htt;have:=Nat.eq_of_beq_eq_true htt;subst this;split at h
     ·rename_i n hn;simp only[Option.some.injEq]at h;subst h;refine⟨?_,fun {i ev ev' rd rd' nm e p} h hv hr=>?_⟩
      ·intro W0 Fr U H ρ w nm ev a o ho hH hfr hev hall next Q hk
       have hargs:∃ s x,evL ev c.args.toList=some [s,x]:=by
        obtain⟨e,p,h1,_⟩ := hall ⟨0,0,0,λ_=>False,λ_=>0,λ_ _=>.bool false⟩;simp only at h1;split at h1
        ·rename_i s x hvs;exact⟨s,x,hvs⟩
        ·cases h1
       obtain⟨s,x,hvs⟩:=hargs;obtain⟨h3,h4⟩:=evL_sound hev hvs;obtain⟨dst,op',ty',pos,after,guard⟩:=o;simp only at ho;subst ho
       obtain⟨i,e',p',h5,h6,h7⟩:=rAppU_sound (P:=P) (n:=n) (nm:=nm) (t:=t) (s:=s) (x:=x) hX.G.E.T hH (λi=>by
        obtain⟨e,p,h1,h2⟩:=hall i;simp only[hvs]at h1
        exact⟨e,p,h1,h2⟩) ty'
       refine Done.wp (e:=e') ?_ λρ' w' h8 h9=>hk i e' p' ρ' w' (by simp only[hvs];exact h5) h6 h8 h9
       have e1:c.args.map a.eval=(denL ρ [s,x]).toArray:=by rw[<-h3];apply Array.ext';simp
       have e2:c.argTypes = #[t,t]:=by apply Array.ext';simpa using hat
       simp only[execOp,resolve,hf,Sem.run_bind,Sem.run_pure,Result.andThen_ok,invoke,e1,e2,builtin];simp only[Sem.run_bind,Sem.run_pure]at h7;exact h7
      ·simp only at h ⊢;rw[evL_congr (ev:=ev) (ev':=ev') λx hx=>hv x (by simp[Op.operands,Call.operands];exact .inr (by simpa using hx))];split at h
       ·exact rAppU_loc h hr
       ·cases h
     ·cases h
    ·cases h
   ·cases h
  ·cases h
 ·cases h
end
end Go.Sx

namespace Go.Sx
open Go.RowKit
def setSl(S:St)(d:Nat)(v:SV):St:={S with sl:=(d,v) :: S.sl}
def St.app(S:St)(dst:Option Nat)(e:Eff):St :=
 {nt:=S.nt
  sl:=match dst with
   | some d=>match e.val with
    | some v=>(d,v) :: S.sl
    | none=>(d, .tup []) :: S.sl
   | none=>S.sl
  H:=e.wr++(e.news++S.H)
  N:=S.N+12}
def okK:Option Prop->Prop->Prop
 | none,q=>q
 | some p,q=>p/\q
theorem okK_iff{p:Option Prop}{q:Prop}(h:okK p q):okP p/\q:=by
 cases p with
 | none=>exact⟨trivial,h⟩
 | some p=>exact h
def dstOk(S:St):Option Nat->Bool
 | none=>true
 | some d=>Nat.blt d S.nt
def QuoRel(k:FloatKind)(a b r:Nat):Prop :=
 match floatBits .quo k a b with
 | some v=>r=v
 | none=>(k.decode r).isNaN=true
def fquo(S:St)(o:Op):Option (FloatKind×Nat×Nat) :=
 match o with
 | .binOp .quo _ x y _=>match opr S.sl x,opr S.sl y with
  | some (.flt k a),some (.flt k' b)=>match fkEq k k' with
   | true=>some (k,a,b)
   | false=>none
  | _,_=>none
 | _=>none
def stepK(G:Ctx)(o:Oper)(S:St)(K:St->Prop):Prop :=
 match dstOk S o.dst with
 | true=>match fquo S o.op with
  | some (k,a,b)=>∀ r,QuoRel k a b r->K (S.app o.dst (Eff.pure (.flt k r)))
  | none=>match evAny G (opr S.sl) (look S.H) S.N o.op with
   | some e=>okK e.obl (K (S.app o.dst e))
   | none=>False
 | false=>False
def skipK(o:Oper)(S:St)(K:St->Prop):Prop :=
 match dstOk S o.dst with
 | true=>match o.dst with
  | some d=>K (setSl S d (.tup []))
  | none=>K S
 | false=>False
def gdst(ops:List Oper)(j:Nat):Option Nat :=
 match nth ops j with
 | some o=>o.dst
 | none=>none
def operK(G:Ctx)(ops:List Oper)(o:Oper)(S:St)(K:St->Prop):Prop :=
 match o.guard with
 | none=>stepK G o S K
 | some (j,want)=>match gdst ops j with
  | none=>False
  | some d=>match slot S.sl d with
   | some .tt=>match want with
    | true=>stepK G o S K
    | false=>skipK o S K
   | some .ff=>match want with
    | true=>skipK o S K
    | false=>stepK G o S K
   | some (.tup [])=>skipK o S K
   | some (.bool b) =>
    (b=true->match want with
     | true=>stepK G o (setSl S d .tt) K
     | false=>skipK o (setSl S d .tt) K)/\
    (b=false->match want with
     | true=>skipK o (setSl S d .ff) K
     | false=>stepK G o (setSl S d .ff) K)
   | _=>False
def runOps(G:Ctx)(ops:List Oper):List Oper->St->(St->Prop)->Prop
 | [],S,K=>K S
 | o :: r,S,K=>operK G ops o S (λS'=>runOps G ops r S' K)
section
variable {P:Program} {W0:World} {Fr:Nat->Prop} {G:Ctx} {S:St} {ρ:Rho} {a:Act} {w:World}
def After(W0:World)(Fr:Nat->Prop)(N0:Nat)(ρ0:Rho)(K:St->Prop)(Q:Act->World->Prop):Prop :=
 ∀ S' ρ' a' w',K S'->Sat W0 Fr S' ρ' a' w'->N0<=S'.N->(∀ n,n<N0->ρ' n=ρ0 n)->Q a' w'
theorem const_opr{sl:Slots}{c:Value}{v:SV}(h:opr sl (.const c)=some v)(ρ:Rho):c=v.den ρ:=((ofV_den (v:=c) (s:=v) h ρ (λ_=>True)).1).symm
theorem Sat.put(h:Sat W0 Fr S ρ a w){d:Nat}(hd:d<S.nt){v:SV}(hv:v.bd (·< S.N)):Sat W0 Fr (setSl S d v) ρ (a.put (some d) (v.den ρ)) w :=
 ⟨h.h,h.s.put hd hv⟩
theorem Sat.set(h:Sat W0 Fr S ρ a w){d:Nat}{v u:SV}(hu:slot S.sl d=some u)(he:u.den ρ=v.den ρ)(hv:v.bd (·< S.N)):Sat W0 Fr (setSl S d v) ρ a w :=
 ⟨h.h,{h.s with
  bd:=λt x hx=>by
   simp only[setSl,slot_cons]at hx;split at hx
   ·cases hx;exact hv
   ·exact h.s.bd t x hx
  val:=λt x hx=>by
   simp only[setSl,slot_cons]at hx;split at hx
   ·rename_i e;subst e;cases hx;rw[<-he];exact h.s.val _ u hu
   ·exact h.s.val t x hx}⟩
theorem read_nan(f:Ieee.Format)(b:Nat)(h1:¬b % f.signWeight<f.binade)(h2:¬b % f.signWeight<f.infRung)(h3:¬b % f.signWeight=f.infRung):(f.read b).isNaN=true:=by
 simp[Ieee.Format.read,h1,h2,h3,Ieee.Datum.isNaN]
theorem nan_cut(k:FloatKind)(x y t:Nat):(k.decode ((Question.nanBits k x y).cut t)).isNaN=true:=by
 cases k
 ·have hs:(t / 2) % (2 ^ 23-1)<2 ^ 23-1:=Nat.mod_lt _ (by decide);simp only[Question.cut];generalize (t / 2) % (2 ^ 23-1)=s at hs
  have hm:((t % 2)*2 ^ 31+0x7f800000+1+s) % Ieee.single.signWeight=0x7f800000+1+s:=by
   rw[show Ieee.single.signWeight=2 ^ 31 by decide];omega
  refine read_nan Ieee.single _ ?_ ?_ ?_ <;> rw[hm]
  ·rw[show Ieee.single.binade=2 ^ 23 by decide];omega
  ·rw[show Ieee.single.infRung=0x7f800000 by decide];omega
  ·rw[show Ieee.single.infRung=0x7f800000 by decide];omega
 ·have hs:(t / 2) % (2 ^ 52-1)<2 ^ 52-1:=Nat.mod_lt _ (by decide);simp only[Question.cut];generalize (t / 2) % (2 ^ 52-1)=s at hs
  have hm:((t % 2)*2 ^ 63+0x7ff0000000000000+1+s) % Ieee.double.signWeight=0x7ff0000000000000+1+s:=by
   rw[show Ieee.double.signWeight=2 ^ 63 by decide];omega
  refine read_nan Ieee.double _ ?_ ?_ ?_ <;> rw[hm]
  ·rw[show Ieee.double.binade=2 ^ 52 by decide];omega
  ·rw[show Ieee.double.infRung=0x7ff0000000000000 by decide];omega
  ·rw[show Ieee.double.infRung=0x7ff0000000000000 by decide];omega
theorem run_quo{P:Program}(w:World)(t:TypeId)(k:FloatKind)(a b:Nat):∃ r w',(binOp .quo t (.float k a) (.float k b)).run P w=.ok (.float k r) w'/\QuoRel k a b r/\(w'=w∨w'=w.drew):=by
 unfold QuoRel
 cases hq:floatBits .quo k a b with
 | some v=>exact⟨v,w,run_float_arith w .quo t k a b v hq,rfl, .inl rfl⟩
 | none =>
  have hd:k.format.div a b=none:=hq;refine⟨(Question.nanBits k a b).cut (w.tape w.drawn (.nanBits k a b)),w.drew,?_,nan_cut k a b _, .inr rfl⟩;simp[binOp,Op.floatArith,hd,Question.forced]
theorem stepK_sound(hG:CtxOk P G){N0:Nat}{ρ0:Rho}{o:Oper}{K:St->Prop}(h:stepK G o S K)(hS:Sat W0 Fr S ρ a w)(hN:N0<=S.N)(hρ:∀ n,n<N0->ρ n=ρ0 n)
  {next:Act->World->Prop} {Q:Exit->Act->World->Prop} (hK:After W0 Fr N0 ρ0 K next):o.wp P a w next Q:=by
 unfold stepK at h;split at h
 ·rename_i hd;split at h
  ·rename_i k x y hq;unfold fquo at hq;split at hq
   ·rename_i t xo yo yt hop;split at hq
    ·rename_i k1 a1 k2 b1 hx hy;split at hq
     ·rename_i hk;have:=fkEq_eq hk;subst this;simp only[Option.some.injEq,Prod.mk.injEq]at hq;obtain⟨rfl,rfl,rfl⟩:=hq;obtain⟨r,w',hrun,hrel,hw'⟩:=run_quo (P:=P) w t k1 a1 b1;have e1:=(opr_sat hS.s hx).1;have e2:=(opr_sat hS.s hy).1;simp only[SV.den]at e1 e2
      have hexec:(execOp a.eval o).run P w=.ok (.value (.float k1 r)) w':=by
       simp only[execOp,hop,e1,e2,eqGuard_quo,Sem.run_bind,Sem.run_pure,Result.andThen_ok,hrun]
      have hS':Sat W0 Fr S ρ a w':=by
       rcases hw' with rfl|rfl
       ·exact hS
       ·exact⟨hS.h.drew,hS.s⟩
      unfold Oper.wp;rw[hexec];have hH':=hS'.h.mono (U':=(·< S.N+12)) (λn hn=>Nat.lt_of_lt_of_le hn (Nat.le_add_right _ _));have hs':=hS'.s.mono (U':=(·< S.N+12)) (λn hn=>Nat.lt_of_lt_of_le hn (Nat.le_add_right _ _)) (λ_ _=>rfl);refine hK (S.app o.dst (Eff.pure (.flt k1 r))) ρ _ _ (h r hrel) ⟨hH',?_⟩ (Nat.le_trans hN (Nat.le_add_right _ _)) hρ
      cases hdst:o.dst with
      | none=>simpa [St.app,Act.put]using hs'
      | some d =>
       have hd':d<S.nt:=by rw[hdst]at hd;simpa [dstOk]using hd
       exact hs'.put (v:=.flt k1 r) hd' trivial
     ·cases hq
    ·cases hq
   ·cases hq
  split at h
  ·rename_i e he;obtain⟨h1,h2⟩:=okK_iff h;refine evAny_sound hG hS.h (λj _=>by simp) (λx v hx=>opr_sat hS.s hx) (λc v hc=>const_opr hc ρ) he h1 (λρ' w' hr hH=>?_)
   have hU:∀ n,UU (·< S.N) S.N n->n<S.N+12:=by
    intro n hn;rcases hn with hn|hn
    ·exact Nat.lt_of_lt_of_le hn (Nat.le_add_right _ _)
    ·exact hn.2
   have hH':=hH.mono (U':=(·< S.N+12)) hU;have hs':=hS.s.mono (U':=(·< S.N+12)) (λn hn=>Nat.lt_of_lt_of_le hn (Nat.le_add_right _ _)) hr;have hρ':∀ n,n<N0->ρ' n=ρ0 n:=λn hn=>(hr n (Nat.lt_of_lt_of_le hn hN)).trans (hρ n hn)
   have hN':N0<=S.N+12:=Nat.le_trans hN (Nat.le_add_right _ _);split
   ·rename_i v hv;intro hb;refine hK (S.app o.dst e) ρ' _ _ h2 ⟨hH',?_⟩ hN' hρ'
    cases hdst:o.dst with
    | none=>simpa [St.app,Act.put]using hs'
    | some d =>
     have hd':d<S.nt:=by rw[hdst]at hd;simpa [dstOk]using hd
     simp only[St.app,hv];exact hs'.put hd' (SV.bd_mono hU v hb)
   ·rename_i hv;refine hK (S.app o.dst e) ρ' _ _ h2 ⟨hH',?_⟩ hN' hρ'
    cases hdst:o.dst with
    | none=>simpa [St.app,Act.put]using hs'
    | some d =>
     have hd':d<S.nt:=by rw[hdst]at hd;simpa [dstOk]using hd
     simp only[St.app,hv];exact hs'.put (v:=.tup []) hd' (by simp[SV.bd,bdL])
  ·exact h.elim
 ·exact h.elim
theorem skipK_sound{N0:Nat}{ρ0:Rho}{o:Oper}{K:St->Prop}(h:skipK o S K)(hS:Sat W0 Fr S ρ a w)(hN:N0<=S.N)(hρ:∀ n,n<N0->ρ n=ρ0 n)
  {next:Act->World->Prop} (hK:After W0 Fr N0 ρ0 K next):next (a.put o.dst undef) w:=by
 unfold skipK at h;split at h
 ·rename_i hd;split at h
  ·rename_i d hdst;rw[hdst]at hd ⊢;have hd':d<S.nt:=by simpa [dstOk]using hd
   exact hK _ ρ _ _ h (hS.put (v:=.tup []) hd' (by simp[SV.bd,bdL])) hN hρ
  ·rename_i hdst;rw[hdst];exact hK _ ρ _ _ h hS hN hρ
 ·exact h.elim
def turn(P:Program)(ops:Array Oper)(o:Oper)(a:Act)(w:World)(next:Act->World->Prop)(Q:Exit->Act->World->Prop):Prop :=
 if Region.wanted o (yielded ops a.tmps)then o.wp P a w next Q∨(o.asks P a w/\LetsOut Q)else next (a.put o.dst undef) w
theorem operK_sound(hG:CtxOk P G){N0:Nat}{ρ0:Rho}{ops:List Oper}{o:Oper}{K:St->Prop}(h:operK G ops o S K)(hS:Sat W0 Fr S ρ a w)(hN:N0<=S.N)(hρ:∀ n,n<N0->ρ n=ρ0 n)
  {next:Act->World->Prop} {Q:Exit->Act->World->Prop} (hK:After W0 Fr N0 ρ0 K next):turn P ops.toArray o a w next Q:=by
 unfold operK at h;unfold turn;split at h
 ·rename_i hg;rw[if_pos (by simp[Region.wanted,hg])];exact .inl (stepK_sound hG h hS hN hρ hK)
 ·rename_i j want hg;split at h
  ·exact h.elim
  ·rename_i d hd
   have hdst:(ops.toArray[j]?).bind (·.dst)=some d:=by
    unfold gdst at hd;rw[nth_eq]at hd;split at hd
    ·rename_i o' ho';simp[ho',hd]
    ·cases hd
   have wantedIs:∀(v:Value),a.tmps[d]? = some v->Region.wanted o (yielded ops.toArray a.tmps)=((match v with | .bool b=>some b|_=>none)==some want):=by
    intro v hv;simp only[Region.wanted,hg,yielded,hdst,Option.bind_some,hv];cases v <;> rfl
   split at h
   ·rename_i hv;have hw:=wantedIs _ (hS.s.val _ _ hv);simp only[SV.den]at hw;split at h
    ·rw[hw];exact .inl (stepK_sound hG h hS hN hρ hK)
    ·rw[hw];exact skipK_sound h hS hN hρ hK
   ·rename_i hv;have hw:=wantedIs _ (hS.s.val _ _ hv);simp only[SV.den]at hw;split at h
    ·rw[hw];exact skipK_sound h hS hN hρ hK
    ·rw[hw];exact .inl (stepK_sound hG h hS hN hρ hK)
   ·rename_i hv;have hw:=wantedIs _ (hS.s.val _ _ hv);simp only[SV.den]at hw;rw[hw];exact skipK_sound h hS hN hρ hK
   ·rename_i b hv;have hw:=wantedIs _ (hS.s.val _ _ hv);simp only[SV.den]at hw;rw[hw];cases b
    ·have h2:=h.2 rfl;have hS':Sat W0 Fr (setSl S d .ff) ρ a w:=hS.set hv rfl trivial;split at h2
     ·exact skipK_sound h2 hS' hN hρ hK
     ·exact .inl (stepK_sound hG h2 hS' hN hρ hK)
    ·have h1:=h.1 rfl;have hS':Sat W0 Fr (setSl S d .tt) ρ a w:=hS.set hv rfl trivial;split at h1
     ·exact .inl (stepK_sound hG h1 hS' hN hρ hK)
     ·exact skipK_sound h1 hS' hN hρ hK
   ·exact h.elim
theorem runOps_sound(hG:CtxOk P G){N0:Nat}{ρ0:Rho}{ops:List Oper}{Q:Exit->Act->World->Prop}:∀(l:List Oper)(k:Nat) {S:St} {ρ:Rho} {a:Act} {w:World} {K:St->Prop},(∀ j,l[j]? = ops[k+j]?)->
  runOps G ops l S K->Sat W0 Fr S ρ a w->N0<=S.N->(∀ n,n<N0->ρ n=ρ0 n)->After W0 Fr N0 ρ0 K (Q .normal)->wpOps P ops.toArray Q (List.range' k l.length) a w
 | [],k,S,ρ,a,w,K,_,h,hS,hN,hρ,hK=>hK S ρ a w h hS hN hρ
 | o :: r,k,S,ρ,a,w,K,hl,h,hS,hN,hρ,hK=>by
  have ho:ops[k]? = some o:=by simpa using (hl 0).symm
  simp only[List.length_cons,List.range'_succ];unfold wpOps;simp only[List.getElem?_toArray,ho];refine operK_sound hG h hS hN hρ λS' ρ' a' w' h' hS' hN' hρ'=>?_
  refine runOps_sound hG r (k+1) (λj=>?_) h' hS' hN' hρ' hK;have:=hl (j+1);simp only[List.getElem?_cons_succ]at this;rw[this];congr 1;omega
end
end Go.Sx

namespace Go.Sx
open Go.RowKit
abbrev AS:=Slots×Heap
abbrev Ent:=Nat×Oper×Eff
def skipE:Eff:=⟨some (.tup []),[],[],[],none⟩
def lookB:List (Nat×Bool)->Nat->Option Bool
 | [],_=>none
 | (m,v) :: r,n=>match Nat.beq m n with
  | true=>some v
  | false=>lookB r n
def litB:Bool->SV
 | true=>.tt
 | false=>.ff
def andO(p:Option Prop)(q:Prop):Option Prop :=
 match p with
 | none=>some q
 | some p=>some (p/\q)
def decV(dec:List (Nat×Bool))(i:Nat)(e:Eff):Eff :=
 match lookB dec i with
 | none=>e
 | some c=>match e with
  | ⟨some (.bool b),wr,news,rds,obl⟩=>⟨some (litB c),wr,news,rds,andO obl (b=c)⟩
  | e=>e
def run1(G:Ctx)(N:Nat)(dec:List (Nat×Bool))(i:Nat)(o:Oper)(s:AS):Option Eff :=
 match evAny G (opr s.1) (look s.2) (N+12*i) o.op with
 | some e=>some (decV dec i e)
 | none=>none
def step1(G:Ctx)(nt N:Nat)(ops:List Oper)(dec:List (Nat×Bool))(i:Nat)(o:Oper)(s:AS):Option Eff :=
 match (match o.dst with|none=>true|some d=>Nat.blt d nt)with
 | false=>none
 | true=>match o.guard with
  | none=>run1 G N dec i o s
  | some (j,want)=>match gdst ops j with
   | none=>none
   | some d=>match slot s.1 d with
    | some .tt=>match want with
     | true=>run1 G N dec i o s
     | false=>some skipE
    | some .ff=>match want with
     | true=>some skipE
     | false=>run1 G N dec i o s
    | some (.tup [])=>some skipE
    | _=>none
def app1(o:Oper)(e:Eff)(s:AS):AS :=
 (match o.dst with
  | some d=>match e.val with
   | some v=>(d,v) :: s.1
   | none=>(d, .tup []) :: s.1
  | none=>s.1,e.wr++(e.news++s.2))
def names:Heap->List Nm
 | []=>[]
 | (n,_) :: r=>n :: names r
def foot(e:Eff):List Nm:=names e.wr++names e.news
theorem look_append(n:Nm):∀(a b:Heap),look (a++b) n=match look a n with|some o=>some o|none=>look b n
 | [],b=>by simp[look]
 | (m,o) :: r,b=>by
  simp only[List.cons_append,look_cons,look_append n r b];split <;> rfl
theorem look_names{n:Nm}:∀ {a:Heap},n∉names a->look a n=none
 | [],_=>rfl
 | (m,o) :: r,h=>by
  simp only[names,List.mem_cons,not_or]at h;rw[look_cons,if_neg (λe=>h.1 e.symm),look_names h.2]
theorem look_app1{o:Oper}{e:Eff}{s:AS}{n:Nm}(h:n∉foot e):look (app1 o e s).2 n=look s.2 n:=by
 simp only[foot,List.mem_append,not_or]at h;simp only[app1,look_append,look_names h.1,look_names h.2]
theorem slot_app1{o:Oper}{e:Eff}{s:AS}{t:Nat}(h:o.dst≠some t):slot (app1 o e s).1 t=slot s.1 t:=by
 simp only[app1]
 cases hd:o.dst with
 | none=>rfl
 | some d =>
  have:d≠t:=λe=>h (by rw[hd,e])
  cases e.val <;> simp[slot_cons,this]
def Same(s s':AS):Prop:=(∀ t,slot s'.1 t=slot s.1 t)/\∀ n,look s'.2 n=look s.2 n
theorem Same.refl(s:AS):Same s s:=⟨λ_=>rfl,λ_=>rfl⟩
theorem Same.trans{a b c:AS}(h:Same a b)(h':Same b c):Same a c:=⟨λt=>(h'.1 t).trans (h.1 t),λn=>(h'.2 n).trans (h.2 n)⟩
theorem Same.app{s s':AS}(h:Same s s')(o:Oper)(e:Eff):Same (app1 o e s) (app1 o e s'):=by
 refine⟨λt=>?_,λn=>?_⟩
 ·simp only[app1]
  cases o.dst with
  | none=>exact h.1 t
  | some d=>cases e.val <;> simp[slot_cons,h.1 t]
 ·simp only[app1,look_append,h.2 n]
section
variable {P:Program} {G:Ctx} {nt N:Nat} {ops:List Oper} {dec:List (Nat×Bool)}
theorem run1_loc(hG:GamOk P G.Γ){i:Nat}{o:Oper}{s s':AS}{e:Eff}(h:run1 G N dec i o s=some e)(hs:∀ t,Operand.tmp t∈o.op.operands->slot s'.1 t=slot s.1 t)(hr:∀ n∈e.rds,look s'.2 n=look s.2 n) :
  run1 G N dec i o s'=some e:=by
 unfold run1 at *;split at h
 ·rename_i e1 h1;simp only[Option.some.injEq]at h
  have hrd:e.rds=e1.rds:=by
   rw[<-h];unfold decV;split
   ·rfl
   ·split <;> rfl
  rw[hrd]at hr;have:=evAny_loc hG (ev':=opr s'.1) (rd':=look s'.2) h1 (λx hx=>by cases x <;> first|exact hs _ hx|rfl) hr;rw[this,<-h]
 ·cases h
theorem step1_loc(hG:GamOk P G.Γ){i:Nat}{o:Oper}{s s':AS}{e:Eff}(h:step1 G nt N ops dec i o s=some e)(hs:∀ t∈o.looksAt ops.toArray,slot s'.1 t=slot s.1 t)(hr:∀ n∈e.rds,look s'.2 n=look s.2 n) :
  step1 G nt N ops dec i o s'=some e:=by
 have hop:∀ t,Operand.tmp t∈o.op.operands->slot s'.1 t=slot s.1 t:=λt ht=>hs t (by
  simp only[Oper.looksAt,List.mem_append,List.mem_filterMap]
  exact .inl ⟨.tmp t,by simpa using ht,rfl⟩)
 unfold step1 at *;split at h
 ·cases h
 ·split at h
  ·exact run1_loc hG h hop hr
  ·rename_i j want hg;split at h
   ·cases h
   ·rename_i d hgd
    have hdst:(ops.toArray[j]?).bind (·.dst)=some d:=by
     unfold gdst at hgd;rw[nth_eq]at hgd;split at hgd
     ·rename_i o' ho';simp[ho',hgd]
     ·cases hgd
    have hsd:slot s'.1 d=slot s.1 d:=hs d (by
     simp only[Oper.looksAt,hg,List.mem_append];refine .inr ?_
     rw[hdst];simp)
    rw[hsd];split at h
    ·split at h
     ·exact run1_loc hG h hop hr
     ·exact h
    ·split at h
     ·exact h
     ·exact run1_loc hG h hop hr
    ·exact h
    ·cases h
structure Indep (ops:List Oper) (oi oj:Oper) (ei ej:Eff):Prop where
 ap:oi.apart ops.toArray oj=true
 rd:∀ n∈ej.rds,n∉foot ei
 dr:∀ n∈ei.rds,n∉foot ej
 wr:∀ n∈foot ei,n∉foot ej
theorem swap(hG:GamOk P G.Γ){i j:Nat}{oi oj:Oper}{s:AS}{ei ej:Eff}(hi:step1 G nt N ops dec i oi s=some ei)(hj:step1 G nt N ops dec j oj (app1 oi ei s)=some ej)(h:Indep ops oi oj ei ej) :
  step1 G nt N ops dec j oj s=some ej/\step1 G nt N ops dec i oi (app1 oj ej s)=some ei/\Same (app1 oj ej (app1 oi ei s)) (app1 oi ei (app1 oj ej s)):=by
 obtain⟨h1,h2,h3⟩:=Oper.apart_spec h.ap;refine⟨?_,?_,?_,?_⟩
 ·exact step1_loc hG hj (λt ht=>(slot_app1 (λhd=>h1 t hd ht)).symm) (λn hn=>(look_app1 (h.rd n hn)).symm)
 ·exact step1_loc hG hi (λt ht=>slot_app1 (λhd=>h3 t hd ht)) (λn hn=>look_app1 (h.dr n hn))
 ·intro t;by_cases ht:oi.dst=some t
  ·have hne:oj.dst≠some t:=h2 t ht;rw[slot_app1 hne];simp only[app1,ht];cases ei.val <;> simp[slot_cons]
  ·rw[slot_app1 ht];by_cases ht2:oj.dst=some t
   ·simp only[app1,ht2];cases ej.val <;> simp[slot_cons]
   ·rw[slot_app1 ht2,slot_app1 ht2,slot_app1 ht]
 ·intro n;by_cases hn:n∈foot ei
  ·have hn2:=h.wr n hn;rw[look_app1 hn2];simp only[app1,look_append];simp only[foot,List.mem_append,not_or]at hn hn2
   cases hw:look ei.wr n with
   | some x=>rfl
   | none =>
    cases hw2:look ei.news n with
    | some x=>rfl
    | none=>simp[look_names hn2.1,look_names hn2.2]
  ·rw[look_app1 hn];simp only[app1,look_append];simp only[foot,List.mem_append,not_or]at hn;simp[look_names hn.1,look_names hn.2]
def Runs(G:Ctx)(nt N:Nat)(ops:List Oper)(dec:List (Nat×Bool)):List Ent->AS->Prop
 | [],_=>True
 | (i,o,e) :: r,s=>step1 G nt N ops dec i o s=some e/\Runs G nt N ops dec r (app1 o e s)
def fin:List Ent->AS->AS
 | [],s=>s
 | (_,o,e) :: r,s=>fin r (app1 o e s)
theorem Runs.same(hG:GamOk P G.Γ):∀ {l:List Ent} {s s':AS},Same s s'->Runs G nt N ops dec l s->Runs G nt N ops dec l s'/\Same (fin l s) (fin l s')
 | [],s,s',h,_=>⟨trivial,h⟩
 | (i,o,e) :: r,s,s',h,hr=>by
  obtain⟨h1,h2⟩:=hr;have h3:=step1_loc hG h1 (s':=s') (λt _=>h.1 t) (λn _=>h.2 n);obtain⟨h4,h5⟩:=Runs.same hG (h.app o e) h2;exact⟨⟨h3,h4⟩,h5⟩
theorem bubble(hG:GamOk P G.Γ){i:Nat}{o:Oper}{e:Eff}{post:List Ent}:∀ {pre:List Ent} {s:AS},Runs G nt N ops dec (pre++(i,o,e) :: post) s->(∀ x∈pre,Indep ops x.2.1 o x.2.2 e)->
  step1 G nt N ops dec i o s=some e/\Runs G nt N ops dec (pre++post) (app1 o e s)/\Same (fin (pre++(i,o,e) :: post) s) (fin (pre++post) (app1 o e s))
 | [],s,h,_=>⟨h.1,h.2,Same.refl _⟩
 | (k,ok,ek) :: pre,s,h,hi=>by
  obtain⟨h1,h2⟩:=h;obtain⟨h3,h4,h5⟩:=bubble hG h2 (λx hx=>hi x (by simp[hx]));obtain⟨h6,h7,h8⟩:=swap hG h1 h3 (hi (k,ok,ek) (by simp));obtain⟨h9,h10⟩:=Runs.same hG h8 h4;exact⟨h6,⟨h7,h9⟩,h5.trans h10⟩
end
end Go.Sx

namespace Go.Sx
open Go.RowKit
def maskOf(acc:List Nat)(o:Oper):Nat :=
 o.after.toList.foldl (λs e=>match Region.binds .any e with
  | true=>(s ||| 2 ^ e.on) ||| ((nth acc e.on).getD 0)
  | false=>s) 0
def befGo:List Oper->List Nat->List Nat
 | [],acc=>acc
 | o :: r,acc=>befGo r (acc++[maskOf acc o])
theorem befGo_take:∀(l:List Oper)(acc:List Nat),(befGo l acc).take acc.length=acc
 | [],acc=>by simp[befGo]
 | o :: r,acc=>by
  have h:=befGo_take r (acc++[maskOf acc o]);simp only[befGo]
  have h2:(befGo r (acc++[maskOf acc o])).take acc.length=((befGo r (acc++[maskOf acc o])).take (acc++[maskOf acc o]).length).take acc.length:=by
   rw[List.take_take];congr 1;simp
  rw[h2,h];simp
theorem befGo_get:∀(l:List Oper)(acc:List Nat)(i:Nat)(o:Oper),l[i]? = some o->(befGo l acc)[acc.length+i]? = some (maskOf ((befGo l acc).take (acc.length+i)) o)
 | [],acc,i,o,h=>by simp at h
 | x :: r,acc,0,o,h=>by
  simp only[List.getElem?_cons_zero,Option.some.injEq]at h;subst h;simp only[befGo,Nat.add_zero];have h1:=befGo_take r (acc++[maskOf acc x])
  have h2:(befGo r (acc++[maskOf acc x]))[acc.length]? = ((befGo r (acc++[maskOf acc x])).take (acc++[maskOf acc x]).length)[acc.length]? := by
   rw[List.getElem?_take,if_pos (by simp)]
  have h3:(befGo r (acc++[maskOf acc x])).take acc.length=acc:=by
   have:=befGo_take (x :: r) acc;simpa [befGo]using this
  rw[h2,h1,h3];simp
 | x :: r,acc,i+1,o,h=>by
  have:=befGo_get r (acc++[maskOf acc x]) i o (by simpa using h);simp only[befGo];rw[show (acc++[maskOf acc x]).length+i=acc.length+(i+1) by simp;omega]at this;exact this
theorem mask_spec{acc:List Nat}{k:Nat}:∀(es:List Edge)(s:Nat),(es.foldl (λs e=>match Region.binds .any e with
  | true=>(s ||| 2 ^ e.on) ||| ((nth acc e.on).getD 0)
  | false=>s) s).testBit k=true->s.testBit k=true∨∃ e∈es,Region.binds .any e=true/\(k=e.on∨((acc[e.on]?).getD 0).testBit k=true)
 | [],s,h=>.inl h
 | e :: r,s,h=>by
  simp only[List.foldl_cons]at h;rcases mask_spec r _ h with h1|⟨e',he',h2⟩
  ·split at h1
   ·rename_i hb;simp only[Nat.testBit_or,Bool.or_eq_true,nth_eq]at h1;rcases h1 with(h1|h1)|h1
    ·exact .inl h1
    ·rw[Nat.testBit_two_pow]at h1;exact .inr ⟨e,by simp,hb, .inl (of_decide_eq_true h1).symm⟩
    ·exact .inr ⟨e,by simp,hb, .inr h1⟩
   ·exact .inl h1
  ·exact .inr ⟨e',by simp[he'],h2⟩
theorem bef_spec{ops:List Oper}{L:Nat->Prop}(hL:∀ i o,ops[i]? = some o->L i->∀ e∈o.after,Region.binds .any e=true->L e.on):∀(i:Nat)(o:Oper),ops[i]? = some o->(∀ e∈o.after,Region.binds .any e=true->L e.on)->
  ∀ k,(((befGo ops [])[i]?).getD 0).testBit k=true->L k:=by
 intro i
 induction i using Nat.strongRecOn with
 | _ i ih =>
  intro o ho hr k hk;have hg:=befGo_get ops [] i o ho;simp only[List.length_nil,Nat.zero_add]at hg;rw[hg,Option.getD_some,maskOf]at hk;rcases mask_spec _ _ hk with h0|⟨e,he,hb,h1⟩
  ·simp at h0
  ·have hle:L e.on:=hr e (by simpa using he) hb;rcases h1 with rfl|h1
   ·exact hle
   ·rw[List.getElem?_take]at h1;split at h1
    ·rename_i hlt
     cases hoe:ops[e.on]? with
     | none =>
      have hlen:∀(l:List Oper)(acc:List Nat),(befGo l acc).length=acc.length+l.length:=by
       intro l
       induction l with
       | nil=>intro acc;simp[befGo]
       | cons x r ihr=>intro acc;simp[befGo,ihr];omega
      have:ops.length<=e.on:=List.getElem?_eq_none_iff.1 hoe;rw[List.getElem?_eq_none (by rw[hlen];simpa using this)]at h1;simp at h1
     | some oe=>exact ih e.on hlt oe hoe (λe' he' hb'=>hL e.on oe hoe hle e' he' hb') k h1
    ·simp at h1
def allBack(ops:List Oper):Bool:=go ops 0
 where
 go:List Oper->Nat->Bool
  | [],_=>true
  | o :: r,i=>(o.after.toList.all λe=>match Region.binds .any e with
   | true=>Nat.blt e.on i
   | false=>true)&&go r (i+1)
theorem allBack_go:∀(l:List Oper)(k:Nat),allBack.go l k=true->∀ i o,l[i]? = some o->∀ e∈o.after,Region.binds .any e=true->e.on<k+i
 | [],_,_,i,o,h=>by simp at h
 | x :: r,k,h,i,o,ho=>by
  simp only[allBack.go,Bool.and_eq_true]at h
  cases i with
  | zero =>
   simp only[List.getElem?_cons_zero,Option.some.injEq]at ho;subst ho;intro e he hb;have:=List.all_eq_true.1 h.1 e (by simpa using he);rw[hb]at this;simpa using this
  | succ i =>
   intro e he hb;have:=allBack_go r (k+1) h.2 i o (by simpa using ho) e he hb;omega
def disjN(a b:List Nm):Bool:=a.all λx=>b.all λy => !(Nat.beq x y)
theorem disjN_spec{a b:List Nm}(h:disjN a b=true):∀ x∈a,x∉b:=by
 intro x hx hb;have:=List.all_eq_true.1 (List.all_eq_true.1 h x hx) x hb;simp at this
def indepB(ops:List Oper)(x y:Ent):Bool :=
 x.2.1.apart ops.toArray y.2.1&&(disjN (foot x.2.2) (y.2.2.rds++foot y.2.2)&&disjN (foot y.2.2) x.2.2.rds)
theorem indepB_spec{ops:List Oper}{x y:Ent}(h:indepB ops x y=true):Indep ops x.2.1 y.2.1 x.2.2 y.2.2:=by
 simp only[indepB,Bool.and_eq_true]at h;obtain⟨h1,h2,h3⟩:=h;have h4:=disjN_spec h2;have h5:=disjN_spec h3;exact⟨h1,λn hn hf=>h4 n hf (by simp[hn]),λn hn hf=>h5 n hf hn,λn hn hf=>h4 n hn (by simp[hf])⟩
def chkPairs(ops:List Oper)(ms:List Nat):List Ent->Bool
 | []=>true
 | x :: r=>(r.all λy=>((nth ms y.1).getD 0).testBit x.1||indepB ops x y)&&chkPairs ops ms r
def chk(ops:List Oper)(log:List Ent):Bool:=allBack ops&&chkPairs ops (befGo ops []) log
def Pair(ops:List Oper)(x y:Ent):Prop:=(((befGo ops [])[y.1]?).getD 0).testBit x.1=true∨Indep ops x.2.1 y.2.1 x.2.2 y.2.2
theorem chkPairs_spec{ops:List Oper}:∀ {l:List Ent},chkPairs ops (befGo ops []) l=true->l.Pairwise (Pair ops)
 | [],_=>.nil
 | x :: r,h=>by
  simp only[chkPairs,Bool.and_eq_true]at h;refine .cons (λy hy=>?_) (chkPairs_spec h.2);have:=List.all_eq_true.1 h.1 y hy;simp only[Bool.or_eq_true,nth_eq]at this;exact this.imp id indepB_spec
def UD(N M:Nat)(l:List Ent):Nm->Prop:=λ(n:Nat)=>n<N+12*M/\∀ x∈l,¬(N+12*x.1<=n/\n<N+12*x.1+12)
section
variable {P:Program} {W0:World} {Fr:Nat->Prop} {G:Ctx} {nt N:Nat} {ops:List Oper} {dec:List (Nat×Bool)}
theorem decV_spec{i : Nat}{e : Eff}(h : okP (decV dec i e).obl) : okP e.obl /\ (decV dec i e).wr = e.wr /\ (decV dec i e).news = e.news /\
   (match e.val with
    | some v => ∃ v', (decV dec i e).val = some v' /\ (∀ ρ : Rho, v'.den ρ = v.den ρ) /\ ∀ U : Nm -> Prop, v.bd U -> v'.bd U
    | none => (decV dec i e).val = none) := by
 unfold decV at h ⊢;split
 · refine ⟨by simpa [*] using h, rfl, rfl, ?_⟩
   cases e.val with
   | none => rfl
   | some v => exact ⟨v, rfl, λ_ => rfl, λ_ h => h⟩
 · rename_i c hc
   simp only [hc] at h;split at h
   · rename_i b wr news rds obl
     have h2 : okP obl /\ b = c := by
       cases obl with
       | none => exact ⟨trivial, h⟩
       | some p => exact h
     refine ⟨h2.1, rfl, rfl, litB c, rfl, λρ => ?_, λU _ => ?_⟩
     · rw [h2.2]; cases c <;> rfl
     · cases c <;> trivial
   · refine ⟨h, rfl, rfl, ?_⟩
     cases e.val with
     | none => rfl
     | some v => exact ⟨v, rfl, λ_ => rfl, λ_ h => h⟩
structure ASat (W0:World) (Fr:Nat->Prop) (nt:Nat) (U:Nm->Prop) (s:AS) (ρ:Rho) (a:Act) (w:World):Prop where
 h:HSat W0 Fr U s.2 ρ w
 s:SSat U nt s.1 ρ a
theorem turn1(hG:CtxOk P G){M:Nat}{l l':List Ent}{i:Nat}{o:Oper}{e:Eff}{s:AS}{ρ:Rho}{a:Act}{w:World}
  (h:step1 G nt N ops dec i o s=some e) (ho:okP e.obl) (hS:ASat W0 Fr nt (UD N M l) s ρ a w) (hin:(i,o,e)∈l) (hiM:i<M) (hsub:∀ x∈l',x∈l) (hne:∀ x∈l',x.1≠i)
  {next:Act->World->Prop} {Q:Exit->Act->World->Prop}
  (hk:∀ ρ' a' w',ASat W0 Fr nt (UD N M l') (app1 o e s) ρ' a' w'->(∀ n,UD N M l n->ρ' n=ρ n)->next a' w'):turn P ops.toArray o a w next Q:=by
 have hmono:∀ n,UD N M l n->UD N M l' n:=λn hn=>⟨hn.1,λx hx=>hn.2 x (hsub x hx)⟩
 have hU:∀ n,UU (UD N M l) (N+12*i) n->UD N M l' n:=by
  intro n hn;rcases hn with hn|hn
  ·exact hmono n hn
  ·refine⟨?_,λx hx hx2=>?_⟩
   ·have h1:n<N+12*i+12:=hn.2;omega
   ·have h1:N+12*i<=n/\n<N+12*i+12:=hn;have:=hne x hx;omega
 have hn4:∀ j:Nat,j<12->¬UD N M l (N+12*i+j):=by
  intro j hj hu;exact hu.2 (i,o,e) hin ⟨Nat.le_add_right _ _,by show N+12*i+j<N+12*i+12;omega⟩
 have skip:e=skipE->(∀ d,o.dst=some d->d<nt)->next (a.put o.dst undef) w:=by
  intro he hd;subst he;refine hk ρ _ w ⟨?_,?_⟩ (λ_ _=>rfl)
  ·exact hS.h.mono hmono
  ·have hs:=hS.s.mono hmono (λ_ _=>rfl);simp only[app1,skipE]
   cases hdst:o.dst with
   | none=>simpa [Act.put]using hs
   | some d=>exact hs.put (v:=.tup []) (hd d hdst) (by simp[SV.bd,bdL])
 have run:run1 G N dec i o s=some e->(∀ d,o.dst=some d->d<nt)->o.wp P a w next Q:=by
  intro hr hd;unfold run1 at hr;split at hr
  ·rename_i e1 h1;simp only[Option.some.injEq]at hr;subst hr;obtain⟨h2,h3,h4,h5⟩:=decV_spec ho;refine evAny_sound hG hS.h hn4 (λx v hx=>opr_sat hS.s hx) (λc v hc=>const_opr hc ρ) h1 h2 (λρ' w' hr' hH=>?_)
   have hH':HSat W0 Fr (UD N M l') ((decV dec i e1).wr++((decV dec i e1).news++s.2)) ρ' w':=by
    rw[h3,h4];exact hH.mono hU
   have hs:=hS.s.mono hmono hr';split
   ·rename_i v hv;intro hb;rw[hv]at h5;obtain⟨v',h6,h7,h8⟩:=h5;refine hk ρ' _ w' ⟨hH',?_⟩ hr';rw[<-h7 ρ'];simp only[app1,h6]
    cases hdst:o.dst with
    | none=>simpa [Act.put]using hs
    | some d=>exact hs.put (hd d hdst) (h8 _ (SV.bd_mono hU v hb))
   ·rename_i hv;rw[hv]at h5;refine hk ρ' _ w' ⟨hH',?_⟩ hr';simp only[app1,h5]
    cases hdst:o.dst with
    | none=>simpa [Act.put]using hs
    | some d=>exact hs.put (v:=.tup []) (hd d hdst) (by simp[SV.bd,bdL])
  ·cases hr
 unfold step1 at h;split at h
 ·cases h
 ·rename_i hd0
  have hd:∀ d,o.dst=some d->d<nt:=by
   intro d hd;rw[hd]at hd0;simpa using hd0
  unfold turn;split at h
  ·rename_i hg;rw[if_pos (by simp[Region.wanted,hg])];exact .inl (run h hd)
  ·rename_i j want hg;split at h
   ·cases h
   ·rename_i d hgd
    have hdst:(ops.toArray[j]?).bind (·.dst)=some d:=by
     unfold gdst at hgd;rw[nth_eq]at hgd;split at hgd
     ·rename_i o' ho';simp[ho',hgd]
     ·cases hgd
    have wantedIs:∀(v:Value),a.tmps[d]? = some v->Region.wanted o (yielded ops.toArray a.tmps)=((match v with | .bool b=>some b|_=>none)==some want):=by
     intro v hv;simp only[Region.wanted,hg,yielded,hdst,Option.bind_some,hv];cases v <;> rfl
    split at h
    ·rename_i hv;have hw:=wantedIs _ (hS.s.val _ _ hv);simp only[SV.den]at hw;split at h
     ·rw[hw];exact .inl (run h hd)
     ·rw[hw];exact skip (by simpa using h.symm) hd
    ·rename_i hv;have hw:=wantedIs _ (hS.s.val _ _ hv);simp only[SV.den]at hw;split at h
     ·rw[hw];exact skip (by simpa using h.symm) hd
     ·rw[hw];exact .inl (run h hd)
    ·rename_i hv;have hw:=wantedIs _ (hS.s.val _ _ hv);simp only[SV.den]at hw;rw[hw];exact skip (by simpa using h.symm) hd
    ·cases h
end
end Go.Sx

namespace Go.Sx
open Go.RowKit
def oblAll:List Ent->Prop
 | []=>True
 | (_,_,e) :: r=>okP e.obl/\oblAll r
theorem oblAll_mem:∀ {l:List Ent},oblAll l->∀ x∈l,okP x.2.2.obl
 | [],_,x,hx=>by simp at hx
 | (i,o,e) :: r,h,x,hx=>by
  rcases List.mem_cons.1 hx with rfl|hx
  ·exact h.1
  ·exact oblAll_mem h.2 x hx
section
variable {P:Program} {W0:World} {Fr:Nat->Prop} {G:Ctx} {nt N:Nat} {ops:List Oper} {dec:List (Nat×Bool)}
theorem any_order(hG:CtxOk P G)(hback:allBack ops=true){F:AS}{ρ0:Rho}{N0:Nat}(hN0:N0<=N){Q:Exit->Act->World->Prop}
  (hQ:∀ ρ a w,ASat W0 Fr nt (UD N ops.length []) F ρ a w->(∀ n,n<N0->ρ n=ρ0 n)->Q .normal a w) :
  ∀(fuel:Nat)(l:List Ent)(listed:Array Bool)(s:AS)(ρ:Rho)(a:Act)(w:World),l.length=fuel->listed.size=ops.length->
   (∀ j,j<ops.length->listed[j]? = some (!decide (∃ x∈l,x.1=j)))->
   (∀ x∈l,ops[x.1]? = some x.2.1)->l.Pairwise (λx y=>x.1<y.1)->l.Pairwise (Pair ops)->(∀ x∈l,okP x.2.2.obl)->
   (∀ i o,ops[i]? = some o->listed.getD i false=true->∀ e∈o.after,Region.binds .any e=true->listed.getD e.on false=true)->
   Runs G nt N ops dec l s->Same F (fin l s)->ASat W0 Fr nt (UD N ops.length l) s ρ a w->(∀ n,n<N0->ρ n=ρ0 n)->
   wpAny P .any ops.toArray Q fuel listed a w:=by
 have hb:=allBack_go ops 0 hback;intro fuel
 induction fuel with
 | zero =>
  intro l listed s ρ a w hl hsz hli hops hsort hpair hobl hcl hruns hF hS hρ;have hl0:l=[]:=List.length_eq_zero_iff.1 hl;subst hl0;refine⟨?_,hQ ρ a w ?_ hρ⟩
  ·refine List.eq_nil_iff_forall_not_mem.2 λj hj=>?_
   rw[mem_ready]at hj;obtain⟨h1,o,ho,_⟩:=hj
   have hlt:j<ops.length:=by
    have:=(Array.getElem?_eq_some_iff.1 ho).1;simpa using this
   have:=hli j hlt;simp[Array.getD_eq_getD_getElem?,this]at h1
  ·exact⟨hS.h.lookEq λn=>(hF.2 n).symm,{hS.s with
    bd:=λt v hv=>hS.s.bd t v (by rw[<-hv];exact hF.1 t)
    val:=λt v hv=>hS.s.val t v (by rw[<-hv];exact hF.1 t)}⟩
 | succ fuel ih =>
  intro l listed s ρ a w hl hsz hli hops hsort hpair hobl hcl hruns hF hS hρ
  have pend:∀ j,j<ops.length->(listed.getD j true=false↔∃ x∈l,x.1=j):=by
   intro j hj;simp[Array.getD_eq_getD_getElem?,hli j hj]
  have isl:∀ j,listed.getD j false=true↔(j<ops.length/\¬∃ x∈l,x.1=j):=by
   intro j;by_cases hj:j<ops.length
   ·simp[Array.getD_eq_getD_getElem?,hli j hj,hj]
   ·have:listed[j]? = none:=Array.getElem?_eq_none (by omega);simp[Array.getD_eq_getD_getElem?,this,hj]
  refine⟨λhre=>?_,λi hi=>?_⟩
  ·exfalso
   match l,hl with
   | x :: r,hl =>
    have hox:=hops x (by simp);have hlt:x.1<ops.length:=(List.getElem?_eq_some_iff.1 hox).1
    have hmem:x.1∈Region.ready .any ops.toArray listed:=by
     rw[mem_ready];refine⟨(pend x.1 hlt).2 ⟨x,by simp,rfl⟩,x.2.1,by simpa using hox,λe he hbe=>?_⟩;have h1:=hb x.1 x.2.1 hox e he hbe;rw[isl];refine⟨by omega,λ⟨y,hy,hye⟩=>?_⟩;rcases List.mem_cons.1 hy with rfl|hy
     ·omega
     ·have:=(List.pairwise_cons.1 hsort).1 y hy;omega
    rw[hre]at hmem;cases hmem
  ·rw[mem_ready]at hi;obtain⟨h1,o',ho',hedges⟩:=hi
   have hlt:i<ops.length:=by
    have:=(Array.getElem?_eq_some_iff.1 ho').1;simpa using this
   obtain⟨x,hx,hxi⟩:=(pend i hlt).1 h1;have hox:=hops x hx;rw[hxi]at hox;have ho2:ops[i]? = some o':=by simpa using ho'
   rw[ho2]at hox;injection hox with hox
   obtain⟨i',o,e⟩:=x;simp only at hxi hox;subst hxi;subst hox;obtain⟨pre,post,rfl⟩:=List.append_of_mem hx
   have hind:∀ y∈pre,Indep ops y.2.1 o' y.2.2 e:=by
    intro y hy;have hp:=(List.pairwise_append.1 hpair).2.2 y hy (i',o',e) (by simp);rcases hp with hp|hp
    ·exfalso;have:=bef_spec (ops:=ops) (L:=λj=>listed.getD j false=true) hcl i' o' ho2 hedges y.1 hp;rw[isl]at this;exact this.2 ⟨y,by simp[hy],rfl⟩
    ·exact hp
   obtain⟨h2,h3,h4⟩:=bubble hG.Γ hruns hind
   have hsub:∀ y∈pre++post,y∈pre++(i',o',e) :: post:=by
    intro y hy;rcases List.mem_append.1 hy with hy|hy <;> simp[hy]
   have hne:∀ y∈pre++post,y.1≠i':=by
    intro y hy;have hs:=List.pairwise_append.1 hsort;rcases List.mem_append.1 hy with hy|hy
    ·exact Nat.ne_of_lt (hs.2.2 y hy (i',o',e) (by simp))
    ·exact Nat.ne_of_gt ((List.pairwise_cons.1 hs.2.1).1 y hy)
   have hsublist:(pre++post).Sublist (pre++(i',o',e) :: post):=by
    refine List.Sublist.append (List.Sublist.refl _) (List.sublist_cons_self _ _)
   unfold wpOp;rw[ho'];refine turn1 hG (l:=pre++(i',o',e) :: post) (l':=pre++post) (M:=ops.length) h2 (hobl _ hx) hS hx hlt hsub hne λρ' a' w' hS' hρ'=>?_
   refine ih (pre++post) _ _ ρ' a' w' ?_ ?_ ?_ (λy hy=>hops y (hsub y hy)) (hsort.sublist hsublist) (hpair.sublist hsublist) (λy hy=>hobl y (hsub y hy)) ?_ h3 (hF.trans h4) hS' ?_
   ·simp only[List.length_append,List.length_cons]at hl ⊢;omega
   ·simpa using hsz
   ·intro j hj;by_cases hji:i'=j
    ·subst hji;rw[Array.getElem?_setIfInBounds_self_of_lt (by omega)];congr 1;have:¬∃ y∈pre++post,y.1=i':=λ⟨y,hy,hye⟩=>hne y hy hye
     rw[decide_eq_false this];rfl
    ·rw[Array.getElem?_setIfInBounds_ne hji,hli j hj];congr 2
     apply decide_eq_decide.2
     constructor
     ·rintro⟨y,hy,hye⟩;rcases List.mem_append.1 hy with hy|hy
      ·exact⟨y,by simp[hy],hye⟩
      ·rcases List.mem_cons.1 hy with rfl|hy
       ·exact absurd hye hji
       ·exact⟨y,by simp[hy],hye⟩
     ·rintro⟨y,hy,hye⟩;exact⟨y,hsub y hy,hye⟩
   ·intro k ok hok hk e' he' hb';by_cases hki:i'=k
    ·subst hki;rw[ho2]at hok;injection hok with hok
     subst hok;exact getD_set_true (hedges e' he' hb')
    ·rw[getD_set_ne false hki]at hk;exact getD_set_true (hcl k ok hok hk e' he' hb')
   ·intro n hn
    have hu:UD N ops.length (pre++(i',o',e) :: post) n:=by
     have hnN:n<N:=Nat.lt_of_lt_of_le hn hN0;refine⟨Nat.lt_of_lt_of_le hnN (Nat.le_add_right _ _),λy _ hy=>?_⟩;have h5:N+12*y.1<=n:=hy.1;have h6:N<=n:=Nat.le_trans (Nat.le_add_right _ _) h5;exact absurd hnN (Nat.not_lt.2 h6)
    exact(hρ' n hu).trans (hρ n hn)
end
inductive DR where
 | done (s:AS) (log:List Ent)
 | need (j:Nat) (b:Bool)
 | fail
def flag(ops:List Oper)(o:Oper)(s:AS):DR :=
 match o.guard with
 | some (j,_)=>match gdst ops j with
  | some d=>match slot s.1 d with
   | some (.bool b)=>.need j b
   | _=>.fail
  | none=>.fail
 | none=>.fail
def runD(G:Ctx)(nt N:Nat)(ops:List Oper)(dec:List (Nat×Bool)):List Oper->Nat->AS->DR
 | [],_,s=>.done s []
 | o :: r,i,s=>match step1 G nt N ops dec i o s with
  | some e=>match runD G nt N ops dec r (i+1) (app1 o e s)with
   | .done s' log=>.done s' ((i,o,e) :: log)
   | x=>x
  | none=>flag ops o s
def okAll:List Ent->Prop->Prop
 | [],q=>q
 | (_,_,e) :: r,q=>okK e.obl (okAll r q)
theorem okAll_iff:∀ {l:List Ent} {q:Prop},okAll l q->oblAll l/\q
 | [],_,h=>⟨trivial,h⟩
 | (_,_,_) :: _,_,h=>⟨⟨(okK_iff h).1,(okAll_iff (okK_iff h).2).1⟩,(okAll_iff (okK_iff h).2).2⟩
def expl(G:Ctx)(ops:List Oper)(S:St)(K:St->Prop):Nat->List (Nat×Bool)->Prop
 | fuel,dec=>match runD G S.nt S.N ops dec ops 0 (S.sl,S.H)with
  | .done s log=>okAll log (chk ops log=true/\K {nt:=S.nt,sl:=s.1,H:=s.2,N:=S.N+12*ops.length})
  | .need j b=>match fuel with
   | 0=>False
   | f+1=>(b=true->expl G ops S K f ((j,true) :: dec))/\(b=false->expl G ops S K f ((j,false) :: dec))
  | .fail=>False
section
variable {P:Program} {W0:World} {Fr:Nat->Prop} {G:Ctx}
theorem runD_spec{nt N:Nat}{ops:List Oper}{dec:List (Nat×Bool)}:∀(l:List Oper)(k:Nat)(s s':AS)(log:List Ent),(∀ j,l[j]? = ops[k+j]?)->runD G nt N ops dec l k s=.done s' log->
  Runs G nt N ops dec log s/\fin log s=s'/\(∀ x∈log,ops[x.1]? = some x.2.1/\k<=x.1/\x.1<k+l.length)/\log.Pairwise (λx y=>x.1<y.1)/\(∀ j,k<=j->j<k+l.length->∃ x∈log,x.1=j)/\log.length=l.length
 | [],k,s,s',log,_,h=>by
  simp only[runD,DR.done.injEq]at h;obtain⟨rfl,rfl⟩:=h;exact⟨trivial,rfl,by simp, .nil,λj h1 h2=>by simp at h2;omega,rfl⟩
 | o :: r,k,s,s',log,hl,h=>by
  have ho:ops[k]? = some o:=by simpa using (hl 0).symm
  simp only[runD]at h;split at h
  ·rename_i e he;split at h
   ·rename_i s1 log1 h1;simp only[DR.done.injEq]at h;obtain⟨rfl,rfl⟩:=h
    obtain⟨h2,h3,h4,h5,h6,h7⟩:=runD_spec r (k+1) _ _ _ (λj=>by
     have:=hl (j+1);simp only[List.getElem?_cons_succ]at this
     rw[this];congr 1;omega) h1
    refine⟨⟨he,h2⟩,h3,?_,?_,?_,by simp[h7]⟩
    ·intro x hx;rcases List.mem_cons.1 hx with rfl|hx
     ·exact⟨ho,Nat.le_refl _,by simp⟩
     ·obtain⟨h8,h9,h10⟩:=h4 x hx;exact⟨h8,by omega,by simp;omega⟩
    ·refine .cons (λx hx=>?_) h5;have:=(h4 x hx).2.1;show k<x.1;omega
    ·intro j hj1 hj2;by_cases hjk:j=k
     ·exact⟨(k,o,e),by simp,hjk.symm⟩
     ·obtain⟨x,hx,hxj⟩:=h6 j (by omega) (by simp at hj2;omega);exact⟨x,by simp[hx],hxj⟩
   ·rename_i x hno
    cases hx:runD G nt N ops dec r (k+1) (app1 o e s)with
    | done s1 log1=>exact absurd hx (hno s1 log1)
    | need j b=>rw[hx]at h;cases h
    | fail=>rw[hx]at h;cases h
  ·unfold flag at h;split at h
   ·split at h
    ·split at h <;> cases h
    ·cases h
   ·cases h
theorem expl_sound(hG:CtxOk P G)(hm:P.follows .mixedOrders=true){N0:Nat}{ρ0:Rho}{id:Nat}{ops:Array Oper}{S:St}{K:St->Prop}{Q:Exit->Act->World->Prop}:∀(fuel:Nat)(dec:List (Nat×Bool)),expl G ops.toList S K fuel dec->
  ∀ {ρ:Rho} {a:Act} {w:World},Sat W0 Fr S ρ a w->N0<=S.N->(∀ n,n<N0->ρ n=ρ0 n)->After W0 Fr N0 ρ0 K (Q .normal)->(Code.region id ops true).wp P Q a w:=by
 intro fuel
 induction fuel with
 | zero =>
  intro dec h;unfold expl at h;split at h
  ·rename_i s log hrun;intro ρ a w hS hN hρ hK;obtain⟨hobl,hchk,hq⟩:=okAll_iff h;simp only[chk,Bool.and_eq_true]at hchk;obtain⟨h2,h3,h4,h5,h6,h7⟩:=runD_spec ops.toList 0 _ _ _ (λj=>by simp) hrun;refine wp_region_any hm ?_;have:=any_order (Q:=Q) (W0:=W0) (Fr:=Fr) (F:=s) (ρ0:=ρ0) hG hchk.1 hN (λρ' a' w' hS' hρ'=>?_) log.length log (Array.replicate ops.size false) (S.sl,S.H) ρ a {w with drawn:=w.drawn+1} rfl (by simp) ?_ (λx hx=>(h4 x hx).1) h5 (chkPairs_spec hchk.2) (oblAll_mem hobl) ?_ h2 ?_ ?_ hρ
   ·rw[h7]at this;simpa using this
   ·refine hK _ ρ' a' w' hq ⟨?_,?_⟩ ?_ hρ'
    ·exact hS'.h.mono λn hn=>hn.1
    ·exact hS'.s.mono (λn hn=>hn.1) (λ_ _=>rfl)
    ·exact Nat.le_trans hN (Nat.le_add_right _ _)
   ·intro j hj;have hj':j<ops.size:=by simpa using hj
    obtain⟨x,hx,hxj⟩:=h6 j (Nat.zero_le _) (by simpa using hj);have:∃ x∈log,x.1=j:=⟨x,hx,hxj⟩;simp[hj',this]
   ·intro i o _ hl;rw[Array.getD_eq_getD_getElem?,Array.getElem?_replicate]at hl;split at hl <;> simp at hl
   ·rw[h3];exact Same.refl _
   ·have hU:∀ n,n<S.N->UD S.N ops.toList.length log n:=λn hn=>⟨Nat.lt_of_lt_of_le hn (Nat.le_add_right _ _),λx _ hx=>absurd (Nat.lt_of_lt_of_le hn (Nat.le_trans (Nat.le_add_right _ _) hx.1)) (Nat.lt_irrefl _)⟩
    exact⟨(hS.h.mono hU).drew,hS.s.mono hU (λ_ _=>rfl)⟩
  ·exact h.elim
  ·exact h.elim
 | succ fuel ih =>
  intro dec h;unfold expl at h;split at h
  ·rename_i s log hrun;intro ρ a w hS hN hρ hK;obtain⟨hobl,hchk,hq⟩:=okAll_iff h;simp only[chk,Bool.and_eq_true]at hchk;obtain⟨h2,h3,h4,h5,h6,h7⟩:=runD_spec ops.toList 0 _ _ _ (λj=>by simp) hrun;refine wp_region_any hm ?_;have:=any_order (Q:=Q) (W0:=W0) (Fr:=Fr) (F:=s) (ρ0:=ρ0) hG hchk.1 hN (λρ' a' w' hS' hρ'=>?_) log.length log (Array.replicate ops.size false) (S.sl,S.H) ρ a {w with drawn:=w.drawn+1} rfl (by simp) ?_ (λx hx=>(h4 x hx).1) h5 (chkPairs_spec hchk.2) (oblAll_mem hobl) ?_ h2 ?_ ?_ hρ
   ·rw[h7]at this;simpa using this
   ·refine hK _ ρ' a' w' hq ⟨?_,?_⟩ ?_ hρ'
    ·exact hS'.h.mono λn hn=>hn.1
    ·exact hS'.s.mono (λn hn=>hn.1) (λ_ _=>rfl)
    ·exact Nat.le_trans hN (Nat.le_add_right _ _)
   ·intro j hj;have hj':j<ops.size:=by simpa using hj
    obtain⟨x,hx,hxj⟩:=h6 j (Nat.zero_le _) (by simpa using hj);have:∃ x∈log,x.1=j:=⟨x,hx,hxj⟩;simp[hj',this]
   ·intro i o _ hl;rw[Array.getD_eq_getD_getElem?,Array.getElem?_replicate]at hl;split at hl <;> simp at hl
   ·rw[h3];exact Same.refl _
   ·have hU:∀ n,n<S.N->UD S.N ops.toList.length log n:=λn hn=>⟨Nat.lt_of_lt_of_le hn (Nat.le_add_right _ _),λx _ hx=>absurd (Nat.lt_of_lt_of_le hn (Nat.le_trans (Nat.le_add_right _ _) hx.1)) (Nat.lt_irrefl _)⟩
    exact⟨(hS.h.mono hU).drew,hS.s.mono hU (λ_ _=>rfl)⟩
  ·rename_i j b hrun;intro ρ a w hS hN hρ hK
   cases b with
   | true=>exact ih _ (h.1 rfl) hS hN hρ hK
   | false=>exact ih _ (h.2 rfl) hS hN hρ hK
  ·exact h.elim
end
end Go.Sx

namespace Go.Sx
open Go.RowKit
def SV.rawS:SV->Bool
 | .pb _ _ _=>true
 | .dv _ _=>true
 | .slb _ _ _ _ _=>true
 | _=>false
def selV(ev:Operand->Option SV)(x:Operand):Bool :=
 match ev x with
 | some v=>v.rawS
 | none=>false
def rawSel(ev:Operand->Option SV)(o:Op):Bool :=
 match o with
 | .load _ (.global _)=>true
 | .load _ x=>selV ev x
 | .store _ x _=>selV ev x
 | .binOp _ _ x _ _=>selV ev x
 | .nilCheck x=>selV ev x
 | .slice _ x _ _ _=>selV ev x
 | .fieldAddr _ x _=>selV ev x
 | .indexAddr _ x _=>selV ev x
 | .typeAssert x _ _ _=>selV ev x
 | .call c=>match c.callee with
  | .builtin .len=>match c.args.toList with
   | [x]=>selV ev x
   | _=>false
  | .builtin .copy=>match c.args.toList with
   | [_,x]=>selV ev x
   | _=>false
  | _=>false
 | _=>false
def evX(X:RCtx)(ev:Operand->Option SV)(rd:Nm->Option Ob)(nm:Nm)(o:Op):Option Eff :=
 match rawSel ev o with
 | true=>rOp X.G.E ev rd o
 | false=>evAny X.G ev rd nm o
theorem rawSel_congr{ev ev':Operand->Option SV}{o:Op}(hv:∀ x∈o.operands,ev' x=ev x):rawSel ev' o=rawSel ev o:=by
 have key:∀ x,x∈o.operands->selV ev' x=selV ev x:=λx hx=>by unfold selV;rw[hv x hx]
 cases o <;> try rfl
 case load t x=>cases x <;> first|rfl|exact key _ (by simp[Op.operands])
 case call c =>
  simp only[rawSel];split
  ·split
   ·rename_i x hx
    exact key x (by
     simp[Op.operands,Call.operands];refine .inr ?_;have:x∈c.args.toList:=by rw[hx];simp
     simpa using this)
   ·rfl
  ·split
   ·rename_i y x hx
    exact key x (by
     simp[Op.operands,Call.operands];refine .inr ?_;have:x∈c.args.toList:=by rw[hx];simp
     simpa using this)
   ·rfl
  ·rfl
 all_goals exact key _ (by simp[Op.operands])
section
variable {P:Program} {X:RCtx}
theorem evX_loc(hX:RCtxOk P X){ev ev':Operand->Option SV}{rd rd':Nm->Option Ob}{nm:Nm}{e:Eff}{o:Op}(h:evX X ev rd nm o=some e)(hv:∀ x∈o.operands,ev' x=ev x)(hr:∀ n∈e.rds,rd' n=rd n):evX X ev' rd' nm o=some e:=by
 unfold evX at *;rw[rawSel_congr hv];split at h
 ·exact rOp_loc h hv hr
 ·exact evAny_loc hX.G.Γ h hv hr
theorem evX_sound(hX : RCtxOk P X){W0 : World}{Fr : Nat -> Prop}{U : Nm -> Prop}{H : Heap}{ρ : Rho}{w : World}{nm : Nm}(hH : HSat W0 Fr U H ρ w)(hn : ∀ j, j < 12 -> ¬ U (nm + j)){ev : Operand -> Option SV}{a : Act}(hev : ∀ x v, ev x = some v -> a.eval x = v.den ρ /\ v.bd U)
   (hc : ∀ c v, ev (.const c) = some v -> c = v.den ρ) {o : Oper} {e : Eff} (h : evX X ev (look H) nm o.op = some e) (ho : okP e.obl)
   {next : Act -> World -> Prop} {Q : Exit -> Act -> World -> Prop}
   (hk : ∀ ρ' w', (∀ n, U n -> ρ' n = ρ n) -> HSat W0 Fr (UU U nm) (e.wr ++ (e.news ++ H)) ρ' w' ->
     (match e.val with
      | some v => v.bd (UU U nm) -> next (a.put o.dst (v.den ρ')) w'
      | none => next (a.put o.dst undef) w')) : o.wp P a w next Q := by
 unfold evX at h;split at h
 · exact Done.wp (rOp_sound (nm := nm) hX.G.E hH hev h ho) hk
 · exact evAny_sound hX.G hH hn hev hc h ho hk
def run1X(X:RCtx)(N:Nat)(dec:List (Nat×Bool))(i:Nat)(o:Oper)(s:AS):Option Eff :=
 match evX X (opr s.1) (look s.2) (N+12*i) o.op with
 | some e=>some (decV dec i e)
 | none=>none
def step1X(X:RCtx)(nt N:Nat)(ops:List Oper)(dec:List (Nat×Bool))(i:Nat)(o:Oper)(s:AS):Option Eff :=
 match (match o.dst with|none=>true|some d=>Nat.blt d nt)with
 | false=>none
 | true=>match o.guard with
  | none=>run1X X N dec i o s
  | some (j,want)=>match gdst ops j with
   | none=>none
   | some d=>match slot s.1 d with
    | some .tt=>match want with
     | true=>run1X X N dec i o s
     | false=>some skipE
    | some .ff=>match want with
     | true=>some skipE
     | false=>run1X X N dec i o s
    | some (.tup [])=>some skipE
    | _=>none
variable {nt N:Nat} {ops:List Oper} {dec:List (Nat×Bool)}
theorem run1X_loc(hX:RCtxOk P X){i:Nat}{o:Oper}{s s':AS}{e:Eff}(h:run1X X N dec i o s=some e)(hs:∀ t,Operand.tmp t∈o.op.operands->slot s'.1 t=slot s.1 t)(hr:∀ n∈e.rds,look s'.2 n=look s.2 n) :
  run1X X N dec i o s'=some e:=by
 unfold run1X at *;split at h
 ·rename_i e1 h1;simp only[Option.some.injEq]at h
  have hrd:e.rds=e1.rds:=by
   rw[<-h];unfold decV;split
   ·rfl
   ·split <;> rfl
  rw[hrd]at hr;have:=evX_loc hX (ev':=opr s'.1) (rd':=look s'.2) h1 (λx hx=>by cases x <;> first|exact hs _ hx|rfl) hr;rw[this,<-h]
 ·cases h
theorem step1X_loc(hX:RCtxOk P X){i:Nat}{o:Oper}{s s':AS}{e:Eff}(h:step1X X nt N ops dec i o s=some e)(hs:∀ t∈o.looksAt ops.toArray,slot s'.1 t=slot s.1 t)(hr:∀ n∈e.rds,look s'.2 n=look s.2 n) :
  step1X X nt N ops dec i o s'=some e:=by
 have hop:∀ t,Operand.tmp t∈o.op.operands->slot s'.1 t=slot s.1 t:=λt ht=>hs t (by
  simp only[Oper.looksAt,List.mem_append,List.mem_filterMap]
  exact .inl ⟨.tmp t,by simpa using ht,rfl⟩)
 unfold step1X at *;split at h
 ·cases h
 ·split at h
  ·exact run1X_loc hX h hop hr
  ·rename_i j want hg;split at h
   ·cases h
   ·rename_i d hgd
    have hdst:(ops.toArray[j]?).bind (·.dst)=some d:=by
     unfold gdst at hgd;rw[nth_eq]at hgd;split at hgd
     ·rename_i o' ho';simp[ho',hgd]
     ·cases hgd
    have hsd:slot s'.1 d=slot s.1 d:=hs d (by
     simp only[Oper.looksAt,hg,List.mem_append];refine .inr ?_
     rw[hdst];simp)
    rw[hsd];split at h
    ·split at h
     ·exact run1X_loc hX h hop hr
     ·exact h
    ·split at h
     ·exact h
     ·exact run1X_loc hX h hop hr
    ·exact h
    ·cases h
abbrev ChF:=(Operand->Option SV)->(Nm->Option Ob)->Nm->Option (Eff×Prop)
def ChLoc(g:ChF)(op:Op):Prop:=∀ {ev ev':Operand->Option SV} {rd rd':Nm->Option Ob} {nm:Nm} {e:Eff} {p:Prop},g ev rd nm=some (e,p)->(∀ x∈op.operands,ev' x=ev x)->(∀ n∈e.rds,rd' n=rd n)->g ev' rd' nm=some (e,p)
def StepC(X:RCtx)(nt N:Nat)(ops:List Oper)(dec:List (Nat×Bool))(r:Nat)(g:ChF)(asm:Prop)(i:Nat)(o:Oper)(s:AS)(e:Eff):Prop :=
 (i=r/\(∀ d,o.dst=some d->d<nt)/\o.guard=none/\g (opr s.1) (look s.2) (N+12*i)=some (e,asm))∨(i≠r/\step1X X nt N ops dec i o s=some e)
variable {r:Nat} {g:ChF} {asm:Prop}
theorem StepC.loc(hX:RCtxOk P X)(hg:∀ o,ops[r]? = some o->ChLoc g o.op){i:Nat}{o:Oper}{s s':AS}{e:Eff}(hio:ops[i]? = some o)(h:StepC X nt N ops dec r g asm i o s e)(hs:∀ t∈o.looksAt ops.toArray,slot s'.1 t=slot s.1 t)(hr:∀ n∈e.rds,look s'.2 n=look s.2 n) :
  StepC X nt N ops dec r g asm i o s' e:=by
 rcases h with⟨rfl,h1,h2,h3⟩|⟨h1,h2⟩
 ·refine .inl ⟨rfl,h1,h2,hg o hio h3 (λx hx=>?_) hr⟩
  cases x with
  | tmp t =>
   exact hs t (by
    simp only[Oper.looksAt,List.mem_append,List.mem_filterMap]
    exact .inl ⟨.tmp t,by simpa using hx,rfl⟩)
  | _=>rfl
 ·exact .inr ⟨h1,step1X_loc hX h2 hs hr⟩
def RunsC(X:RCtx)(nt N:Nat)(ops:List Oper)(dec:List (Nat×Bool))(r:Nat)(g:ChF)(asm:Prop):List Ent->AS->Prop
 | [],_=>True
 | (i,o,e) :: l,s=>StepC X nt N ops dec r g asm i o s e/\RunsC X nt N ops dec r g asm l (app1 o e s)
theorem RunsC.same(hX:RCtxOk P X)(hg:∀ o,ops[r]? = some o->ChLoc g o.op):∀ {l:List Ent} {s s':AS},(∀ x∈l,ops[x.1]? = some x.2.1)->Same s s'->RunsC X nt N ops dec r g asm l s->RunsC X nt N ops dec r g asm l s'/\Same (fin l s) (fin l s')
 | [],s,s',_,h,_=>⟨trivial,h⟩
 | (i,o,e) :: l,s,s',hl,h,hr=>by
  obtain⟨h1,h2⟩:=hr;have h3:=h1.loc hX hg (hl (i,o,e) (by simp)) (s':=s') (λt _=>h.1 t) (λn _=>h.2 n);obtain⟨h4,h5⟩:=RunsC.same hX hg (λx hx=>hl x (by simp[hx])) (h.app o e) h2;exact⟨⟨h3,h4⟩,h5⟩
theorem swapC(hX:RCtxOk P X)(hg:∀ o,ops[r]? = some o->ChLoc g o.op){i j:Nat}{oi oj:Oper}{s:AS}{ei ej:Eff}(hoi:ops[i]? = some oi)(hoj:ops[j]? = some oj)(hi:StepC X nt N ops dec r g asm i oi s ei)(hj:StepC X nt N ops dec r g asm j oj (app1 oi ei s) ej)(h:Indep ops oi oj ei ej) :
  StepC X nt N ops dec r g asm j oj s ej/\StepC X nt N ops dec r g asm i oi (app1 oj ej s) ei/\Same (app1 oj ej (app1 oi ei s)) (app1 oi ei (app1 oj ej s)):=by
 obtain⟨h1,h2,h3⟩:=Oper.apart_spec h.ap;refine⟨?_,?_,?_,?_⟩
 ·exact hj.loc hX hg hoj (λt ht=>(slot_app1 (λhd=>h1 t hd ht)).symm) (λn hn=>(look_app1 (h.rd n hn)).symm)
 ·exact hi.loc hX hg hoi (λt ht=>slot_app1 (λhd=>h3 t hd ht)) (λn hn=>look_app1 (h.dr n hn))
 ·intro t;by_cases ht:oi.dst=some t
  ·have hne:oj.dst≠some t:=h2 t ht;rw[slot_app1 hne];simp only[app1,ht];cases ei.val <;> simp[slot_cons]
  ·rw[slot_app1 ht];by_cases ht2:oj.dst=some t
   ·simp only[app1,ht2];cases ej.val <;> simp[slot_cons]
   ·rw[slot_app1 ht2,slot_app1 ht2,slot_app1 ht]
 ·intro n;by_cases hn:n∈foot ei
  ·have hn2:=h.wr n hn;rw[look_app1 hn2];simp only[app1,look_append];simp only[foot,List.mem_append,not_or]at hn hn2
   cases hw:look ei.wr n with
   | some x=>rfl
   | none =>
    cases hw2:look ei.news n with
    | some x=>rfl
    | none=>simp[look_names hn2.1,look_names hn2.2]
  ·rw[look_app1 hn];simp only[app1,look_append];simp only[foot,List.mem_append,not_or]at hn;simp[look_names hn.1,look_names hn.2]
theorem bubbleC(hX:RCtxOk P X)(hg:∀ o,ops[r]? = some o->ChLoc g o.op){i:Nat}{o:Oper}{e:Eff}{post:List Ent}:∀ {pre:List Ent} {s:AS},(∀ x∈pre++(i,o,e) :: post,ops[x.1]? = some x.2.1)->RunsC X nt N ops dec r g asm (pre++(i,o,e) :: post) s->(∀ x∈pre,Indep ops x.2.1 o x.2.2 e)->
  StepC X nt N ops dec r g asm i o s e/\RunsC X nt N ops dec r g asm (pre++post) (app1 o e s)/\Same (fin (pre++(i,o,e) :: post) s) (fin (pre++post) (app1 o e s))
 | [],s,_,h,_=>⟨h.1,h.2,Same.refl _⟩
 | (k,ok,ek) :: pre,s,hl,h,hi=>by
  obtain⟨h1,h2⟩:=h;obtain⟨h3,h4,h5⟩:=bubbleC hX hg (λx hx=>hl x (List.mem_cons_of_mem _ hx)) h2 (λx hx=>hi x (by simp[hx]));obtain⟨h6,h7,h8⟩:=swapC hX hg (hl (k,ok,ek) (by simp)) (hl (i,o,e) (by simp)) h1 h3 (hi (k,ok,ek) (by simp))
  obtain⟨h9,h10⟩:=RunsC.same hX hg (λx hx=>hl x (by
   simp only[List.cons_append,List.mem_cons,List.mem_append]at hx ⊢;rcases hx with hx|hx
   ·exact .inr (.inl hx)
   ·exact .inr (.inr (.inr hx)))) h8 h4
  exact⟨h6,⟨h7,h9⟩,h5.trans h10⟩
end
end Go.Sx

namespace Go.Sx
open Go.RowKit
def UI(N M:Nat)(idx:List Nat):Nm->Prop:=λ(n:Nat)=>n<N+12*M/\∀ j∈idx,¬(N+12*j<=n/\n<N+12*j+12)
section
variable {P:Program} {W0:World} {Fr:Nat->Prop} {X:RCtx} {nt N:Nat} {ops:List Oper} {dec:List (Nat×Bool)}
theorem UI.grow{M:Nat}{idx idx':List Nat}{i:Nat}(hiM:i<M)(hsub:∀ x∈idx',x∈idx)(hne:∀ x∈idx',x≠i):∀ n,UU (UI N M idx) (N+12*i) n->UI N M idx' n:=by
 intro n hn;rcases hn with hn|hn
 ·exact⟨hn.1,λx hx=>hn.2 x (hsub x hx)⟩
 ·refine⟨?_,λx hx hx2=>?_⟩
  ·have h1:n<N+12*i+12:=hn.2;omega
  ·have h1:N+12*i<=n/\n<N+12*i+12:=hn;have:=hne x hx;omega
theorem turn1X(hX:RCtxOk P X){M:Nat}{idx idx':List Nat}{i:Nat}{o:Oper}{e:Eff}{s:AS}{ρ:Rho}{a:Act}{w:World}
  (h:step1X X nt N ops dec i o s=some e) (ho:okP e.obl) (hS:ASat W0 Fr nt (UI N M idx) s ρ a w) (hin:i∈idx) (hiM:i<M) (hsub:∀ x∈idx',x∈idx) (hne:∀ x∈idx',x≠i)
  {next:Act->World->Prop} {Q:Exit->Act->World->Prop}
  (hk:∀ ρ' a' w',ASat W0 Fr nt (UI N M idx') (app1 o e s) ρ' a' w'->(∀ n,UI N M idx n->ρ' n=ρ n)->next a' w'):turn P ops.toArray o a w next Q:=by
 have hmono:∀ n,UI N M idx n->UI N M idx' n:=λn hn=>⟨hn.1,λx hx=>hn.2 x (hsub x hx)⟩
 have hU:=UI.grow (N:=N) (M:=M) (idx:=idx) (idx':=idx') hiM hsub hne
 have hn4:∀ j:Nat,j<12->¬UI N M idx (N+12*i+j):=by
  intro j hj hu;exact hu.2 i hin ⟨Nat.le_add_right _ _,by omega⟩
 have skip:e=skipE->(∀ d,o.dst=some d->d<nt)->next (a.put o.dst undef) w:=by
  intro he hd;subst he;refine hk ρ _ w ⟨?_,?_⟩ (λ_ _=>rfl)
  ·exact hS.h.mono hmono
  ·have hs:=hS.s.mono hmono (λ_ _=>rfl);simp only[app1,skipE]
   cases hdst:o.dst with
   | none=>simpa [Act.put]using hs
   | some d=>exact hs.put (v:=.tup []) (hd d hdst) (by simp[SV.bd,bdL])
 have run:run1X X N dec i o s=some e->(∀ d,o.dst=some d->d<nt)->o.wp P a w next Q:=by
  intro hr hd;unfold run1X at hr;split at hr
  ·rename_i e1 h1;simp only[Option.some.injEq]at hr;subst hr;obtain⟨h2,h3,h4,h5⟩:=decV_spec ho;refine evX_sound hX hS.h hn4 (λx v hx=>opr_sat hS.s hx) (λc v hc=>const_opr hc ρ) h1 h2 (λρ' w' hr' hH=>?_)
   have hH':HSat W0 Fr (UI N M idx') ((decV dec i e1).wr++((decV dec i e1).news++s.2)) ρ' w':=by
    rw[h3,h4];exact hH.mono hU
   have hs:=hS.s.mono hmono hr';split
   ·rename_i v hv;intro hb;rw[hv]at h5;obtain⟨v',h6,h7,h8⟩:=h5;refine hk ρ' _ w' ⟨hH',?_⟩ hr';rw[<-h7 ρ'];simp only[app1,h6]
    cases hdst:o.dst with
    | none=>simpa [Act.put]using hs
    | some d=>exact hs.put (hd d hdst) (h8 _ (SV.bd_mono hU v hb))
   ·rename_i hv;rw[hv]at h5;refine hk ρ' _ w' ⟨hH',?_⟩ hr';simp only[app1,h5]
    cases hdst:o.dst with
    | none=>simpa [Act.put]using hs
    | some d=>exact hs.put (v:=.tup []) (hd d hdst) (by simp[SV.bd,bdL])
  ·cases hr
 unfold step1X at h;split at h
 ·cases h
 ·rename_i hd0
  have hd:∀ d,o.dst=some d->d<nt:=by
   intro d hd;rw[hd]at hd0;simpa using hd0
  unfold turn;split at h
  ·rename_i hg;rw[if_pos (by simp[Region.wanted,hg])];exact .inl (run h hd)
  ·rename_i j want hg;split at h
   ·cases h
   ·rename_i d hgd
    have hdst:(ops.toArray[j]?).bind (·.dst)=some d:=by
     unfold gdst at hgd;rw[nth_eq]at hgd;split at hgd
     ·rename_i o' ho';simp[ho',hgd]
     ·cases hgd
    have wantedIs:∀(v:Value),a.tmps[d]? = some v->Region.wanted o (yielded ops.toArray a.tmps)=((match v with | .bool b=>some b|_=>none)==some want):=by
     intro v hv;simp only[Region.wanted,hg,yielded,hdst,Option.bind_some,hv];cases v <;> rfl
    split at h
    ·rename_i hv;have hw:=wantedIs _ (hS.s.val _ _ hv);simp only[SV.den]at hw;split at h
     ·rw[hw];exact .inl (run h hd)
     ·rw[hw];exact skip (by simpa using h.symm) hd
    ·rename_i hv;have hw:=wantedIs _ (hS.s.val _ _ hv);simp only[SV.den]at hw;split at h
     ·rw[hw];exact skip (by simpa using h.symm) hd
     ·rw[hw];exact .inl (run h hd)
    ·rename_i hv;have hw:=wantedIs _ (hS.s.val _ _ hv);simp only[SV.den]at hw;rw[hw];exact skip (by simpa using h.symm) hd
    ·cases h
theorem turnR{R:ROp}{M:Nat}{idx idx':List Nat}{i:Nat}{o:Oper}(hR:ROpOk P R o.op){s:AS}{ρ:Rho}{a:Act}{w:World}
  (hgd:o.guard=none) (hd:∀ d,o.dst=some d->d<nt) (hall:∀ x,∃ e p,R.ev x (opr s.1) (look s.2) (N+12*i)=some (e,p)/\okP e.obl)
  (hS:ASat W0 Fr nt (UI N M idx) s ρ a w) (hin:i∈idx) (hiM:i<M) (hsub:∀ x∈idx',x∈idx) (hne:∀ x∈idx',x≠i)
  {next:Act->World->Prop} {Q:Exit->Act->World->Prop}
  (hk:∀ x e p ρ' a' w',R.ev x (opr s.1) (look s.2) (N+12*i)=some (e,p)->p->ASat W0 Fr nt (UI N M idx') (app1 o e s) ρ' a' w'->(∀ n,UI N M idx n->ρ' n=ρ n)->next a' w'):turn P ops.toArray o a w next Q:=by
 have hmono:∀ n,UI N M idx n->UI N M idx' n:=λn hn=>⟨hn.1,λx hx=>hn.2 x (hsub x hx)⟩
 have hU:=UI.grow (N:=N) (M:=M) (idx:=idx) (idx':=idx') hiM hsub hne
 have hn4:∀ j:Nat,j<12->¬UI N M idx (N+12*i+j):=by
  intro j hj hu;exact hu.2 i hin ⟨Nat.le_add_right _ _,by omega⟩
 unfold turn;rw[if_pos (by simp[Region.wanted,hgd])];refine .inl (hR.sound rfl hS.h hn4 (λx v hx=>opr_sat hS.s hx) hall λx e p ρ' w' h1 h2 hr' hH=>?_);have hs:=hS.s.mono hmono hr';split
 ·rename_i v hv;intro hb;refine hk x e p ρ' _ w' h1 h2 ⟨hH.mono hU,?_⟩ hr';simp only[app1,hv]
  cases hdst:o.dst with
  | none=>simpa [Act.put]using hs
  | some d=>exact hs.put (hd d hdst) (SV.bd_mono hU v hb)
 ·rename_i hv;refine hk x e p ρ' _ w' h1 h2 ⟨hH.mono hU,?_⟩ hr';simp only[app1,hv]
  cases hdst:o.dst with
  | none=>simpa [Act.put]using hs
  | some d=>exact hs.put (v:=.tup []) (hd d hdst) (by simp[SV.bd,bdL])
theorem filter_out{pre post:List Ent}{x:Ent}(h:∀ y∈pre++post,y.1≠x.1):(pre++x :: post).filter (λy => !(y.1==x.1))=pre++post:=by
 have key:∀ l:List Ent,(∀ y∈l,y.1≠x.1)->l.filter (λy => !(y.1==x.1))=l:=λl hl=>List.filter_eq_self.2 λy hy=>by simpa using hl y hy
 rw[List.filter_append,key pre (λy hy=>h y (by simp[hy]))];congr 1;rw[List.filter_cons];simp only[beq_self_eq_true,Bool.not_true,Bool.false_eq_true,if_false];exact key post (λy hy=>h y (by simp[hy]))
theorem any_orderC(hX:RCtxOk P X)(hback:allBack ops=true){R:ROp}{r:Nat}(hR:∀ o,ops[r]? = some o->ROpOk P R o.op){asm:R.ι->Prop}{F:R.ι->AS}{ρ0:Rho}{N0:Nat}(hN0:N0<=N){Q:Exit->Act->World->Prop}
  (hQ:∀ i,asm i->∀ ρ a w,ASat W0 Fr nt (UI N ops.length []) (F i) ρ a w->(∀ n,n<N0->ρ n=ρ0 n)->Q .normal a w) :
  ∀(fuel:Nat)(idx:List Nat)(J:R.ι->Prop)(L:R.ι->List Ent)(listed:Array Bool)(s:AS)(ρ:Rho)(a:Act)(w:World),idx.length=fuel->listed.size=ops.length->
   (∀ j,j<ops.length->listed[j]? = some (!decide (j∈idx)))->(∃ i,J i)->(∀ i,J i->(L i).map (·.1)=idx)->
   (∀ i,J i->∀ x∈L i,ops[x.1]? = some x.2.1)->idx.Pairwise (·< ·)->(∀ i,J i->(L i).Pairwise (Pair ops))->(∀ i,J i->∀ x∈L i,okP x.2.2.obl)->
   (∀ i o,ops[i]? = some o->listed.getD i false=true->∀ e∈o.after,Region.binds .any e=true->listed.getD e.on false=true)->
   ((r∈idx/\∀ i,J i)∨(r∉idx/\∀ i,J i->asm i))->
   (∀ i,J i->RunsC X nt N ops dec r (R.ev i) (asm i) (L i) s)->(∀ i,J i->Same (F i) (fin (L i) s))->ASat W0 Fr nt (UI N ops.length idx) s ρ a w->(∀ n,n<N0->ρ n=ρ0 n)->
   wpAny P .any ops.toArray Q fuel listed a w:=by
 have hb:=allBack_go ops 0 hback;have hg:∀ i:R.ι,∀ o,ops[r]? = some o->ChLoc (R.ev i) o.op:=λi o ho=>λh1 h2 h3=>(hR o ho).loc h1 h2 h3
 intro fuel
 induction fuel with
 | zero =>
  intro idx J L listed s ρ a w hl hsz hli hJ hLi hops hsort hpair hobl hcl hph hruns hF hS hρ;have hl0:idx=[]:=List.length_eq_zero_iff.1 hl;subst hl0;obtain⟨i0,hi0⟩:=hJ
  have hasm:asm i0:=by
   rcases hph with⟨h,_⟩|⟨_,h⟩
   ·simp at h
   ·exact h i0 hi0
  have hLe:L i0=[]:=List.map_eq_nil_iff.1 (hLi i0 hi0);have hF0:=hF i0 hi0;rw[hLe]at hF0;refine⟨?_,hQ i0 hasm ρ a w ?_ hρ⟩
  ·refine List.eq_nil_iff_forall_not_mem.2 λj hj=>?_
   rw[mem_ready]at hj;obtain⟨h1,o,ho,_⟩:=hj
   have hlt:j<ops.length:=by
    have:=(Array.getElem?_eq_some_iff.1 ho).1;simpa using this
   have:=hli j hlt;simp[Array.getD_eq_getD_getElem?,this]at h1
  ·exact⟨hS.h.lookEq λn=>(hF0.2 n).symm,{hS.s with
    bd:=λt v hv=>hS.s.bd t v (by rw[<-hv];exact hF0.1 t)
    val:=λt v hv=>hS.s.val t v (by rw[<-hv];exact hF0.1 t)}⟩
 | succ fuel ih =>
  intro idx J L listed s ρ a w hl hsz hli hJ hLi hops hsort hpair hobl hcl hph hruns hF hS hρ
  have pend:∀ j,j<ops.length->(listed.getD j true=false↔j∈idx):=by
   intro j hj;simp[Array.getD_eq_getD_getElem?,hli j hj]
  have isl:∀ j,listed.getD j false=true↔(j<ops.length/\j∉idx):=by
   intro j;by_cases hj:j<ops.length
   ·simp[Array.getD_eq_getD_getElem?,hli j hj,hj]
   ·have:listed[j]? = none:=Array.getElem?_eq_none (by omega);simp[Array.getD_eq_getD_getElem?,this,hj]
  have entry:∀ i,J i->∀ j∈idx,∃ x∈L i,x.1=j:=by
   intro i hi j hj;rw[<-hLi i hi]at hj;obtain⟨x,hx,hxj⟩:=List.mem_map.1 hj;exact⟨x,hx,hxj⟩
  refine⟨λhre=>?_,λi hi=>?_⟩
  ·exfalso
   match idx,hl with
   | j :: rest,hl =>
    obtain⟨i0,hi0⟩:=hJ;obtain⟨x,hx,hxj⟩:=entry i0 hi0 j (by simp);have hox:=hops i0 hi0 x hx;rw[hxj]at hox;have hlt:j<ops.length:=(List.getElem?_eq_some_iff.1 hox).1
    have hmem:j∈Region.ready .any ops.toArray listed:=by
     rw[mem_ready];refine⟨(pend j hlt).2 (by simp),x.2.1,by simpa using hox,λe he hbe=>?_⟩;have h1:=hb j x.2.1 hox e he hbe;rw[isl];refine⟨by omega,λhy=>?_⟩;rcases List.mem_cons.1 hy with hy|hy
     ·omega
     ·have:=(List.pairwise_cons.1 hsort).1 _ hy;omega
    rw[hre]at hmem;cases hmem
  ·rw[mem_ready]at hi;obtain⟨h1,o',ho',hedges⟩:=hi
   have hlt:i<ops.length:=by
    have:=(Array.getElem?_eq_some_iff.1 ho').1;simpa using this
   have hii:i∈idx:=(pend i hlt).1 h1;have ho2:ops[i]? = some o':=by simpa using ho'
   have front:∀ k,J k->∃ e,(i,o',e)∈L k/\StepC X nt N ops dec r (R.ev k) (asm k) i o' s e/\
     RunsC X nt N ops dec r (R.ev k) (asm k) ((L k).filter λy => !(y.1==i)) (app1 o' e s)/\Same (fin (L k) s) (fin ((L k).filter λy => !(y.1==i)) (app1 o' e s))/\((L k).filter λy => !(y.1==i)).length+1=(L k).length:=by
    intro k hk;obtain⟨x,hx,hxi⟩:=entry k hk i hii;have hox:=hops k hk x hx;rw[hxi,ho2]at hox;injection hox with hox
    obtain⟨i',o,e⟩:=x;simp only at hxi hox;subst hxi;subst hox;obtain⟨pre,post,hpp⟩:=List.append_of_mem hx
    have hsk:(L k).Pairwise (λx y=>x.1<y.1):=by
     have:=hsort;rw[<-hLi k hk]at this;exact List.pairwise_map.1 this
    have hpk:=hpair k hk;rw[hpp]at hsk hpk
    have hind:∀ y∈pre,Indep ops y.2.1 o' y.2.2 e:=by
     intro y hy;have hp:=(List.pairwise_append.1 hpk).2.2 y hy (i',o',e) (by simp);rcases hp with hp|hp
     ·exfalso;have:=bef_spec (ops:=ops) (L:=λj=>listed.getD j false=true) hcl i' o' ho2 hedges y.1 hp;rw[isl]at this;refine this.2 ?_;rw[<-hLi k hk,hpp];exact List.mem_map.2 ⟨y,by simp[hy],rfl⟩
     ·exact hp
    have hr:=hruns k hk;rw[hpp]at hr;obtain⟨h2,h3,h4⟩:=bubbleC hX (hg k) (λy hy=>hops k hk y (by rw[hpp];exact hy)) hr hind
    have hne:∀ y∈pre++post,y.1≠i':=by
     intro y hy;have hs:=List.pairwise_append.1 hsk;rcases List.mem_append.1 hy with hy|hy
     ·exact Nat.ne_of_lt (hs.2.2 y hy (i',o',e) (by simp))
     ·exact Nat.ne_of_gt ((List.pairwise_cons.1 hs.2.1).1 y hy)
    have hfil:(L k).filter (λy => !(y.1==i'))=pre++post:=by rw[hpp];exact filter_out (x:=(i',o',e)) hne
    refine⟨e,hx,h2,by rw[hfil];exact h3,by rw[hfil,hpp];exact h4,by rw[hfil,hpp];simp only[List.length_append,List.length_cons];omega⟩
   have hsub:∀ y∈idx.filter (λy => !(y==i)),y∈idx:=λy hy=>(List.mem_filter.1 hy).1
   have hne:∀ y∈idx.filter (λy => !(y==i)),y≠i:=λy hy=>by simpa using (List.mem_filter.1 hy).2
   have hmapL:∀ k,J k->((L k).filter λy => !(y.1==i)).map (·.1)=idx.filter λy => !(y==i):=by
    intro k hk;rw[<-hLi k hk,List.filter_map];rfl
   have hlen:(idx.filter λy => !(y==i)).length=fuel:=by
    obtain⟨k0,hk0⟩:=hJ;obtain⟨_,_,_,_,_,h5⟩:=front k0 hk0;have h6:=congrArg List.length (hmapL k0 hk0);have h7:=congrArg List.length (hLi k0 hk0);simp only[List.length_map]at h6 h7;omega
   have next:∀(J':R.ι->Prop)(e:Eff),(∀ k,J' k->J k)->(∃ k,J' k)->((r∈idx.filter (λy => !(y==i))/\∀ k,J' k)∨(r∉idx.filter (λy => !(y==i))/\∀ k,J' k->asm k))->
     (∀ k,J' k->RunsC X nt N ops dec r (R.ev k) (asm k) ((L k).filter λy => !(y.1==i)) (app1 o' e s)/\Same (fin (L k) s) (fin ((L k).filter λy => !(y.1==i)) (app1 o' e s)))->
     ∀ ρ' a' w',ASat W0 Fr nt (UI N ops.length (idx.filter λy => !(y==i))) (app1 o' e s) ρ' a' w'->(∀ n,UI N ops.length idx n->ρ' n=ρ n)->wpAny P .any ops.toArray Q fuel (listed.setIfInBounds i true) a' w':=by
    intro J' e hJ' hJne hph' hk' ρ' a' w' hS' hρ'
    refine ih (idx.filter λy => !(y==i)) J' (λk=>(L k).filter λy => !(y.1==i)) _ _ ρ' a' w' hlen (by simpa using hsz) ?_ hJne (λk hk=>hmapL k (hJ' k hk)) (λk hk y hy=>hops k (hJ' k hk) y (List.mem_filter.1 hy).1)
     (hsort.sublist List.filter_sublist) (λk hk=>(hpair k (hJ' k hk)).sublist List.filter_sublist) (λk hk y hy=>hobl k (hJ' k hk) y (List.mem_filter.1 hy).1) ?_ hph' (λk hk=>(hk' k hk).1) (λk hk=>(hF k (hJ' k hk)).trans (hk' k hk).2) hS' ?_
    ·intro j hj;by_cases hji:i=j
     ·subst hji;rw[Array.getElem?_setIfInBounds_self_of_lt (by omega)];simp
     ·rw[Array.getElem?_setIfInBounds_ne hji,hli j hj];congr 2
      apply decide_eq_decide.2
      simp[Ne.symm hji]
    ·intro k ok hok hk e' he' hb';by_cases hki:i=k
     ·subst hki;rw[ho2]at hok;injection hok with hok
      subst hok;exact getD_set_true (hedges e' he' hb')
     ·rw[getD_set_ne false hki]at hk;exact getD_set_true (hcl k ok hok hk e' he' hb')
    ·intro n hn
     have hu:UI N ops.length idx n:=by
      have hnN:n<N:=Nat.lt_of_lt_of_le hn hN0;refine⟨Nat.lt_of_lt_of_le hnN (Nat.le_add_right _ _),λy _ hy=>?_⟩;have h5:N+12*y<=n:=hy.1;have h6:N<=n:=Nat.le_trans (Nat.le_add_right _ _) h5;exact absurd hnN (Nat.not_lt.2 h6)
     exact(hρ' n hu).trans (hρ n hn)
   unfold wpOp;rw[ho'];by_cases hir:i=r
   ·subst hir;rcases hph with⟨_,hall⟩|⟨hno,_⟩
    ·have info:∀ k,∃ e,(i,o',e)∈L k/\((∀ d,o'.dst=some d->d<nt)/\o'.guard=none/\R.ev k (opr s.1) (look s.2) (N+12*i)=some (e,asm k))/\
       RunsC X nt N ops dec i (R.ev k) (asm k) ((L k).filter λy => !(y.1==i)) (app1 o' e s)/\Same (fin (L k) s) (fin ((L k).filter λy => !(y.1==i)) (app1 o' e s)):=by
      intro k;obtain⟨e,h2,h3,h4,h5,_⟩:=front k (hall k);rcases h3 with⟨_,h6,h7,h8⟩|⟨h6,_⟩
      ·exact⟨e,h2,⟨h6,h7,h8⟩,h4,h5⟩
      ·exact absurd rfl h6
     obtain⟨k0,_⟩:=hJ;obtain⟨e0,_,⟨hd,hgd,_⟩,_⟩:=info k0;refine turnR (hR o' ho2) hgd hd (λk=>?_) hS hii hlt hsub hne λk e p ρ' a' w' h2 h3 hS' hρ'=>?_
     ·obtain⟨e,h2,⟨_,_,h3⟩,_⟩:=info k;exact⟨e,asm k,h3,hobl k (hall k) _ h2⟩
     ·obtain⟨e1,h4,⟨_,_,h5⟩,h6,h7⟩:=info k;rw[h2]at h5;simp only[Option.some.injEq,Prod.mk.injEq]at h5;obtain⟨rfl,rfl⟩:=h5;exact next (λx=>x=k) e (λx _=>hall x) ⟨k,rfl⟩ (.inr ⟨λhm=>hne _ hm rfl,λx hx=>by subst hx;exact h3⟩) (λx hx=>by subst hx;exact⟨h6,h7⟩) ρ' a' w' hS' hρ'
    ·exact absurd hii hno
   ·obtain⟨k0,hk0⟩:=hJ;obtain⟨e,h2,h3,_⟩:=front k0 hk0
    have hst:step1X X nt N ops dec i o' s=some e:=by
     rcases h3 with⟨h,_⟩|⟨_,h⟩
     ·exact absurd h hir
     ·exact h
    refine turn1X hX hst (hobl k0 hk0 _ h2) hS hii hlt hsub hne λρ' a' w' hS' hρ'=>next J e (λ_ h=>h) ⟨k0,hk0⟩ ?_ (λk hk=>?_) ρ' a' w' hS' hρ'
    ·have hr:r∈idx.filter (λy => !(y==i))↔r∈idx:=by simp[Ne.symm hir]
     rcases hph with⟨h4,h5⟩|⟨h4,h5⟩
     ·exact .inl ⟨hr.2 h4,h5⟩
     ·exact .inr ⟨λh=>h4 (hr.1 h),h5⟩
    ·obtain⟨e',_,h4,h5,h6,_⟩:=front k hk
     have:e'=e:=by
      rcases h4 with⟨h,_⟩|⟨_,h⟩
      ·exact absurd h hir
      ·rw[hst]at h;injection h with h;exact h.symm
     subst this;exact⟨h5,h6⟩
end
end Go.Sx
