/- Parts of a proof, in order: what each says stands at its head. No conditions. -/
import Derived.Calls
import Derived.Laws.Entries
import Derived.Below
import Derived.Laws.FloatArith
import Derived.Laws.StructEq
import Derived.Laws.AppendOwn
namespace Go.Sx
abbrev Nm:=Nat
abbrev Rho:=Nm->Option (Nat×Nat×Nat)
inductive SV where
 | tt
 | ff
 | bool (b:Bool)
 | int (k:IntKind) (n:Int)
 | flt (k:FloatKind) (bits:Nat)
 | str (s:ByteArray)
 | ptr (n:Nm) (off:Nat)
 | nilp
 | slc (n:Nm) (off len cap:Nat)
 | nils
 | slcc (n:Nm) (len:Nat)
 | agg (cs:List SV)
 | tup (vs:List SV)
 | ifc (t:Nat) (v:SV)
 | nili
 | fn (f:Fn) (first captured:List SV)
 | nilf
 | sla (a:Option Addr) (len cap:Nat)
  | pb (n:Nm) (b c:Nat)
 | dv (n:Nm) (v:Value)
 | slb (n:Nm) (b c len cap:Nat)
  | opt (b:Bool) (t:Nat) (v:SV)
def Rho.addr(ρ:Rho)(n:Nm)(off:Nat):Option Addr:=(ρ n).map λp=>⟨p.1,p.2.1+off,none⟩
def Rho.sp(c:Nat):Option Nat:=if c<=maxLen then none else some (c-(maxLen+1))
def Rho.cp(c:Nat):Nat:=if c<=maxLen then c else 0
def Rho.cap(ρ:Rho)(n:Nm):Nat:=match ρ n with
 | none=>0
 | some p=>Rho.cp p.2.2
def Rho.addrC(ρ:Rho)(n:Nm):Option Addr:=(ρ n).map λp=>⟨p.1,p.2.1,Rho.sp p.2.2⟩
theorem Rho.sp_le{c:Nat}(h:c<=maxLen):Rho.sp c=none:=by unfold Rho.sp;rw[if_pos h]
theorem Rho.cp_le{c:Nat}(h:c<=maxLen):Rho.cp c=c:=by unfold Rho.cp;rw[if_pos h]
mutual
def SV.den(ρ:Rho):SV->Value
 | .tt=>.bool true
 | .ff=>.bool false
 | .bool b=>.bool b
 | .int k n=>.int k n
 | .flt k n=>.float k n
 | .str s=>.string s
 | .ptr n o=>.pointer (ρ.addr n o)
 | .nilp=>.pointer none
 | .slc n o l c=>.slice (ρ.addr n o) l c
 | .nils=>.slice none 0 0
 | .slcc n l=>.slice (ρ.addrC n) l (ρ.cap n)
 | .agg cs=>.agg (p8 ρ cs).toArray
 | .tup vs=>.tuple (p8 ρ vs).toArray
 | .ifc t v=>.iface t (v.den ρ)
 | .nili=>.nilIface
 | .fn f a c=>.func f (p8 ρ a).toArray (p8 ρ c).toArray
 | .nilf=>.nilFunc
 | .sla a l c=>.slice a l c
 | .pb _ b c=>.pointer (some ⟨b,c,none⟩)
 | .dv _ v=>if v.oneCell'=true then v else .bool false
 | .slb _ b c l k=>.slice (some ⟨b,c,none⟩) l k
 | .opt b t v=>match b with
  | true=>.iface t (v.den ρ)
  | false=>.nilIface
def p8(ρ:Rho):List SV->List Value
 | []=>[]
 | v :: r=>v.den ρ :: p8 ρ r
end
theorem A4(ρ:Rho):∀ l,p8 ρ l=l.map (SV.den ρ)
 | []=>rfl
 | v :: r=>by simp[p8,A4 ρ r]
mutual
def SV.bd(U:Nm->Prop):SV->Prop
 | .ptr n _=>U n
 | .slc n _ _ _=>U n
 | .slcc n _=>U n
 | .pb n _ _=>U n
 | .dv n _=>U n
 | .slb n _ _ _ _=>U n
 | .agg cs=>bdL U cs
 | .tup vs=>bdL U vs
 | .ifc _ v=>v.bd U
 | .opt _ _ v=>v.bd U
 | .fn _ a c=>bdL U a/\bdL U c
 | _=>True
def bdL(U:Nm->Prop):List SV->Prop
 | []=>True
 | v :: r=>v.bd U/\bdL U r
end
theorem G8(U:Nm->Prop):∀ l,bdL U l↔∀ v∈l,v.bd U
 | []=>by simp[bdL]
 | v :: r=>by simp[bdL,G8 U r]
mutual
theorem SV.bd_mono{U U':Nm->Prop}(h:∀ n,U n->U' n):∀ v:SV,v.bd U->v.bd U'
 | .ptr n _=>by simpa [SV.bd]using h n
 | .slc n _ _ _=>by simpa [SV.bd]using h n
 | .slcc n _=>by simpa [SV.bd]using h n
 | .pb n _ _ | .dv n _ | .slb n _ _ _ _=>by simpa [SV.bd]using h n
 | .agg cs=>by simpa [SV.bd]using a1B h cs
 | .tup vs=>by simpa [SV.bd]using a1B h vs
 | .ifc _ v=>by simpa [SV.bd]using SV.bd_mono h v
 | .opt _ _ v=>by simpa [SV.bd]using SV.bd_mono h v
 | .fn _ a c=>by simpa [SV.bd]using λh1 h2=>⟨a1B h a h1,a1B h c h2⟩
 | .tt | .ff | .bool _ | .int _ _ | .flt _ _ | .str _ | .nilp | .nils | .nili | .nilf | .sla _ _ _=>by simp[SV.bd]
theorem a1B{U U':Nm->Prop}(h:∀ n,U n->U' n):∀ l:List SV,bdL U l->bdL U' l
 | []=>by simp[bdL]
 | v :: r=>by simpa [bdL]using λh1 h2=>⟨SV.bd_mono h v h1,a1B h r h2⟩
end
mutual
theorem SV.den_congr{U:Nm->Prop}{ρ ρ':Rho}(h:∀ n,U n->ρ' n=ρ n):∀ v:SV,v.bd U->v.den ρ'=v.den ρ
 | .ptr n _=>by intro hb;simp only[SV.bd]at hb;simp[SV.den,Rho.addr,h n hb]
 | .slc n _ _ _=>by intro hb;simp only[SV.bd]at hb;simp[SV.den,Rho.addr,h n hb]
 | .slcc n _=>by intro hb;simp only[SV.bd]at hb;simp[SV.den,Rho.addrC,Rho.cap,h n hb]
 | .pb _ _ _ | .dv _ _ | .slb _ _ _ _ _=>by simp[SV.den]
 | .agg cs=>by intro hb;simp only[SV.bd]at hb;simp[SV.den,W8 h cs hb]
 | .tup vs=>by intro hb;simp only[SV.bd]at hb;simp[SV.den,W8 h vs hb]
 | .ifc _ v=>by intro hb;simp only[SV.bd]at hb;simp[SV.den,SV.den_congr h v hb]
 | .opt b _ v=>by intro hb;simp only[SV.bd]at hb;cases b <;> simp[SV.den,SV.den_congr h v hb]
 | .fn _ a c=>by intro hb;simp only[SV.bd]at hb;simp[SV.den,W8 h a hb.1,W8 h c hb.2]
 | .tt | .ff | .bool _ | .int _ _ | .flt _ _ | .str _ | .nilp | .nils | .nili | .nilf | .sla _ _ _=>by simp[SV.den]
theorem W8{U:Nm->Prop}{ρ ρ':Rho}(h:∀ n,U n->ρ' n=ρ n):∀ l:List SV,bdL U l->p8 ρ' l=p8 ρ l
 | []=>by simp[p8]
 | v :: r=>by intro hb;simp only[bdL]at hb;simp[p8,SV.den_congr h v hb.1,W8 h r hb.2]
end
def SV.cells:SV->List SV
 | .agg cs=>cs
 | v=>[v]
theorem SV.den_cells(ρ:Rho)(v:SV):(v.den ρ).cells=(p8 ρ v.cells).toArray:=by
 cases v
 case dv n x =>
  simp only[SV.den,SV.cells,p8];split
  ·rename_i hx;cases x <;> simp_all[Value.oneCell',Value.cells]
  ·simp[Value.cells]
 case opt b t v=>cases b <;> simp[SV.den,SV.cells,Value.cells,p8]
 all_goals simp[SV.den,SV.cells,Value.cells,p8]
theorem SV.bd_cells{U:Nm->Prop}{v:SV}(h:v.bd U):bdL U v.cells:=by
 cases v <;> simp_all[SV.bd,SV.cells,bdL]
def SV.one:SV->Bool
 | .agg _ | .tup _=>false
 | _=>true
theorem SV.one_den(ρ:Rho){v:SV}(h:v.one=true):(v.den ρ).oneCell'=true:=by
 cases v
 case dv n x =>
  simp only[SV.den];split
  ·assumption
  ·rfl
 case opt b t v=>cases b <;> simp[SV.den,Value.oneCell']
 all_goals simp_all[SV.one,SV.den,Value.oneCell']
inductive a9 where
 | cells (l:List SV)
 | ints (k:IntKind) (n:Nat) (g:Nat->Int)
 | flts (k:FloatKind) (n:Nat) (g:Nat->Nat)
 | gen (n:Nat) (f:Nat->SV)
 | upto (n:Nat) (l:List SV)
  | raw (ts:List Nat) (D:Nat->Prop) (sz:Nat->Nat) (F:Nat->Nat->Value)
def I3:List SV->Nat->Option SV
 | [],_=>none
 | x :: _,0=>some x
 | _ :: r,n+1=>I3 r n
theorem E6:∀(l:List SV)(i:Nat),I3 l i=l[i]?
 | [],_=>by simp[I3]
 | _ :: _,0=>by simp[I3]
 | _ :: r,n+1=>by simp[I3,E6 r n]
def a9.size:a9->Nat
 | .cells l=>l.length
 | .ints _ n _=>n
 | .flts _ n _=>n
 | .gen n _=>n
 | .upto n _=>n
 | .raw _ _ _ _=>0
def a9.at(c:a9)(i:Nat):SV :=
 match c with
 | .cells l=>(I3 l i).getD .nilp
 | .ints k _ g=>.int k (g i)
 | .flts k _ g=>.flt k (g i)
 | .gen _ f=>f i
 | .upto _ l=>(I3 l i).getD .nilp
 | .raw _ _ _ _=>.nilp
def a9.isRaw:a9->Bool
 | .raw _ _ _ _=>true
 | _=>false
theorem a9.not_raw{c:a9}(h:0<c.size):c.isRaw=false:=by
 cases c <;> simp_all[a9.size,a9.isRaw]
def a9.bd(U:Nm->Prop)(c:a9):Prop:=∀ i,i<c.size->(c.at i).bd U
theorem a9.bd_mono{U U':Nm->Prop}(h:∀ n,U n->U' n){c:a9}(hc:c.bd U):c.bd U':=λi hi=>SV.bd_mono h _ (hc i hi)
structure Ob where
 rw:Bool
 elem:Nat
 c:a9
 es:Nat
def W4(w:World)(ρ:Rho)(o:Ob):Option (Nat×Nat×Nat)->Prop
 | none=>o.c.size=0
 | some (b,off,cp)=>(∀ i,i<o.c.size->w.cell? ⟨b,off+i,none⟩=some ((o.c.at i).den ρ))/\
   (o.rw=true->off=0/\∃ arr,w.heap[b]? = some (.cells arr o.elem (0,0))/\o.c.size<=arr.size/\(0<o.es->arr.size=cp*o.es)/\cp<=maxLen)/\(0<o.c.size->cp<=maxLen)
abbrev A1:=List (Nm×Ob)
def look:A1->Nm->Option Ob
 | [],_=>none
 | (m,o) :: r,n=>match Nat.beq m n with
  | true=>some o
  | false=>look r n
theorem g8(m n:Nm)(o:Ob)(r:A1):look ((m,o) :: r) n=if m=n then some o else look r n:=by
 show (match Nat.beq m n with|true=>some o|false=>look r n)=_;cases h:Nat.beq m n
 ·have:m≠n:=λe=>by subst e;simp at h
  simp[this]
 ·have:m=n:=Nat.eq_of_beq_eq_true h;simp[this]
def a3Z(w:World)(b s:Nat)(f:Nat->Value):Prop:=∃ arr el,w.heap[b]? = some (.cells arr el (0,0))/\arr.size=s/\∀ c,c<s->arr[c]? = some (f c)/\(f c).oneCell'=true
theorem a3Z.congr{w w':World}{b s:Nat}{f:Nat->Value}(h:a3Z w b s f)(hw:b<w.heap.size->w'.heap[b]? = w.heap[b]?):a3Z w' b s f:=by
 obtain⟨arr,el,h1,h2⟩:=h;refine⟨arr,el,?_,h2⟩;rw[hw,h1];rcases Nat.lt_or_ge b w.heap.size with h'|h'
 ·exact h'
 ·simp[Array.getElem?_eq_none h']at h1
theorem a3Z.lt{w:World}{b s:Nat}{f:Nat->Value}(h:a3Z w b s f):b<w.heap.size:=by
 obtain⟨arr,el,h1,h2⟩:=h;rcases Nat.lt_or_ge b w.heap.size with h'|h'
 ·exact h'
 ·simp[Array.getElem?_eq_none h']at h1
structure b8k (Fr:Nat->Prop) (H:A1) (ρ:Rho) (w:World) (n:Nm) (D:Nat->Prop) (sz:Nat->Nat) (F:Nat->Nat->Value):Prop where
 sat:∀ b,D b->a3Z w b (sz b) (F b)
 free:∀ b,D b->¬Fr b
 sep:∀ m o' q,look H m=some o'->m≠n->(o'.rw=true∨0<o'.c.size)->ρ m=some q->¬D q.1
 sepr:∀ m o' ts' D' sz' F',look H m=some o'->m≠n->o'.rw=true->o'.c=.raw ts' D' sz' F'->∀ b,D b->¬D' b
structure HSat (W0:World) (Fr:Nat->Prop) (U:Nm->Prop) (H:A1) (ρ:Rho) (w:World):Prop where
 os:w.os=W0.os
 tape:w.tape=W0.tape
 output:w.output=W0.output
 size:W0.heap.size<=w.heap.size
 frlt:∀ b,Fr b->b<W0.heap.size
 frame:∀ b,Fr b->w.heap[b]? = W0.heap[b]?
 used:∀ n o,look H n=some o->U n
 bd:∀ n o,look H n=some o->o.c.bd U
 obj:∀ n o,look H n=some o->W4 w ρ o (ρ n)
 inj:∀ n m o o' p q,look H n=some o->look H m=some o'->n≠m->o.rw=true->(o'.rw=true∨0<o'.c.size)->ρ n=some p->ρ m=some q->p.1≠q.1
 free:∀ n o p,look H n=some o->o.rw=true->ρ n=some p->¬Fr p.1
 rawd:∀ n o ts D sz F,look H n=some o->o.rw=true->o.c=.raw ts D sz F->b8k Fr H ρ w n D sz F
theorem tN9(n:Nat):(n:Int).toNat=n:=Int.toNat_natCast n
theorem bA9(a b:Bool):((a&&b)=true)=(a=true∧b=true):=Bool.and_eq_true a b
theorem oT9{p:Prop}[Decidable p](h:decide p=true):p:=of_decide_eq_true h
theorem eB9{n m:Nat}(h:Nat.beq n m=true):n=m:=Nat.eq_of_beq_eq_true h
theorem oI9.{u}{α:Type u}(a b:α):(some a=some b)=(a=b):=Option.some.injEq a b
theorem pI9.{u,v}{α:Type u}{β:Type v}(a c:α)(b d:β):((a,b)=(c,d))=(a=c∧b=d):=Prod.mk.injEq a b c d
end Go.Sx

namespace Go.Sx
open Go.RowKit
theorem cell?_of_heap{w w':World}{a:Addr}(h:w'.heap[a.block]? = w.heap[a.block]?):w'.cell? a=w.cell? a:=by
 unfold World.cell?;rw[h]
theorem a0H{w:World}{a:Addr}{v:Value}(h:w.cell? a=some v):a.block<w.heap.size:=by
 unfold World.cell? at h;rcases Nat.lt_or_ge a.block w.heap.size with h'|h'
 ·exact h'
 ·simp[Array.getElem?_eq_none h']at h
theorem W4.congr{w w':World}{ρ ρ':Rho}{o:Ob}{p:Option (Nat×Nat×Nat)}(h:W4 w ρ o p)
  (hw:∀ b off cp,p=some (b,off,cp)->(o.rw=true∨0<o.c.size)->b<w.heap.size->w'.heap[b]? = w.heap[b]?) (hd:∀ i,i<o.c.size->(o.c.at i).den ρ'=(o.c.at i).den ρ):W4 w' ρ' o p:=by
 cases p with
 | none=>exact h
 | some q =>
  obtain⟨b,off,cp⟩:=q;obtain⟨h1,h2,h9⟩:=h;refine⟨λi hi=>?_,λhr=>?_,h9⟩
  ·have hc:=h1 i hi;rw[hd i hi,<-hc];exact cell?_of_heap (hw b off cp rfl (.inr (by omega)) (a0H hc))
  ·obtain⟨h3,arr,h4,h5⟩:=h2 hr;refine⟨h3,arr,?_,h5⟩;rw[<-h4];refine hw b off cp rfl (.inl hr) ?_;rcases Nat.lt_or_ge b w.heap.size with h'|h'
   ·exact h'
   ·simp[Array.getElem?_eq_none h']at h4
section
variable {W0:World} {Fr:Nat->Prop} {U:Nm->Prop} {H:A1} {ρ:Rho} {w w':World}
theorem HSat.mono{U':Nm->Prop}(h:HSat W0 Fr U H ρ w)(hu:∀ n,U n->U' n):HSat W0 Fr U' H ρ w :=
 {h with used:=λn o hn=>hu n (h.used n o hn),bd:=λn o hn=>a9.bd_mono hu (h.bd n o hn)}
theorem HSat.lookEq{H':A1}(h:HSat W0 Fr U H ρ w)(he:∀ n,look H' n=look H n):HSat W0 Fr U H' ρ w :=
 {h with
  used:=λn o hn=>h.used n o (by rw[<-he n];exact hn)
  bd:=λn o hn=>h.bd n o (by rw[<-he n];exact hn)
  obj:=λn o hn=>h.obj n o (by rw[<-he n];exact hn)
  inj:=λn m o o' p q hn hm=>h.inj n m o o' p q (by rw[<-he n];exact hn) (by rw[<-he m];exact hm)
  free:=λn o p hn=>h.free n o p (by rw[<-he n];exact hn)
  rawd:=λn o ts D sz F hn hr hc =>
   have k:=h.rawd n o ts D sz F (by rw[<-he n];exact hn) hr hc
   ⟨k.sat,k.free,λm o' q hm=>k.sep m o' q (by rw[<-he m];exact hm),λm o' ts' D' sz' F' hm=>k.sepr m o' ts' D' sz' F' (by rw[<-he m];exact hm)⟩}
theorem HSat.same(h:HSat W0 Fr U H ρ w)(hh:w'.heap=w.heap)(ho:w'.os=w.os)(ht:w'.tape=w.tape)(hp:w'.output=w.output):HSat W0 Fr U H ρ w' :=
 {h with
  os:=ho.trans h.os,tape:=ht.trans h.tape,output:=hp.trans h.output
  size:=by rw[hh];exact h.size
  frame:=λb hb=>by rw[hh];exact h.frame b hb
  obj:=λn o hn=>(h.obj n o hn).congr (λb _ _ _ _ _=>by rw[hh]) (λ_ _=>rfl)
  rawd:=λn o ts D sz F hn hr hc =>
   have k:=h.rawd n o ts D sz F hn hr hc
   ⟨λb hb=>(k.sat b hb).congr λ_=>by rw[hh],k.free,k.sep,k.sepr⟩}
theorem HSat.drew(h:HSat W0 Fr U H ρ w):HSat W0 Fr U H ρ w.drew:=h.same rfl rfl rfl rfl
theorem HSat.below(h:HSat W0 Fr U H ρ w)(hb:Below w.heap.size w w'):HSat W0 Fr U H ρ w' :=
 {h with
  os:=hb.os.trans h.os,tape:=hb.tape.trans h.tape,output:=hb.output.trans h.output
  size:=Nat.le_trans h.size hb.size
  frame:=λb hF=>(hb.block b (Nat.lt_of_lt_of_le (h.frlt b hF) h.size)).trans (h.frame b hF)
  obj:=λn o hn=>(h.obj n o hn).congr (λb _ _ _ _ hlt=>hb.block b hlt) (λ_ _=>rfl)
  rawd:=λn o ts D sz F hn hr hc =>
   have k:=h.rawd n o ts D sz F hn hr hc
   ⟨λb hD=>(k.sat b hD).congr λhlt=>hb.block b hlt,k.free,k.sep,k.sepr⟩}
def Rho.set(ρ:Rho)(n:Nm)(p:Nat×Nat×Nat):Rho:=λm=>if m=n then some p else ρ m
theorem Rho.set_agree{n:Nm}{p:Nat×Nat×Nat}(hn:¬U n):∀ m,U m->ρ.set n p m=ρ m:=λm hm=>by
 unfold Rho.set;rw[if_neg];intro e;subst e;exact hn hm
theorem Rho.set_self{n:Nm}{p:Nat×Nat×Nat}:ρ.set n p n=some p:=by simp[Rho.set]
theorem R9(o:Obj){b:Nat}(h:b<w.heap.size):(w.alloc o).heap[b]? = w.heap[b]? := by
 show (w.heap.push o)[b]? = _;rw[Array.getElem?_push,if_neg (by omega)]
theorem Y1(o:Obj):(w.alloc o).heap[w.heap.size]? = some o:=by
 show (w.heap.push o)[w.heap.size]? = _;simp
theorem W4.lt{o:Ob}{b off cp:Nat}(h:W4 w ρ o (some (b,off,cp)))(hr:o.rw=true):b<w.heap.size:=by
 obtain⟨_,arr,h4,_⟩:=h.2.1 hr;rcases Nat.lt_or_ge b w.heap.size with h'|h'
 ·exact h'
 ·simp[Array.getElem?_eq_none h']at h4
theorem HSat.alloc(h:HSat W0 Fr U H ρ w){n:Nm}(hn:¬U n){t:TypeId}{c:a9}(hraw:c.isRaw=false)(hc:c.bd U){arr:Array Value}{es cp:Nat}(hs:c.size<=arr.size/\(0<es->arr.size=cp*es)/\cp<=maxLen)
  (ha:∀ i,i<c.size->arr[i]? = some ((c.at i).den ρ)) :
  HSat W0 Fr (λm=>U m∨m=n) ((n,⟨true,t,c,es⟩) :: H) (ρ.set n (w.heap.size,0,cp)) (w.alloc (.cells arr t)) where
 os:=h.os
 tape:=h.tape
 output:=h.output
 size:=by rw[World.size_alloc];exact Nat.le_succ_of_le h.size
 frlt:=h.frlt
 frame:=λb hb=>by
  rw[R9 _ (Nat.lt_of_lt_of_le (h.frlt b hb) h.size)];exact h.frame b hb
 used:=λm o hm=>by
  rw[g8]at hm;split at hm
  ·rename_i e;exact .inr e.symm
  ·exact .inl (h.used m o hm)
 bd:=λm o hm=>by
  rw[g8]at hm;split at hm
  ·cases hm;exact a9.bd_mono (λ_ h=>.inl h) hc
  ·exact a9.bd_mono (λ_ h=>.inl h) (h.bd m o hm)
 obj:=λm o hm=>by
  rw[g8]at hm;split at hm
  ·rename_i e;subst e;cases hm;rw[Rho.set_self];refine⟨λi hi=>?_,λ_=>⟨rfl,arr,Y1 _,hs⟩,λ_=>hs.2.2⟩;rw[SV.den_congr (Rho.set_agree hn) _ (hc i hi),<-ha i hi];simp only[World.cell?,Y1];simp
  ·have hm':=h.used m o hm;rw[Rho.set_agree hn m hm'];exact(h.obj m o hm).congr (λb _ _ _ _ hlt=>R9 _ hlt) (λi hi=>SV.den_congr (Rho.set_agree hn) _ (h.bd m o hm i hi))
 inj:=λm1 m2 o1 o2 p q h1 h2 hne hr hr2 hp hq=>by
  rw[g8]at h1 h2;split at h1
  ·rename_i e;subst e;rw[if_neg hne]at h2;rw[Rho.set_self]at hp;cases hp;rw[Rho.set_agree hn m2 (h.used _ _ h2)]at hq;have ho:=h.obj _ _ h2;rw[hq]at ho;intro e;rcases hr2 with hr2|hr2
   ·have:=W4.lt (b:=q.1) (off:=q.2.1) (cp:=q.2.2) ho hr2;simp at e;omega
   ·have:=a0H (ho.1 0 hr2);simp at e this;omega
  ·rw[Rho.set_agree hn m1 (h.used _ _ h1)]at hp;split at h2
   ·rename_i e;subst e;rw[Rho.set_self]at hq;cases hq;have ho:=h.obj _ _ h1;rw[hp]at ho;have:=W4.lt (b:=p.1) (off:=p.2.1) (cp:=p.2.2) ho hr;show p.1≠w.heap.size;omega
   ·rw[Rho.set_agree hn m2 (h.used _ _ h2)]at hq;exact h.inj m1 m2 o1 o2 p q h1 h2 hne hr hr2 hp hq
 free:=λm o p hm hr hp=>by
  rw[g8]at hm;split at hm
  ·rename_i e;subst e;rw[Rho.set_self]at hp;cases hp;intro hF;have h1:w.heap.size<W0.heap.size:=h.frlt _ hF;have:=h.size;omega
  ·rw[Rho.set_agree hn m (h.used _ _ hm)]at hp;exact h.free m o p hm hr hp
 rawd:=λm o ts D sz F hm hr hc=>by
  rw[g8]at hm;split at hm
  ·cases hm;simp only at hc;rw[hc]at hraw;cases hraw
  ·have k:=h.rawd m o ts D sz F hm hr hc;refine⟨λb hb=>(k.sat b hb).congr λhlt=>R9 _ hlt,k.free,λm' o' q hm' hne hr' hq=>?_,λm' o' ts' D' sz' F' hm' hne hr' hc'=>?_⟩
   ·rw[g8]at hm';split at hm'
    ·rename_i e;subst e;rw[Rho.set_self]at hq;cases hq;intro hD;have:=(k.sat _ hD).lt;simp at this
    ·rw[Rho.set_agree hn m' (h.used _ _ hm')]at hq;exact k.sep m' o' q hm' hne hr' hq
   ·rw[g8]at hm';split at hm'
    ·cases hm';simp only at hc';rw[hc']at hraw;cases hraw
    ·exact k.sepr m' o' ts' D' sz' F' hm' hne hr' hc'
theorem HSat.store(h:HSat W0 Fr U H ρ w){n:Nm}{o:Ob}(hn:look H n=some o)(hr:o.rw=true){b off cp i:Nat}(hp:ρ n=some (b,off,cp)){v:SV}(hv:v.bd U)
  {c':a9} (hi:i<o.c.size) (hs:c'.size=o.c.size) (hc:∀ j,j<o.c.size->c'.at j=if j=i then v else o.c.at j) :
  HSat W0 Fr U ((n,{o with c:=c'}) :: H) ρ (w.setCell ⟨b,off+i,none⟩ (v.den ρ)) where
 os:=h.os
 tape:=h.tape
 output:=h.output
 size:=by rw[World.size_setCell];exact h.size
 frlt:=h.frlt
 frame:=λk hk=>by
  rw[Below.heap_setCell _ _ _ _ (λe=>h.free n o _ hn hr hp (by subst e;exact hk))];exact h.frame k hk
 used:=λm o' hm=>by
  rw[g8]at hm;split at hm
  ·rename_i e;subst e;exact h.used _ o hn
  ·exact h.used m o' hm
 bd:=λm o' hm=>by
  rw[g8]at hm;split at hm
  ·cases hm;intro j hj;have hj':j<o.c.size:=hs▸hj;show (c'.at j).bd U;rw[hc j hj'];split
   ·exact hv
   ·exact h.bd n o hn j hj'
  ·exact h.bd m o' hm
 obj:=λm o' hm=>by
  have ho:=h.obj n o hn;rw[hp]at ho;obtain⟨h1,h2,_⟩:=ho;obtain⟨h3,arr,h4,h5⟩:=h2 hr;rw[g8]at hm;split at hm
  ·rename_i e;subst e;cases hm;rw[hp];refine⟨λj hj=>?_,λ_=>⟨h3,arr.setIfInBounds (off+i) (v.den ρ),?_,?_⟩,λ_=>h5.2.2⟩
   ·have hj':j<o.c.size:=hs▸hj;show _=some ((c'.at j).den ρ);rw[hc j hj'];by_cases hji:j=i
    ·subst hji;rw[if_pos rfl];exact World.cell?_setCell_same _ _ _ (h1 j hj')
    ·rw[if_neg hji,World.cell?_setCell_other _ _ _ _ (by intro e;injection e;omega)];exact h1 j hj'
   ·simp[World.setCell,Array.getElem?_modify,h4]
   ·show c'.size<=_/\_;rw[hs];simpa using h5
  ·rename_i hne;refine(h.obj m o' hm).congr (λb' off' cp' hb' hs' _=>Below.heap_setCell _ _ _ _ λe=>?_) (λ_ _=>rfl);exact h.inj n m o o' (b,off,cp) (b',off',cp') hn hm hne hr hs' hp hb' e.symm
 inj:=λm1 m2 o1 o2 p q h1 h2 hne hr1 hr2 hp hq=>by
  rw[g8]at h1 h2;split at h1 <;> split at h2
  ·rename_i e1 e2;exact absurd (e1.symm.trans e2) hne
  ·rename_i e _;subst e;cases h1;exact h.inj _ m2 o o2 p q hn h2 hne hr hr2 hp hq
  ·rename_i _ e;subst e;cases h2;exact h.inj m1 _ o1 o p q h1 hn hne hr1 (.inl hr) hp hq
  ·exact h.inj m1 m2 o1 o2 p q h1 h2 hne hr1 hr2 hp hq
 free:=λm o' p hm hr' hp'=>by
  rw[g8]at hm;split at hm
  ·rename_i e;subst e;exact h.free _ o p hn hr hp'
  ·exact h.free m o' p hm hr' hp'
 rawd:=λm o' ts D sz F hm hr' hc'=>by
  have hcr:c'.isRaw=false:=a9.not_raw (by omega);rw[g8]at hm;split at hm
  ·cases hm;simp only at hc';rw[hc']at hcr;cases hcr
  ·rename_i hne;have k:=h.rawd m o' ts D sz F hm hr' hc';refine⟨λb' hb'=>(k.sat b' hb').congr λ_=>Below.heap_setCell _ _ _ _ λe=>?_,k.free,λm' o2 q hm' hne' hr2 hq=>?_,λm' o2 ts' D' sz' F' hm' hne' hr2 hc2=>?_⟩
   ·simp only at e;subst e;exact k.sep n o _ hn hne (.inl hr) hp hb'
   ·rw[g8]at hm';split at hm'
    ·rename_i e;subst e;exact k.sep _ o q hn hne' (.inl hr) hq
    ·exact k.sep m' o2 q hm' hne' hr2 hq
   ·rw[g8]at hm';split at hm'
    ·cases hm';simp only at hc2;rw[hc2]at hcr;cases hcr
    ·exact k.sepr m' o2 ts' D' sz' F' hm' hne' hr2 hc2
end
abbrev Slots:=List (Nat×SV)
def slot:Slots->Nat->Option SV
 | [],_=>none
 | (m,v) :: r,n=>match Nat.beq m n with
  | true=>some v
  | false=>slot r n
theorem F7(m n:Nat)(v:SV)(r:Slots):slot ((m,v) :: r) n=if m=n then some v else slot r n:=by
 show (match Nat.beq m n with|true=>some v|false=>slot r n)=_;cases h:Nat.beq m n
 ·have:m≠n:=λe=>by subst e;simp at h
  simp[this]
 ·have:m=n:=eB9 h;simp[this]
structure SSat (U:Nm->Prop) (nt:Nat) (sl:Slots) (ρ:Rho) (a:Act):Prop where
 nd:a.defers=[]
 size:a.tmps.size=nt
 bd:∀ t v,slot sl t=some v->v.bd U
 val:∀ t v,slot sl t=some v->a.tmps[t]? = some (v.den ρ)
theorem SSat.mono{U U':Nm->Prop}{nt:Nat}{sl:Slots}{ρ ρ':Rho}{a:Act}(h:SSat U nt sl ρ a)(hu:∀ n,U n->U' n)(hr:∀ n,U n->ρ' n=ρ n):SSat U' nt sl ρ' a :=
 {h with
  bd:=λt v hv=>SV.bd_mono hu v (h.bd t v hv)
  val:=λt v hv=>by rw[SV.den_congr hr v (h.bd t v hv)];exact h.val t v hv}
theorem SSat.put{U:Nm->Prop}{nt:Nat}{sl:Slots}{ρ:Rho}{a:Act}(h:SSat U nt sl ρ a){d:Nat}(hd:d<nt){v:SV}(hv:v.bd U):SSat U nt ((d,v) :: sl) ρ (a.put (some d) (v.den ρ)) where
 nd:=h.nd
 size:=by simpa [Act.put]using h.size
 bd:=λt u hu=>by
  rw[F7]at hu;split at hu
  ·cases hu;exact hv
  ·exact h.bd t u hu
 val:=λt u hu=>by
  rw[F7]at hu;have:=h.size;split at hu
  ·rename_i e;subst e;cases hu;simp only[Act.put];rw[Array.getElem?_setIfInBounds_self];rw[if_pos (by omega)]
  ·rename_i e;simp only[Act.put];rw[Array.getElem?_setIfInBounds,if_neg e];exact h.val t u hu
def ofV:Value->Option SV
 | .bool true=>some .tt
 | .bool false=>some .ff
 | .int k n=>some (.int k n)
 | .float k n=>some (.flt k n)
 | .string s=>some (.str s)
 | .pointer none=>some .nilp
 | .slice none 0 0=>some .nils
 | .nilIface=>some .nili
 | .nilFunc=>some .nilf
 | _=>none
theorem a8O{v:Value}{s:SV}(h:ofV v=some s)(ρ:Rho)(U:Nm->Prop):s.den ρ=v/\s.bd U:=by
 unfold ofV at h;split at h <;> simp_all <;> subst h <;> simp[SV.den,SV.bd]
def opr(sl:Slots):Operand->Option SV
 | .tmp t=>slot sl t
 | .const v=>ofV v
 | .func f=>some (.fn (.func f) [] [])
 | .global _=>none
theorem H6{U:Nm->Prop}{nt:Nat}{sl:Slots}{ρ:Rho}{a:Act}(h:SSat U nt sl ρ a){x:Operand}{v:SV}(hx:opr sl x=some v):a.eval x=v.den ρ/\v.bd U:=by
 cases x with
 | tmp t =>
  have h1:=h.val t v hx;refine⟨?_,h.bd t v hx⟩;simp[Act.eval,Array.getD_eq_getD_getElem?,h1]
 | const c=>exact⟨((a8O hx ρ U).1).symm,(a8O hx ρ U).2⟩
 | func f=>simp only[opr,oI9]at hx;subst hx;simp[Act.eval,SV.den,p8,SV.bd,bdL]
 | global g=>simp[opr]at hx
inductive TK where
 | bool|int (k:IntKind)|flt (k:FloatKind)|str|ptr (e:Nat)|slice (e:Nat)|array (n e:Nat)|struct (fs:List (Nat×Nat))|iface|func|other
def G9:TypeDesc->TK
 | .bool=>.bool
 | .int k=>.int k
 | .float k=>.flt k
 | .string=>.str
 | .pointer e=>.ptr e
 | .slice e=>.slice e
 | .array n e=>.array n e
 | .struct fs=>.struct (fs.toList.map λf=>(f.offset,f.type))
 | .interface _=>.iface
 | .func _ _ _=>.func
 | _=>.other
mutual
def SV.closed:SV->Bool
 | .ptr _ _=>false
 | .slc _ _ _ _=>false
 | .slcc _ _=>false
 | .pb _ _ _=>false
 | .dv _ _=>false
 | .slb _ _ _ _ _=>false
 | .agg cs=>F0 cs
 | .tup vs=>F0 vs
 | .ifc _ v=>v.closed
 | .opt _ _ v=>v.closed
 | .fn _ a c=>F0 a&&F0 c
 | _=>true
def F0:List SV->Bool
 | []=>true
 | v :: r=>v.closed&&F0 r
end
mutual
theorem SV.bd_closed(U:Nm->Prop):∀ v:SV,v.closed=true->v.bd U
 | .ptr _ _=>by simp[SV.closed]
 | .slc _ _ _ _=>by simp[SV.closed]
 | .slcc _ _=>by simp[SV.closed]
 | .pb _ _ _ | .dv _ _ | .slb _ _ _ _ _=>by simp[SV.closed]
 | .agg cs=>by simpa [SV.bd,SV.closed]using I1 U cs
 | .tup cs=>by simpa [SV.bd,SV.closed]using I1 U cs
 | .ifc _ v=>by simpa [SV.bd,SV.closed]using SV.bd_closed U v
 | .opt _ _ v=>by simpa [SV.bd,SV.closed]using SV.bd_closed U v
 | .fn _ a c=>by simpa [SV.bd,SV.closed]using λh1 h2=>⟨I1 U a h1,I1 U c h2⟩
 | .tt | .ff | .bool _ | .int _ _ | .flt _ _ | .str _ | .nilp | .nils | .nili | .nilf | .sla _ _ _=>by simp[SV.bd]
theorem I1(U:Nm->Prop):∀ l:List SV,F0 l=true->bdL U l
 | []=>by simp[bdL]
 | v :: r=>by simpa [bdL,F0]using λh1 h2=>⟨SV.bd_closed U v h1,I1 U r h2⟩
end
theorem SV.den_closed(ρ ρ':Rho){v:SV}(h:v.closed=true):v.den ρ'=v.den ρ :=
 SV.den_congr (U:=λ_=>False) (λ_ h=>h.elim) v (SV.bd_closed _ v h)
structure Mth where
 name:String
 f:Nat
 off:Option Nat
def a8h:List Mth->String->Option Mth
 | [],_=>none
 | m :: r,n=>match m.name==n with
  | true=>some m
  | false=>a8h r n
theorem a2o:∀ {l:List Mth} {n:String} {m:Mth},a8h l n=some m->m∈l/\m.name=n
 | [],_,_,h=>by simp[a8h]at h
 | x :: r,n,m,h=>by
  unfold a8h at h;split at h
  ·rename_i he;simp only[oI9]at h;subst h;exact⟨List.mem_cons_self,by simpa using he⟩
  ·obtain⟨h1,h2⟩:=a2o h;exact⟨List.mem_cons_of_mem _ h1,h2⟩
structure TI where
 tk:TK
 size:Nat
 bytes:Nat
 zero:a9
 ms:List Mth
def MOk(P:Program)(t:Nat)(m:Mth):Prop :=
 match m.off with
 | none=>(∀(v:Value)(w:World),(method (P.types.size+Made.depth) t v m.name).run P w=.ok (m.f,v) w)/\∀(v:Value)(w:World),(nilAhead (P.types.size+Made.depth) t v m.name).run P w=.ok (some false) w
 | some o=>(∀(a:Addr)(w:World),(method (P.types.size+Made.depth) t (.pointer (some a)) m.name).run P w=.ok (m.f, .pointer (some (a.add o))) w)/\∀(a:Addr)(w:World),(nilAhead (P.types.size+Made.depth) t (.pointer (some a)) m.name).run P w=.ok (some false) w
def a8A(c:a9):List Value:=(List.range c.size).map λi=>(c.at i).den λ_=>none
def b8Z:Value->Bool
 | .agg _=>true
 | _=>false
def b3c:TK->Bool
 | .struct _=>true
 | .array _ _=>true
 | _=>false
structure TOk (P:Program) (t:Nat) (ti:TI):Prop where
 tk:(P.underlying t).map G9=some ti.tk
 sz:(P.info? t).map (λi=>(i.size,i.bytes))=some (ti.size,ti.bytes)
 zero:((P.info? t).bind (·.zero)).map (λz=>z.cells.toList)=some (a8A ti.zero)
 zsz:ti.zero.size=ti.size
 cl:∀ i,i<ti.zero.size->(ti.zero.at i).closed=true
 ms:∀ m∈ti.ms,MOk P t m
 za:((P.info? t).bind (·.zero)).map b8Z=some (b3c ti.tk)
 zr:ti.zero.isRaw=false
def a2p:a9->Bool
 | .cells l=>F0 l
 | .ints _ _ _=>true
 | .flts _ _ _=>true
 | .gen _ _=>false
 | .upto _ _=>false
 | .raw _ _ _ _=>false
theorem TOk.mk'{P:Program}{t:Nat}{ti:TI}(h1:(P.underlying t).map G9=some ti.tk)(h2:(P.info? t).map (λi=>(i.size,i.bytes))=some (ti.size,ti.bytes))
  (h3:((P.info? t).bind (·.zero)).map (λz=>z.cells.toList)=some (a8A ti.zero)) (h4:ti.zero.size=ti.size) (h5:a2p ti.zero=true) (h6:∀ m∈ti.ms,MOk P t m) (h7:((P.info? t).bind (·.zero)).map b8Z=some (b3c ti.tk)):TOk P t ti :=
 ⟨h1,h2,h3,h4,λi hi=>by
  cases hz:ti.zero with
  | cells l =>
   rw[hz]at h5 hi;clear h1 h2 h3 h4 h7 hz;simp only[a2p]at h5;simp only[a9.at]
   induction l generalizing i with
   | nil=>simp[a9.size]at hi
   | cons x r ih =>
    simp only[F0,bA9]at h5
    cases i with
    | zero=>simpa [I3]using h5.1
    | succ i=>simpa [I3]using ih i (by simpa [a9.size]using hi) h5.2
  | ints k n g=>rfl
  | flts k n g=>rfl
  | gen n f=>rw[hz]at h5;simp[a2p]at h5
  | upto n l=>rw[hz]at h5;simp[a2p]at h5
  | raw ts D sz F=>rw[hz]at h5;simp[a2p]at h5,h6,h7,by cases hz:ti.zero <;> simp_all[a2p,a9.isRaw]⟩
theorem o8{P:Program}{t:Nat}:∀ m∈([]:List Mth),MOk P t m:=λ_ h=>by simp at h
theorem l8{P:Program}{t:Nat}{m:Mth}{l:List Mth}(h1:MOk P t m)(h2:∀ m∈l,MOk P t m):∀ x∈m :: l,MOk P t x:=λx hx=>by
 rcases List.mem_cons.1 hx with rfl|hx
 ·exact h1
 ·exact h2 x hx
def a6S:TypeDesc->Bool
 | .pointer _=>true
 | _=>false
def c3F(P:Program)(t:Nat)(name:String)(f:Nat):Bool :=
 match P.info? t with
 | none=>false
 | some i=>match i.methods.find? (·.name==name)with
  | none=>false
  | some m=>match m.path.toList with
   | []=>match P.underlying t with
    | none=>false
    | some d=>match m.func with
     | some (g,p)=>g==f&&p==a6S d
     | none=>false
   | _=>false
theorem a7J(P:Program):∃ k,P.types.size+Made.depth=k+1:=⟨P.types.size+(Made.depth-1),by unfold Made.depth;omega⟩
theorem MOk.of_chk{P:Program}{t:Nat}{name:String}{f:Nat}(h:c3F P t name f=true):MOk P t ⟨name,f,none⟩:=by
 unfold c3F at h;split at h
 ·cases h
 ·rename_i i hi;split at h
  ·cases h
  ·rename_i m hm;split at h
   ·rename_i hp;split at h
    ·cases h
    ·rename_i d hd;split at h
     ·rename_i g p hf;simp only[bA9,beq_iff_eq]at h;obtain⟨rfl,rfl⟩:=h;obtain⟨k,hk⟩:=a7J P;have hm':i.methods.find? (λx=>x.name==name)=some m:=hm;refine⟨λv w=>?_,λv w=>?_⟩
      ·rw[hk];unfold method;simp only[Sem.run_bind,typeInfo,run_program,Result.andThen_ok,hi,Sem.run_pure,hm',hp,follow,hf];unfold receiverAt;simp only[Sem.run_bind,run_underlying hd,Result.andThen_ok];cases d <;> simp[a6S,Place.get]
      ·rw[hk];unfold nilAhead;simp only[Sem.run_bind,typeInfo,run_program,Result.andThen_ok,hi,Sem.run_pure,hm',hp,followBlind,hf];cases d <;> simp[a6S,run_underlying hd]
     ·cases h
   ·cases h
def c1y(P:Program)(t:Nat)(name:String)(f o:Nat):Bool :=
 match P.info? t with
 | none=>false
 | some i=>match i.methods.find? (·.name==name)with
  | none=>false
  | some m=>match m.path.toList with
   | [s]=>match P.underlying s.struct with
    | some (.struct fs)=>match fs[s.index]? with
     | some fd=>match P.underlying fd.type with
      | some d=>match P.info? fd.type with
       | some fi=>match m.func with
        | some (g,p)=>g==f&&(p&&(!(a6S d)&&(s.deref&&(fd.offset==o && !(fi.size==0)))))
        | none=>false
       | none=>false
      | none=>false
     | none=>false
    | _=>false
   | _=>false
theorem MOk.of_chkO{P:Program}{t:Nat}{name:String}{f o:Nat}(h:c1y P t name f o=true):MOk P t ⟨name,f,some o⟩:=by
 unfold c1y at h;split at h
 ·cases h
 ·rename_i i hi;split at h
  ·cases h
  ·rename_i m hm;split at h
   ·rename_i s hp;split at h
    ·rename_i fs hs;split at h
     ·rename_i fd hfd;split at h
      ·rename_i d hd;split at h
       ·rename_i fi hfi;split at h
        ·rename_i g p hf;simp only[bA9,beq_iff_eq,Bool.not_eq_true',beq_eq_false_iff_ne,ne_eq]at h;obtain⟨rfl,rfl,h1,h2,rfl,h3⟩:=h;obtain⟨k,hk⟩:=a7J P;have hm':i.methods.find? (λx=>x.name==name)=some m:=hm;refine⟨λa w=>?_,λa w=>?_⟩
         ·rw[hk];unfold method;simp only[Sem.run_bind,typeInfo,run_program,Result.andThen_ok,hi,Sem.run_pure,hm',hp,follow,run_underlying hs,hfd,h2,if_true,Place.get,asAddr,fieldPlace,sizeOf,hfi,h3,if_false,hf];unfold receiverAt;simp only[Sem.run_bind,run_underlying hd,Result.andThen_ok];cases d <;> simp_all[a6S]
         ·rw[hk];unfold nilAhead;simp only[Sem.run_bind,typeInfo,run_program,Result.andThen_ok,hi,Sem.run_pure,hm',hp,followBlind,run_underlying hs,hfd,h2,hf]
        ·cases h
       ·cases h
      ·cases h
     ·cases h
    ·cases h
   ·cases h
abbrev Tys:=List (Nat×TI)
def ty:Tys->Nat->Option TI
 | [],_=>none
 | (m,v) :: r,n=>match Nat.beq m n with
  | true=>some v
  | false=>ty r n
def TysOk(P:Program)(T:Tys):Prop:=∀ t ti,ty T t=some ti->TOk P t ti
theorem TysOk.nil{P:Program}:TysOk P []:=λ_ _ h=>by simp[ty]at h
theorem TysOk.cons{P:Program}{t:Nat}{ti:TI}{T:Tys}(h1:TOk P t ti)(h2:TysOk P T):TysOk P ((t,ti) :: T):=λu ui h=>by
 simp only[ty]at h;cases hb:Nat.beq t u
 ·rw[hb]at h;exact h2 u ui h
 ·rw[hb]at h;have:t=u:=eB9 hb;subst this;simp only[oI9]at h;subst h;exact h1
section
variable {P:Program} {t:Nat} {ti:TI} (h:TOk P t ti) (w:World)
include h
theorem TOk.desc:∃ d,P.underlying t=some d/\G9 d=ti.tk:=by
 have:=h.tk;simpa [Option.map_eq_some_iff]using this
theorem TOk.run_size:(sizeOf t).run P w=.ok ti.size w:=by
 have:=h.sz;rw[Option.map_eq_some_iff]at this;obtain⟨i,hi,he⟩:=this;injection he with h1 h2
 simp[sizeOf,typeInfo,hi,h1]
theorem TOk.run_info:∃ i,P.info? t=some i/\i.size=ti.size/\i.bytes=ti.bytes:=by
 have:=h.sz;rw[Option.map_eq_some_iff]at this;obtain⟨i,hi,he⟩:=this;injection he with h1 h2
 exact⟨i,hi,h1,h2⟩
theorem TOk.run_zero:∃ z,(zeroValue t).run P w=.ok z w/\z.cells.size=ti.zero.size/\∀ ρ i,i<ti.zero.size->z.cells[i]? = some ((ti.zero.at i).den ρ):=by
 have:=h.zero;rw[Option.map_eq_some_iff]at this;obtain⟨z,hz,he⟩:=this;rw[Option.bind_eq_some_iff]at hz;obtain⟨i,hi,hz⟩:=hz;refine⟨z,by simp[zeroValue,typeInfo,hi,hz],?_,λρ j hj=>?_⟩
 ·have:=congrArg List.length he;simpa [a8A]using this
 ·have h2:z.cells.toList[j]? = (a8A ti.zero)[j]? := by rw[he]
  rw[Array.getElem?_toList]at h2;rw[h2];simp[a8A,hj];exact SV.den_closed _ _ (h.cl j hj)
theorem TOk.zero_bd(U:Nm->Prop):ti.zero.bd U:=λi hi=>SV.bd_closed U _ (h.cl i hi)
theorem TOk.isAgg:(isAgg t).run P w=.ok (match ti.tk with | .struct _ | .array _ _=>true|_=>false) w:=by
 obtain⟨d,hd,hk⟩:=h.desc;rw[<-hk];cases d <;> simp[Go.isAgg,run_underlying hd,G9]
end
def okP:Option Prop->Prop
 | none=>True
 | some p=>p
def kIx:IntKind->Nat
 | .i8=>0 | .i16=>1 | .i32=>2 | .i64=>3 | .u8=>4 | .u16=>5 | .u32=>6 | .u64=>7
def kEq(k k':IntKind):Bool:=Nat.beq (kIx k) (kIx k')
theorem a0a{k k':IntKind}(h:kEq k k'=true):k=k':=by
 have:=eB9 h;cases k <;> cases k' <;> simp_all[kIx]
def fIx:FloatKind->Nat
 | .f32=>0 | .f64=>1
def a4c(k k':FloatKind):Bool:=Nat.beq (fIx k) (fIx k')
theorem P3{k k':FloatKind}(h:a4c k k'=true):k=k':=by
 have:=eB9 h;cases k <;> cases k' <;> simp_all[fIx]
def O3(op:BinOp)(k:IntKind)(x y:Int):Int :=
 let a:=BitVec.ofInt k.bits x
 let b:=BitVec.ofInt k.bits y
 k.wrap (match op with
  | .and=>a &&& b
  | .or=>a ||| b
  | .xor=>a ^^^ b
  | _=>a &&& ~~~b).toNat
def b6Q(op:BinOp)(k:IntKind)(a b:Int):Option (SV×Option Prop) :=
 match op with
 | .add=>some (.int k (k.wrap (a+b)),none)
 | .sub=>some (.int k (k.wrap (a-b)),none)
 | .mul=>some (.int k (k.wrap (a*b)),none)
 | .quo=>some (.int k (k.wrap (a.tdiv b)),some (b≠0))
 | .rem=>some (.int k (a.tmod b),some (b≠0))
 | .and=>some (.int k (O3 .and k a b),none)
 | .or=>some (.int k (O3 .or k a b),none)
 | .xor=>some (.int k (O3 .xor k a b),none)
 | .andNot=>some (.int k (O3 .andNot k a b),none)
 | .eql=>some (.bool (a==b),none)
 | .neq=>some (.bool (a != b),none)
 | .lss=>some (.bool (decide (a<b)),none)
 | .leq=>some (.bool (decide (a<=b)),none)
 | .gtr=>some (.bool (decide (b<a)),none)
 | .geq=>some (.bool (decide (b<=a)),none)
 | _=>none
def shl(k:IntKind)(a b:Int):Int:=k.wrap (a*2 ^ (min b.toNat k.bits))
def shr(k:IntKind)(a b:Int):Int:=a.fdiv (2 ^ (min b.toNat k.bits))
def a8C(op:BinOp)(k:IntKind)(a b:Int):Option (SV×Option Prop) :=
 match op with
 | .shl=>some (.int k (shl k a b),some (0<=b))
 | .shr=>some (.int k (shr k a b),some (0<=b))
 | _=>none
def fop(op:BinOp)(k:FloatKind)(x y:Nat):Nat:=(floatBits op k x y).getD 0
def fok(op:BinOp)(k:FloatKind)(x y:Nat):Prop:=(floatBits op k x y).isSome=true
def fEq(k:FloatKind)(x y:Nat):Bool:=k.format.order x y==some .eq
def fNe(k:FloatKind)(x y:Nat):Bool:=k.format.order x y != some .eq
def fLt(k:FloatKind)(x y:Nat):Bool:=k.format.order x y==some .lt
def fLe(k:FloatKind)(x y:Nat):Bool:=k.format.order x y==some .lt||k.format.order x y==some .eq
def fGt(k:FloatKind)(x y:Nat):Bool:=k.format.order x y==some .gt
def fGe(k:FloatKind)(x y:Nat):Bool:=k.format.order x y==some .gt||k.format.order x y==some .eq
def b5M(op:BinOp)(k:FloatKind)(x y:Nat):Option (SV×Option Prop) :=
 match op with
 | .add=>some (.flt k (fop .add k x y),some (fok .add k x y))
 | .sub=>some (.flt k (fop .sub k x y),some (fok .sub k x y))
 | .mul=>some (.flt k (fop .mul k x y),some (fok .mul k x y))
 | .quo=>some (.flt k (fop .quo k x y),some (fok .quo k x y))
 | .eql=>some (.bool (fEq k x y),none)
 | .neq=>some (.bool (fNe k x y),none)
 | .lss=>some (.bool (fLt k x y),none)
 | .leq=>some (.bool (fLe k x y),none)
 | .gtr=>some (.bool (fGt k x y),none)
 | .geq=>some (.bool (fGe k x y),none)
 | _=>none
def SV.toB:SV->Option Bool
 | .tt=>some true
 | .ff=>some false
 | .bool b=>some b
 | _=>none
theorem SV.toB_den{v:SV}{b:Bool}(h:v.toB=some b)(ρ:Rho):v.den ρ=.bool b:=by
 cases v <;> simp_all[SV.toB,SV.den]
def sEq(x y:SV):Option Bool :=
 match x,y with
 | .int k a, .int k' b=>match kEq k k' with|true=>some (a==b)|false=>none
 | .flt k a, .flt k' b=>match a4c k k' with|true=>some (fEq k a b)|false=>none
 | _,_=>none
def lEq:List SV->List SV->Option Bool
 | [],[]=>some true
 | x :: xs,y :: ys=>match sEq x y with
  | some a=>match lEq xs ys with
   | some b=>some (a&&b)
   | none=>none
  | none=>none
 | _,_=>none
def U2:List Bool->List SV->Bool
 | [],[]=>true
 | k :: ks,v :: r=>match v with
  | .flt _ _=>k&&U2 ks r
  | .int _ _ => !k&&U2 ks r
  | _=>false
 | _,_=>false
def a1A(P:Program)(t:Nat)(n:List Bool):Prop :=
 P.eqGuardType P.depth t=false/\∀(xs ys:List SV)(b:Bool),U2 n xs=true->lEq xs ys=some b->∀(ρ:Rho)(w:World),
  (Op.equal t (.agg (p8 ρ xs).toArray) (.agg (p8 ρ ys).toArray)).run P w=.ok b w
def b5N(op:BinOp)(x y:ByteArray):Option (SV×Option Prop) :=
 match op with
 | .eql=>some (.bool (x.toList==y.toList),none)
 | .neq=>some (.bool (!(x.toList==y.toList)),none)
 | .lss=>some (.bool (Op.bytesLess x.toList y.toList),none)
 | .add=>some (.str (x++y),some (((x.size+y.size:Nat):Int)<=IntKind.i64.max))
 | _=>none
abbrev Flats:=List (Nat×List Bool)
def flat:Flats->Nat->Option (List Bool)
 | [],_=>none
 | (m,v) :: r,n=>match Nat.beq m n with
  | true=>some v
  | false=>flat r n
def FlatsOk(P:Program)(F:Flats):Prop:=∀ t n,flat F t=some n->a1A P t n
theorem FlatsOk.nil{P:Program}:FlatsOk P []:=λ_ _ h=>by simp[flat]at h
theorem FlatsOk.cons{P:Program}{t:Nat}{n:List Bool}{F:Flats}(h1:a1A P t n)(h2:FlatsOk P F):FlatsOk P ((t,n) :: F):=λu ui h=>by
 simp only[flat]at h;cases hb:Nat.beq t u
 ·rw[hb]at h;exact h2 u ui h
 ·rw[hb]at h;have:t=u:=eB9 hb;subst this;simp only[oI9]at h;subst h;exact h1
def b1N(op:BinOp)(b:Bool):Option (SV×Option Prop) :=
 match op with
 | .eql=>some (.bool b,none)
 | .neq=>some (.bool (!b),none)
 | _=>none
def a4G(op:BinOp)(b:Bool):Option (SV×Option Prop) :=
 match op,b with
 | .eql,true=>some (.tt,none)
 | .eql,false=>some (.ff,none)
 | .neq,true=>some (.ff,none)
 | .neq,false=>some (.tt,none)
 | _,_=>none
def b9g:BinOp->Bool
 | .shl | .shr=>true
 | _=>false
def P7:Operand->Bool
 | .const _=>true
 | _=>false
def b7B(T:Tys)(F:Flats)(op:BinOp)(t:Nat)(xo yo:Operand)(x y:SV):Option (SV×Option Prop) :=
 match x,y with
 | .int k a, .int k' b=>match b9g op with
  | true=>a8C op k a b
  | false=>match kEq k k' with
   | true=>b6Q op k a b
   | false=>none
 | .flt k a, .flt k' b=>match a4c k k' with
  | true=>b5M op k a b
  | false=>none
 | .str a, .str b=>b5N op a b
 | .agg xs, .agg ys=>match flat F t with
  | some n=>match U2 n xs with
   | true=>match lEq xs ys with
    | some b=>b1N op b
    | none=>none
   | false=>none
  | none=>none
 | .ifc _ _, .nili=>match ty T t with
  | some {tk:=.iface, ..}=>a4G op false
  | _=>none
 | .nili, .nili=>match ty T t with
  | some {tk:=.iface, ..}=>match P7 xo||P7 yo with
   | true=>a4G op true
   | false=>none
  | _=>none
 | .opt b _ _, .nili=>match ty T t with
  | some {tk:=.iface, ..}=>match P7 xo||P7 yo with
   | true=>b1N op (!b)
   | false=>none
  | _=>none
 | x,y=>match x.toB,y.toB with
  | some a,some b=>match ty T t with
   | some {tk:=.bool, ..}=>b1N op (a==b)
   | _=>none
  | _,_=>none
section
variable {P:Program} {T:Tys} {F:Flats} (hT:TysOk P T) (hF:FlatsOk P F) (w:World) (ρ:Rho)
theorem b0x{op:BinOp}{k:IntKind}{a b:Int}{v:SV}{o:Option Prop}(h:b6Q op k a b=some (v,o))(ho:okP o)(t:Nat) :
  (binOp op t (.int k a) (.int k b)).run P w=.ok (v.den ρ) w/\v.closed=true:=by
 cases op <;> simp only[b6Q,oI9,pI9,reduceCtorEq]at h <;> obtain⟨rfl,rfl⟩:=h <;>
  simp_all[okP,binOp,Op.intArith,Op.intDiv,Op.intBits,Op.intCmp,SV.den,SV.closed,O3]
theorem a7o{op:BinOp}{k k':IntKind}{a b:Int}{v:SV}{o:Option Prop}(h:a8C op k a b=some (v,o))(ho:okP o)(t:Nat) :
  (binOp op t (.int k a) (.int k' b)).run P w=.ok (v.den ρ) w/\v.closed=true:=by
 cases op <;> simp only[a8C,oI9,pI9,reduceCtorEq]at h <;> obtain⟨rfl,rfl⟩:=h <;>
  simp[binOp,Op.shift,SV.den,SV.closed,shl,shr,Int.not_lt.2 (show 0<=b from ho)]
theorem b1a{op:BinOp}{k:FloatKind}{a b:Nat}{v:SV}{o:Option Prop}(h:b5M op k a b=some (v,o))(ho:okP o)(t:Nat) :
  (binOp op t (.float k a) (.float k b)).run P w=.ok (v.den ρ) w/\v.closed=true:=by
 have key:∀ op,fok op k a b->(binOp op t (.float k a) (.float k b)).run P w=.ok (.float k (fop op k a b)) w:=by
  intro op hk;obtain⟨r,hr⟩:=Option.isSome_iff_exists.1 hk;rw[run_float_arith w op t k a b r hr];simp[fop,hr]
 cases op <;> simp only[b5M,oI9,pI9,reduceCtorEq]at h <;> obtain⟨rfl,rfl⟩:=h <;>
  first|exact⟨key _ ho,rfl⟩|simp[binOp,Op.floatCmp,SV.den,SV.closed,fEq,fNe,fLt,fLe,fGt,fGe]
theorem b1b{op:BinOp}{a b:ByteArray}{v:SV}{o:Option Prop}(h:b5N op a b=some (v,o))(ho:okP o)(t:Nat) :
  (binOp op t (.string a) (.string b)).run P w=.ok (v.den ρ) w/\v.closed=true:=by
 cases op <;> simp only[b5N,oI9,pI9,reduceCtorEq]at h <;> obtain⟨rfl,rfl⟩:=h <;>
  simp_all[okP,binOp,Op.stringOp,SV.den,SV.closed,Int.not_lt.2]
end
section
variable {P:Program} {T:Tys} {F:Flats} (w:World) (ρ:Rho)
theorem N8{op:BinOp}{b:Bool}{v:SV}{o:Option Prop}(h:b1N op b=some (v,o)){t:Nat}{x y:Value}
  (hx:∀ k n,x≠ .int k n) (hx2:∀ k n,x≠ .float k n) (hx3:∀ k n m,x≠ .complex k n m) (hx4:∀ s,x≠ .string s) (he:(Op.equal t x y).run P w=.ok b w) :
  (binOp op t x y).run P w=.ok (v.den ρ) w/\v.closed=true:=by
 cases op <;> simp only[b1N,oI9,pI9,reduceCtorEq]at h <;> obtain⟨rfl,rfl⟩:=h <;>
  cases x <;> simp_all[binOp,SV.den,SV.closed]
theorem O9{op:BinOp}{b:Bool}{v:SV}{o:Option Prop}(h:a4G op b=some (v,o)){t:Nat}{x y:Value}
  (hx:∀ k n,x≠ .int k n) (hx2:∀ k n,x≠ .float k n) (hx3:∀ k n m,x≠ .complex k n m) (hx4:∀ s,x≠ .string s) (he:(Op.equal t x y).run P w=.ok b w) :
  (binOp op t x y).run P w=.ok (v.den ρ) w/\v.closed=true:=by
 cases b <;> cases op <;> simp only[a4G,oI9,pI9,reduceCtorEq]at h <;> obtain⟨rfl,rfl⟩:=h <;>
  cases x <;> simp_all[binOp,SV.den,SV.closed]
theorem K9(t:Nat)(x y:Value):Op.equal t x y=Op.equalIn (9999+1) t x y:=rfl
theorem L9{t:Nat}{ms:Array (String×TypeId)}(hd:P.underlying t=some (.interface ms))(u:TypeId)(z:Value) :
  (Op.equal t (.iface u z) .nilIface).run P w=.ok false w:=by
 rw[K9];unfold Op.equalIn;simp only[Sem.run_bind,run_underlying hd,Result.andThen_ok,Sem.run_pure]
theorem P9{t:Nat}{ms:Array (String×TypeId)}(hd:P.underlying t=some (.interface ms)) :
  (Op.equal t .nilIface .nilIface).run P w=.ok true w:=by
 rw[K9];unfold Op.equalIn;simp only[Sem.run_bind,run_underlying hd,Result.andThen_ok,Sem.run_pure]
theorem a5w{t:Nat}(hd:P.underlying t=some .bool)(a b:Bool) :
  (Op.equal t (.bool a) (.bool b)).run P w=.ok (a==b) w:=by
 rw[K9];unfold Op.equalIn;simp only[Sem.run_bind,run_underlying hd,Result.andThen_ok,Sem.run_pure]
theorem b0I{op:BinOp}{t:Nat}{xo yo:Operand}{a b:Array Value}(h:P.eqGuardType P.depth t=false) :
  (eqGuard op t xo yo (.agg a) (.agg b)).run P w=.ok () w:=by
 cases op <;> simp[eqGuard,h]
theorem b1y(hT:TysOk P T)(hF:FlatsOk P F){op:BinOp}{t:Nat}{xo yo:Operand}{x y v:SV}{o:Option Prop}(h:b7B T F op t xo yo x y=some (v,o))(ho:okP o)
  (hxo:P7 xo=true->xo=.const (x.den ρ)) (hyo:P7 yo=true->yo=.const (y.den ρ)) :
  (do eqGuard op t xo yo (x.den ρ) (y.den ρ);binOp op t (x.den ρ) (y.den ρ):Sem Value).run P w=.ok (v.den ρ) w/\v.closed=true:=by
 unfold b7B at h;split at h
 ·rename_i k a k' b;have hg:(eqGuard op t xo yo (.int k a) (.int k' b)).run P w=.ok () w:=by rw[eqGuard_at_int];rfl
  simp only[SV.den,Sem.run_bind,hg,Result.andThen_ok];split at h
  ·exact a7o w ρ h ho t
  ·split at h
   ·rename_i hk;rw[a0a hk]at h ⊢;exact b0x w ρ h ho t
   ·cases h
 ·rename_i k a k' b;have hg:(eqGuard op t xo yo (.float k a) (.float k' b)).run P w=.ok () w:=by rw[eqGuard_at_float];rfl
  simp only[SV.den,Sem.run_bind,hg,Result.andThen_ok];split at h
  ·rename_i hk;rw[P3 hk]at h ⊢;exact b1a w ρ h ho t
  ·cases h
 ·rename_i a b;have hg:(eqGuard op t xo yo (.string a) (.string b)).run P w=.ok () w:=by rw[eqGuard_at_string];rfl
  simp only[SV.den,Sem.run_bind,hg,Result.andThen_ok];exact b1b w ρ h ho t
 ·rename_i xs ys;split at h
  ·rename_i n hn;split at h
   ·rename_i hlen;split at h
    ·rename_i b hb;obtain⟨h1,h2⟩:=hF t n hn;simp only[SV.den,Sem.run_bind,b0I w h1,Result.andThen_ok];exact N8 w ρ h (by simp) (by simp) (by simp) (by simp) (h2 xs ys b hlen hb ρ w)
    ·cases h
   ·cases h
  ·cases h
 ·rename_i u z;split at h
  ·rename_i ti hti;have htk:=hT t _ hti;obtain⟨d,hd,hk⟩:=htk.desc;have hg:(eqGuard op t xo yo (.iface u (z.den ρ)) .nilIface).run P w=.ok () w:=by rw[eqGuard_at_iface];rfl
   simp only[SV.den,Sem.run_bind,hg,Result.andThen_ok];refine O9 w ρ h (by simp) (by simp) (by simp) (by simp) ?_;cases d <;> simp[G9]at hk
   exact L9 w hd u _
  ·cases h
 ·split at h
  ·rename_i ti hti;split at h
   ·rename_i hc;have htk:=hT t _ hti;obtain⟨d,hd,hk⟩:=htk.desc
    have hg:(eqGuard op t xo yo .nilIface .nilIface).run P w=.ok () w:=by
     simp only[Bool.or_eq_true]at hc;rcases hc with hc|hc
     ·rw[hxo hc,eqGuard_nil_constL];rfl
     ·rw[hyo hc,eqGuard_nil_constR];rfl
    simp only[SV.den,Sem.run_bind,hg,Result.andThen_ok];refine O9 w ρ h (by simp) (by simp) (by simp) (by simp) ?_;cases d <;> simp[G9]at hk
    exact P9 w hd
   ·cases h
  ·cases h
 ·rename_i b u z;split at h
  ·rename_i ti hti;split at h
   ·rename_i hc;have htk:=hT t _ hti;obtain⟨d,hd,hk⟩:=htk.desc;cases b
    ·have hg:(eqGuard op t xo yo .nilIface .nilIface).run P w=.ok () w:=by
      simp only[Bool.or_eq_true]at hc;rcases hc with hc|hc
      ·rw[hxo hc];simp only[SV.den];rw[eqGuard_nil_constL];rfl
      ·rw[hyo hc];simp only[SV.den];rw[eqGuard_nil_constR];rfl
     simp only[SV.den,Sem.run_bind,hg,Result.andThen_ok];refine N8 w ρ h (by simp) (by simp) (by simp) (by simp) ?_;cases d <;> simp[G9]at hk
     exact P9 w hd
    ·have hg:(eqGuard op t xo yo (.iface u (z.den ρ)) .nilIface).run P w=.ok () w:=by rw[eqGuard_at_iface];rfl
     simp only[SV.den,Sem.run_bind,hg,Result.andThen_ok];refine N8 w ρ h (by simp) (by simp) (by simp) (by simp) ?_;cases d <;> simp[G9]at hk
     exact L9 w hd u _
   ·cases h
  ·cases h
 ·split at h
  ·rename_i a b ha hb;split at h
   ·rename_i ti hti;have htk:=hT t _ hti;obtain⟨d,hd,hk⟩:=htk.desc;rw[SV.toB_den ha,SV.toB_den hb];have hg:(eqGuard op t xo yo (.bool a) (.bool b)).run P w=.ok () w:=by rw[eqGuard_at_bool];rfl
    simp only[Sem.run_bind,hg,Result.andThen_ok];refine N8 w ρ h (by simp) (by simp) (by simp) (by simp) ?_;cases d <;> simp[G9]at hk
    exact a5w w hd a b
   ·cases h
  ·cases h
end
def c5p(k:FloatKind)(b:Nat):Nat:=Op.negFloat k b
def c2H(op:UnOp)(x:SV):Option (SV×Option Prop) :=
 match op,x with
 | .not, .tt=>some (.ff,none)
 | .not, .ff=>some (.tt,none)
 | .not, .bool b=>some (.bool (!b),none)
 | .neg, .int k n=>some (.int k (k.wrap (0-n)),none)
 | .neg, .flt k b=>some (.flt k (c5p k b),none)
 | .xor, .int k n=>some (.int k (O3 .xor k (if k.signed then -1 else k.max) n),none)
 | _,_=>none
theorem b1Y{P:Program}(w:World)(ρ:Rho){op:UnOp}{x v:SV}{o:Option Prop}(h:c2H op x=some (v,o)) :
  (Op.unary op (x.den ρ)).run P w=.ok (v.den ρ) w/\v.closed=true:=by
 unfold c2H at h
 split at h <;> simp only[oI9,pI9,reduceCtorEq]at h <;> obtain⟨rfl,rfl⟩:=h <;>
  simp[Op.unary,Op.intArith,Op.intBits,SV.den,SV.closed,c5p,O3]
def ofI(k:FloatKind)(n:Int):Nat:=k.nearest n
def toI(k:FloatKind)(bits:Nat)(d:IntKind):Int:=(floatToIntVal k bits d).getD 0
def a6U(k:FloatKind)(bits:Nat)(d:IntKind):Prop:=(floatToIntVal k bits d).isSome=true
def f2f(s:FloatKind)(bits:Nat)(d:FloatKind):Nat:=(floatToFloatBits s bits d).getD 0
def c5h(s:FloatKind)(bits:Nat)(d:FloatKind):Prop:=(floatToFloatBits s bits d).isSome=true
def b2c(T:Tys)(src dst:Nat)(x:SV):Option (SV×Option Prop) :=
 match ty T src with
 | none=>none
 | some _=>match ty T dst with
  | none=>none
  | some d=>match d.tk,x with
   | .int k, .int _ n=>some (.int k (k.wrap n),none)
   | .flt k, .int _ n=>some (.flt k (ofI k n),none)
   | .int k, .flt s b=>some (.int k (toI s b k),some (a6U s b k))
   | .flt k, .flt s b=>some (.flt k (f2f s b k),some (c5h s b k))
   | _,_=>none
theorem a8Z{P:Program}{T:Tys}(hT:TysOk P T)(w:World)(ρ:Rho){src dst:Nat}{x v:SV}{o:Option Prop}(h:b2c T src dst x=some (v,o))(ho:okP o) :
  (convert src dst (x.den ρ)).run P w=.ok (v.den ρ) w/\v.closed=true:=by
 unfold b2c at h;split at h
 ·cases h
 rename_i si hsi;split at h
 ·cases h
 rename_i di hdi;obtain⟨ds,hds,hks⟩:=(hT src si hsi).desc;obtain⟨dd,hdd,hkd⟩:=(hT dst di hdi).desc;have his:(P.underlying src).isSome=true:=by simp[hds]
 split at h <;> simp only[oI9,pI9,reduceCtorEq]at h <;> obtain⟨rfl,rfl⟩:=h <;> rename_i htk <;> rw[htk]at hkd <;> cases dd <;> simp only[G9,TK.int.injEq,TK.flt.injEq,reduceCtorEq]at hkd <;> subst hkd
 ·cases ds <;> simp[convert,run_underlying hds,run_underlying hdd,Conv.intToInt,SV.den,SV.closed]
 ·refine⟨?_,rfl⟩;simp only[SV.den];rw[run_convert_int_float w src dst _ _ _ his hdd];rfl
 ·obtain⟨r,hr⟩:=Option.isSome_iff_exists.1 ho;refine⟨?_,rfl⟩;simp only[SV.den];rw[run_convert_float_int w src dst _ _ _ r his hdd hr];simp[toI,hr]
 ·obtain⟨r,hr⟩:=Option.isSome_iff_exists.1 ho;refine⟨?_,rfl⟩;simp only[SV.den];rw[run_convert_float_float w src dst _ _ _ r his hdd hr];simp[f2f,hr]
def a9.get(c:a9)(i:Nat):Option SV :=
 match c with
 | .cells l=>I3 l i
 | .ints k _ g=>some (.int k (g i))
 | .flts k _ g=>some (.flt k (g i))
 | .gen _ f=>some (f i)
 | .upto _ l=>I3 l i
 | .raw _ _ _ _=>none
def a9.getN(c:a9):(i n:Nat)->Option (List SV)
 | _,0=>some []
 | i,n+1=>match c.get i with
  | some v=>match c.getN (i+1) n with
   | some r=>some (v :: r)
   | none=>none
  | none=>none
def a9.inb(c:a9)(i n:Nat):Prop :=
 match c with
 | .cells _=>True
 | .ints _ m _=>i+n<=m
 | .flts _ m _=>i+n<=m
 | .gen m _=>i+n<=m
 | .upto m _=>i+n<=m
 | .raw _ _ _ _=>False
def a9.inbO(c:a9)(i n:Nat):Option Prop :=
 match c with
 | .cells _=>none
 | .ints _ m _=>some (i+n<=m)
 | .flts _ m _=>some (i+n<=m)
 | .gen m _=>some (i+n<=m)
 | .upto m _=>some (i+n<=m)
 | .raw _ _ _ _=>some False
theorem a9.inbO_ok{c:a9}{i n:Nat}(h:okP (c.inbO i n)):c.inb i n:=by
 cases c <;> first|trivial|exact h
theorem a9.get_spec{c:a9}{i:Nat}{v:SV}(h:c.get i=some v)(hb:c.inb i 1):i<c.size/\c.at i=v:=by
 cases c with
 | cells l =>
  simp only[a9.get,E6]at h;obtain⟨hl,he⟩:=List.getElem?_eq_some_iff.1 h;exact⟨hl,by simp[a9.at,E6,h]⟩
 | ints k n g=>simp only[a9.get,oI9]at h;exact⟨hb,h⟩
 | flts k n g=>simp only[a9.get,oI9]at h;exact⟨hb,h⟩
 | gen n f=>simp only[a9.get,oI9]at h;exact⟨hb,h⟩
 | upto n l=>simp only[a9.get]at h;exact⟨hb,by simp[a9.at,h]⟩
 | raw ts D sz F=>simp[a9.get]at h
theorem a9.inb_head{c:a9}{i n:Nat}(h:c.inb i (n+1)):c.inb i 1/\c.inb (i+1) n:=by
 cases c <;> simp_all[a9.inb] <;> omega
theorem a9.getN_spec{c:a9}:∀ {n i:Nat} {vs:List SV},c.getN i n=some vs->c.inb i n->vs.length=n/\∀ j v,vs[j]? = some v->i+j<c.size/\c.at (i+j)=v
 | 0,i,vs,h,_=>by simp only[a9.getN,oI9]at h;subst h;simp
 | n+1,i,vs,h,hb=>by
  simp only[a9.getN]at h;split at h
  ·rename_i v hv;split at h
   ·rename_i r hr;simp only[oI9]at h;subst h;obtain⟨h1,h2⟩:=a9.inb_head hb;obtain⟨h3,h4⟩:=a9.getN_spec hr h2;refine⟨by simp[h3],λj u hu=>?_⟩
    cases j with
    | zero=>simp at hu;subst hu;simpa using a9.get_spec hv h1
    | succ j =>
     simp at hu;have:=h4 j u hu;rw[show i+(j+1)=i+1+j by omega];exact this
   ·cases h
  ·cases h
theorem Z6{P:Program}{w:World}{b o:Nat}:∀(vs:List Value)(i:Nat)(acc:Array Value),(∀ j v,vs[j]? = some v->w.cell? ⟨b,o+(i+j),none⟩=some v)->
  (loadCellsFrom ⟨b,o,none⟩ i vs.length acc).run P w=.ok (acc++vs.toArray) w
 | [],i,acc,_=>by simp[loadCellsFrom]
 | v :: r,i,acc,h=>by
  have h0:=h 0 v rfl;simp only[List.length_cons,loadCellsFrom,Sem.run_bind,run_load,Addr.add_lit];rw[show o+(i+0)=o+i by omega]at h0;rw[h0];simp only[Result.andThen_ok]
  rw[Z6 r (i+1) (acc.push v) (λj u hu=>by
   have:=h (j+1) u (by simpa using hu);rw[show o+(i+(j+1))=o+(i+1+j) by omega]at this
   exact this)]
  simp
theorem S6{P:Program}{w:World}{b o:Nat}(vs:List Value)(h:∀ j v,vs[j]? = some v->w.cell? ⟨b,o+j,none⟩=some v) :
  (loadCells ⟨b,o,none⟩ vs.length).run P w=.ok vs.toArray w:=by
 unfold loadCells;rw[Z6 vs 0 #[] (λj v hv=>by simpa using h j v hv)];simp
def TI.isAgg(ti:TI):Bool :=
 match ti.tk with
 | .struct _=>true
 | .array _ _=>true
 | _=>false
theorem TOk.isAgg'{P:Program}{t:Nat}{ti:TI}(h:TOk P t ti)(w:World):(Go.isAgg t).run P w=.ok ti.isAgg w:=by
 rw[h.isAgg w];rfl
def a8Q(ti:TI)(c:a9)(i:Nat):Option (SV×Option Prop) :=
 match ti.isAgg with
 | true=>match c.getN i ti.size with
  | some vs=>some (.agg vs,c.inbO i ti.size)
  | none=>none
 | false=>match c.get i with
  | some v=>some (v,c.inbO i 1)
  | none=>none
section
variable {P:Program} {W0:World} {Fr:Nat->Prop} {U:Nm->Prop} {H:A1} {ρ:Rho} {w:World}
theorem HSat.cell(hH:HSat W0 Fr U H ρ w){n:Nm}{o:Ob}(hn:look H n=some o){i:Nat}(hi:i<o.c.size):∃ b off cp,ρ n=some (b,off,cp)/\w.cell? ⟨b,off+i,none⟩=some ((o.c.at i).den ρ):=by
 have:=hH.obj n o hn
 cases hρ:ρ n with
 | none=>rw[hρ]at this;simp only[W4]at this;omega
 | some p =>
  rw[hρ]at this;exact⟨p.1,p.2.1,p.2.2,rfl,this.1 i hi⟩
theorem HSat.capOk(hH:HSat W0 Fr U H ρ w){n:Nm}{o:Ob}(hn:look H n=some o)(h:0<o.c.size){b off cp:Nat}(hρ:ρ n=some (b,off,cp)):cp<=maxLen:=by
 have:=hH.obj n o hn;rw[hρ]at this;exact this.2.2 h
theorem a3j{t:Nat}{ti:TI}(ht:TOk P t ti)(hH:HSat W0 Fr U H ρ w){n:Nm}{o:Ob}(hn:look H n=some o){i:Nat}{v:SV}{p:Option Prop}(h:a8Q ti o.c i=some (v,p))(hp:okP p)
  (hz:ti.isAgg=true->0<ti.size) :
  (Instr.loadAt t (.pointer (ρ.addr n i))).run P w=.ok (v.den ρ) w/\v.bd U:=by
 unfold a8Q at h;split at h
 ·rename_i hag;split at h
  ·rename_i vs hvs;simp only[oI9,pI9]at h;obtain⟨rfl,rfl⟩:=h;obtain⟨hl,hv⟩:=a9.getN_spec hvs (a9.inbO_ok hp);have hpos:=hz hag
   obtain⟨b,off,cp,hρ,_⟩:=hH.cell hn (i:=i) (by
    have:=hv 0 (vs[0]'(by omega)) (by simp)
    simpa using this.1)
   have ha:ρ.addr n i=some ⟨b,off+i,none⟩:=by simp[Rho.addr,hρ]
   refine⟨?_,?_⟩
   ·simp only[ha,Instr.loadAt,Instr.sureAddr,loadVar,Sem.run_bind,Sem.run_pure,Result.andThen_ok,ht.isAgg' w,hag,if_true,ht.run_size w]
    have:=S6 (P:=P) (w:=w) (b:=b) (o:=off+i) (p8 ρ vs) (λj u hu=>by
     rw[A4]at hu;simp only[List.getElem?_map,Option.map_eq_some_iff]at hu;obtain⟨x,hx,rfl⟩:=hu;obtain⟨h1,h2⟩:=hv j x hx;obtain⟨b',off',cp',hρ',hc⟩:=hH.cell hn h1;rw[hρ]at hρ';injection hρ' with e;injection e with e1 e2;injection e2 with e2 e3;subst e1 e2
     rw[h2]at hc
     rw[<-hc];congr 2;omega)
    rw[A4]at this;simp only[List.length_map,hl]at this;simp[this,SV.den,A4]
   ·simp only[SV.bd,G8];intro x hx;obtain⟨j,hj,rfl⟩:=List.getElem_of_mem hx;obtain⟨h1,h2⟩:=hv j _ (List.getElem?_eq_getElem hj);rw[<-h2];exact hH.bd n o hn _ h1
  ·cases h
 ·rename_i hag;split at h
  ·rename_i x hx;simp only[oI9,pI9]at h;obtain⟨rfl,rfl⟩:=h;obtain⟨h1,h2⟩:=a9.get_spec hx (a9.inbO_ok hp);obtain⟨b,off,cp,hρ,hc⟩:=hH.cell hn h1;have ha:ρ.addr n i=some ⟨b,off+i,none⟩:=by simp[Rho.addr,hρ]
   refine⟨?_,h2▸hH.bd n o hn _ h1⟩;simp only[ha,Instr.loadAt,Instr.sureAddr,loadVar,Sem.run_bind,Sem.run_pure,Result.andThen_ok,ht.isAgg' w,hag,Bool.false_eq_true,if_false,run_load,hc,h2]
  ·cases h
end
def upd{α:Type}(g:Nat->α)(i:Nat)(x:α):Nat->α:=λj=>if j=i then x else g j
def b2y:List SV->Nat->SV->Option (List SV)
 | [],_,_=>none
 | _ :: r,0,v=>some (v :: r)
 | x :: r,n+1,v=>match b2y r n v with
  | some r'=>some (x :: r')
  | none=>none
theorem a4o:∀ {l l':List SV} {i:Nat} {v:SV},b2y l i v=some l'->i<l.length/\l'=l.set i v
 | [],_,_,_,h=>by simp[b2y]at h
 | _ :: r,_,0,v,h=>by simp[b2y]at h;subst h;simp
 | x :: r,_,n+1,v,h=>by
  simp only[b2y]at h;split at h
  ·rename_i r' hr;simp only[oI9]at h;subst h;obtain⟨h1,h2⟩:=a4o hr;exact⟨by simp;omega,by simp[h2]⟩
  ·cases h
def a9.set(c:a9)(i:Nat)(v:SV):Option a9 :=
 match c with
 | .cells l=>match v.one with
  | true=>match b2y l i v with
   | some l'=>some (.cells l')
   | none=>none
  | false=>none
 | .ints k n g=>match v with
  | .int k' x=>match kEq k k' with
   | true=>some (.ints k n (upd g i x))
   | false=>none
  | _=>none
 | .flts k n g=>match v with
  | .flt k' x=>match a4c k k' with
   | true=>some (.flts k n (upd g i x))
   | false=>none
  | _=>none
 | .gen n f=>match v.one with
  | true=>some (.gen n (upd f i v))
  | false=>none
 | .upto n l=>match v.one with
  | true=>match b2y l i v with
   | some l'=>some (.upto n l')
   | none=>none
  | false=>none
 | .raw _ _ _ _=>none
theorem a9.set_spec{c c':a9}{i:Nat}{v:SV}(h:c.set i v=some c')(hb:c.inb i 1):i<c.size/\v.one=true/\c'.size=c.size/\(∀ j,j<c.size->c'.at j=if j=i then v else c.at j):=by
 cases c with
 | cells l =>
  simp only[a9.set]at h;split at h
  ·rename_i ho;split at h
   ·rename_i l' hl;simp only[oI9]at h;subst h;obtain⟨h1,rfl⟩:=a4o hl;refine⟨h1,ho,by simp[a9.size],λj hj=>?_⟩;simp only[a9.at,E6,List.getElem?_set];by_cases e:i=j
    ·subst e;simp[h1]
    ·simp[e,Ne.symm e]
   ·cases h
  ·cases h
 | ints k n g =>
  simp only[a9.set]at h;split at h
  ·rename_i k' x;split at h
   ·rename_i hk;simp only[oI9]at h;subst h;have:=a0a hk;subst this;refine⟨hb,rfl,rfl,λj _=>?_⟩;simp only[a9.at,upd];split <;> rfl
   ·cases h
  ·cases h
 | flts k n g =>
  simp only[a9.set]at h;split at h
  ·rename_i k' x;split at h
   ·rename_i hk;simp only[oI9]at h;subst h;have:=P3 hk;subst this;refine⟨hb,rfl,rfl,λj _=>?_⟩;simp only[a9.at,upd];split <;> rfl
   ·cases h
  ·cases h
 | gen n f =>
  simp only[a9.set]at h;split at h
  ·rename_i ho;simp only[oI9]at h;subst h;refine⟨hb,ho,rfl,λj _=>?_⟩;simp only[a9.at,upd]
  ·cases h
 | upto n l =>
  simp only[a9.set]at h;split at h
  ·rename_i ho;split at h
   ·rename_i l' hl;simp only[oI9]at h;subst h;obtain⟨h1,rfl⟩:=a4o hl;refine⟨hb,ho,rfl,λj _=>?_⟩;simp only[a9.at,E6,List.getElem?_set];by_cases e:i=j
    ·subst e;simp[h1]
    ·simp[e,Ne.symm e]
   ·cases h
  ·cases h
 | raw ts D sz F=>simp[a9.set]at h
def a9.setN(c:a9)(i:Nat):List SV->Option a9
 | []=>some c
 | v :: r=>match c.set i v with
  | some c'=>c'.setN (i+1) r
  | none=>none
theorem a9.inb_set{c c':a9}{i j n:Nat}{v:SV}(h:c.set i v=some c'):c'.inb j n↔c.inb j n:=by
 cases c with
 | cells l =>
  simp only[a9.set]at h;split at h
  ·split at h
   ·simp only[oI9]at h;subst h;simp[a9.inb]
   ·cases h
  ·cases h
 | ints k n g =>
  simp only[a9.set]at h;split at h
  ·split at h
   ·simp only[oI9]at h;subst h;simp[a9.inb]
   ·cases h
  ·cases h
 | flts k n g =>
  simp only[a9.set]at h;split at h
  ·split at h
   ·simp only[oI9]at h;subst h;simp[a9.inb]
   ·cases h
  ·cases h
 | gen n f =>
  simp only[a9.set]at h;split at h
  ·simp only[oI9]at h;subst h;simp[a9.inb]
  ·cases h
 | upto n l =>
  simp only[a9.set]at h;split at h
  ·split at h
   ·simp only[oI9]at h;subst h;simp[a9.inb]
   ·cases h
  ·cases h
 | raw ts D sz F=>simp[a9.set]at h
section
variable {P:Program} {W0:World} {Fr:Nat->Prop} {U:Nm->Prop} {H:A1} {ρ:Rho}
theorem a5O{w:World}(hH:HSat W0 Fr U H ρ w){n:Nm}{o:Ob}(hn:look H n=some o)(hr:o.rw=true){b cp:Nat}(hρ:ρ n=some (b,0,cp)){i:Nat}{v:SV}(hv:v.bd U){c':a9}(h:o.c.set i v=some c')(hb:o.c.inb i 1) :
  (store ⟨b,i,none⟩ (v.den ρ)).run P w=.ok () (w.setCell ⟨b,i,none⟩ (v.den ρ))/\HSat W0 Fr U ((n,{o with c:=c'}) :: H) ρ (w.setCell ⟨b,i,none⟩ (v.den ρ)):=by
 obtain⟨h1,h2,h3,h4⟩:=a9.set_spec h hb;have hs:=hH.store hn hr hρ hv h1 h3 h4;rw[Nat.zero_add]at hs;refine⟨?_,hs⟩;have ho:=hH.obj n o hn;rw[hρ]at ho;have hc:=ho.1 i h1;rw[Nat.zero_add]at hc;obtain⟨_,arr,ha,_⟩:=ho.2.1 hr;rw[run_store P w _ _ _ (SV.one_den ρ h2),hc];have hf:w.frozen? ⟨b,i,none⟩=false:=by simp[World.frozen?,ha]
 simp[hf]
end
theorem Q5{P:Program}{W0:World}{Fr:Nat->Prop}{U:Nm->Prop}{ρ:Rho}:∀(vs:List SV) {H:A1} {w:World},HSat W0 Fr U H ρ w->∀ {n:Nm} {o:Ob},look H n=some o->o.rw=true->∀ {b cp:Nat},ρ n=some (b,0,cp)->∀(base i:Nat),bdL U vs->∀ {c':a9},o.c.setN (base+i) vs=some c'->o.c.inb (base+i) vs.length->
  ∃ w',(storeCells ⟨b,base,none⟩ (p8 ρ vs) i).run P w=.ok () w'/\HSat W0 Fr U ((n,{o with c:=c'}) :: H) ρ w'
 | [],H,w,hH,n,o,hn,hr,b,cp,hρ,base,i,hv,c',h,hb=>by
  simp only[a9.setN,oI9]at h;subst h;refine⟨w,by simp[p8,storeCells],hH.lookEq λm=>?_⟩;rw[g8];split
  ·rename_i e;subst e;exact hn.symm
  ·rfl
 | v :: r,H,w,hH,n,o,hn,hr,b,cp,hρ,base,i,hv,c',h,hb=>by
  simp only[a9.setN]at h;split at h
  ·rename_i c1 h1;simp only[bdL]at hv;obtain⟨hb1,hb2⟩:=a9.inb_head (by simpa using hb);obtain⟨hrun,hH1⟩:=a5O (P:=P) hH hn hr hρ hv.1 h1 hb1
   obtain⟨w',hrun',hH'⟩:=Q5 (P:=P) (H:=(n,{o with c:=c1}) :: H) r hH1 (n:=n) (o:={o with c:=c1}) (by simp[g8]) hr hρ base (i+1) hv.2
    (c':=c') (by rw[show base+(i+1)=base+i+1 by omega];exact h) (by rw[show base+(i+1)=base+i+1 by omega];exact(a9.inb_set h1).2 hb2)
   refine⟨w',?_,hH'.lookEq λm=>?_⟩
   ·simp only[p8,storeCells,Sem.run_bind,Addr.add_lit,hrun,Result.andThen_ok,hrun']
   ·simp only[g8];split <;> rfl
  ·cases h
structure Eff where
 val:Option SV
 wr:A1
 news:A1
 rds:List Nm
 obl:Option Prop
def Eff.pure(v:SV):Eff:=⟨some v,[],[],[],none⟩
def Eff.pureO(v:SV)(p:Option Prop):Eff:=⟨some v,[],[],[],p⟩
def UU(U:Nm->Prop)(nm:Nm):Nm->Prop:=λ(n:Nat)=>U n∨(nm<=n/\n<nm+24)
theorem a0U{U:Nm->Prop}{nm:Nm}:∀ n,U n->UU U nm n:=λ_ h=>.inl h
def z9(W0 : World)(Fr : Nat -> Prop)(U : Nm -> Prop)(H : A1)(ρ : Rho)(nm : Nm)(e : Eff)(r : Result Next) : Prop :=
 ∃ ρ' w', (∀ n, U n -> ρ' n = ρ n) /\ HSat W0 Fr (UU U nm) (e.wr ++ (e.news ++ H)) ρ' w' /\
   (match e.val with
    | some v => v.bd (UU U nm) /\ r = .ok (.value (v.den ρ')) w'
    | none => r = .ok .skip w')
section
variable {P:Program} {W0:World} {Fr:Nat->Prop} {U:Nm->Prop} {H:A1} {ρ:Rho} {w:World} {nm:Nm}
theorem z9.same(hH:HSat W0 Fr U H ρ w){v:SV}(hv:v.bd U){rds:List Nm}{p:Option Prop}{r:Result Next}(hr:r=.ok (.value (v.den ρ)) w):z9 W0 Fr U H ρ nm ⟨some v,[],[],rds,p⟩ r :=
 ⟨ρ,w,λ_ _=>rfl,hH.mono a0U,SV.bd_mono a0U v hv,hr⟩
theorem z9.new(hH:HSat W0 Fr U H ρ w)(hn:¬U nm){t:TypeId}{c:a9}(hcr:c.isRaw=false)(hc:c.bd U){arr:Array Value}{es cp:Nat}(hs:c.size<=arr.size/\(0<es->arr.size=cp*es)/\cp<=maxLen)
  (ha:∀ i,i<c.size->arr[i]? = some ((c.at i).den ρ)) {p:Option Prop} {v:SV} (hv:v.bd (λn=>n=nm)) {r:Result Next}
  (hr:∀ ρ':Rho,ρ' nm=some (w.heap.size,0,cp)->r=.ok (.value (v.den ρ')) (w.alloc (.cells arr t))) :
  z9 W0 Fr U H ρ nm ⟨some v,[],[(nm,⟨true,t,c,es⟩)],[],p⟩ r:=by
 refine⟨ρ.set nm (w.heap.size,0,cp),_,Rho.set_agree hn,(hH.alloc hn (t:=t) hcr hc hs ha).mono ?_,SV.bd_mono ?_ v hv,hr _ Rho.set_self⟩
 ·intro n h;rcases h with h|h
  ·exact .inl h
  ·subst h;exact .inr ⟨Nat.le_refl _,Nat.lt_add_of_pos_right (by decide)⟩
 ·intro n h;subst h;exact .inr ⟨Nat.le_refl _,Nat.lt_add_of_pos_right (by decide)⟩
theorem c0n{n m:Nat}(h:n=m):m<=n/\(0<0->n=0*0)/\0<=maxLen:=⟨by omega,λh=>absurd h (Nat.lt_irrefl 0),Nat.zero_le _⟩
theorem V7(ρ:Rho)(vs:List SV):((p8 ρ vs).toArray.size=(a9.cells vs).size)/\∀ i,i<(a9.cells vs).size->(p8 ρ vs).toArray[i]? = some (((a9.cells vs).at i).den ρ):=by
 refine⟨by simp[A4,a9.size],λi hi=>?_⟩;have hi':i<vs.length:=hi;simp[A4,a9.at,E6,hi']
theorem a6g{vs:List SV}(h:bdL U vs):(a9.cells vs).bd U:=λi hi=>by
 have hi':i<vs.length:=hi;simp only[a9.at,E6,List.getElem?_eq_getElem hi',Option.getD_some];exact(G8 U vs).1 h _ (List.getElem_mem hi')
def a9Q(T:Tys)(nm:Nm)(t:Nat):Option Eff :=
 match ty T t with
 | some ti=>some ⟨some (.ptr nm 0),[],[(nm,⟨true,t,ti.zero,0⟩)],[],none⟩
 | none=>none
theorem a7p{T:Tys}(hT:TysOk P T)(hH:HSat W0 Fr U H ρ w)(hn:¬U nm){t:Nat}{e:Eff}(h:a9Q T nm t=some e) :
  z9 W0 Fr U H ρ nm e ((do pure (.value (<-Instr.alloc t true (.tuple #[]))):Sem Next).run P w):=by
 unfold a9Q at h;split at h
 ·rename_i ti hti;simp only[oI9]at h;subst h;have ht:=hT t ti hti;obtain⟨z,hz,hzs,hzv⟩:=ht.run_zero w;refine z9.new hH hn (cp:=0) ht.zr (ht.zero_bd U) (c0n hzs) (λi hi=>hzv ρ i hi) (by simp[SV.bd]) (λρ' hρ'=>?_);simp[Instr.alloc,hz,newVar,newRow,SV.den,Rho.addr,hρ']
 ·cases h
def c0I(nm:Nm)(t:Nat)(v:SV):Eff:=⟨some (.ptr nm 0),[],[(nm,⟨true,t, .cells v.cells,0⟩)],[],none⟩
theorem b1g(hH:HSat W0 Fr U H ρ w)(hn:¬U nm){t:Nat}{v:SV}(hv:v.bd U) :
  z9 W0 Fr U H ρ nm (c0I nm t v) ((do pure (.value (<-Instr.box t (v.den ρ))):Sem Next).run P w):=by
 obtain⟨h1,h2⟩:=V7 ρ v.cells;refine z9.new hH hn (cp:=0) rfl (a6g (SV.bd_cells hv)) (c0n h1) h2 (by simp[SV.bd]) (λρ' hρ'=>?_);simp[Instr.box,newVar,newRow,SV.den_cells,SV.den,Rho.addr,hρ']
def b5d(T:Tys)(rd:Nm->Option Ob)(t:Nat)(x:SV):Option Eff :=
 match x with
 | .ptr n i=>match ty T t with
  | some ti=>match Nat.ble 1 ti.size with
   | true=>match rd n with
    | some ob=>match a8Q ti ob.c i with
     | some (v,p)=>some ⟨some v,[],[],[n],p⟩
     | none=>none
    | none=>none
   | false=>none
  | none=>none
 | _=>none
theorem b1W{T:Tys}(hT:TysOk P T)(hH:HSat W0 Fr U H ρ w){t:Nat}{x:SV}{e:Eff}(h:b5d T (look H) t x=some e)(ho:okP e.obl) :
  z9 W0 Fr U H ρ nm e ((do pure (.value (<-Instr.loadAt t (x.den ρ))):Sem Next).run P w):=by
 unfold b5d at h;split at h
 ·rename_i n i;split at h
  ·rename_i ti hti;split at h
   ·rename_i hsz;split at h
    ·rename_i ob hob;split at h
     ·rename_i v p hv;simp only[oI9]at h;subst h;obtain⟨h1,h2⟩:=a3j (hT t ti hti) hH hob hv ho (λ_=>Nat.le_of_ble_eq_true hsz);exact z9.same hH h2 (by simp[SV.den,h1])
     ·cases h
    ·cases h
   ·cases h
  ·cases h
 ·cases h
def b4U(T:Tys)(rd:Nm->Option Ob)(t:Nat)(x v:SV):Option Eff :=
 match x with
 | .ptr n i=>match ty T t with
  | some ti=>match Nat.beq v.cells.length ti.size with
   | true=>match Nat.ble 1 ti.size with
    | true=>match rd n with
     | some ⟨true,el,c,es⟩=>match c.setN i v.cells with
      | some c'=>some ⟨none,[(n,⟨true,el,c',es⟩)],[],[n],c.inbO i ti.size⟩
      | none=>none
     | _=>none
    | false=>none
   | false=>none
  | none=>none
 | _=>none
theorem b9F{c c':a9}{i:Nat}{v:SV}{r:List SV}(h:c.setN i (v :: r)=some c')(hb:c.inb i (r.length+1)):i<c.size:=by
 simp only[a9.setN]at h;split at h
 ·rename_i c1 h1;exact(a9.set_spec h1 (a9.inb_head hb).1).1
 ·cases h
theorem b1F{T:Tys}(hT:TysOk P T)(hH:HSat W0 Fr U H ρ w){t:Nat}{x v:SV}(hv:v.bd U){e:Eff}(h:b4U T (look H) t x v=some e)(ho:okP e.obl) :
  z9 W0 Fr U H ρ nm e ((do Instr.storeAt t (x.den ρ) (v.den ρ);pure .skip:Sem Next).run P w):=by
 unfold b4U at h;split at h
 ·rename_i n i;split at h
  ·rename_i ti hti;split at h
   ·rename_i hlen;split at h
    ·rename_i hpos;split at h
     ·rename_i el c es hob;split at h
      ·rename_i c' hc';simp only[oI9]at h;subst h;have hl:=eB9 hlen;have hps:=Nat.le_of_ble_eq_true hpos;have hb:c.inb i v.cells.length:=by rw[hl];exact a9.inbO_ok ho
       have hlt:i<c.size:=by
        cases hcs:v.cells with
        | nil=>rw[hcs]at hl;simp at hl;omega
        | cons y r=>rw[hcs]at hc' hb;exact b9F hc' hb
       obtain⟨b,off,cp,hρ,_⟩:=hH.cell hob hlt;have hob':=hH.obj n _ hob;rw[hρ]at hob';obtain⟨rfl,_⟩:=hob'.2.1 rfl;have hloc:ρ.addr n i=some ⟨b,i,none⟩:=by simp[Rho.addr,hρ]
       obtain⟨w',hrun,hH'⟩:=Q5 (P:=P) v.cells hH hob rfl hρ i 0 (SV.bd_cells hv) hc' hb;refine⟨ρ,w',λ_ _=>rfl,hH'.mono a0U,?_⟩;have hsz:(p8 ρ v.cells).toArray.size=ti.size:=by simp[A4,hl]
       simp only[SV.den,hloc,Instr.storeAt,Instr.sureAddr,storeVar,Sem.run_bind,Sem.run_pure,Result.andThen_ok,(hT t ti hti).run_size w,hsz,ne_eq,not_true_eq_false,if_false,SV.den_cells,hrun]
      ·cases h
     ·cases h
    ·cases h
   ·cases h
  ·cases h
 ·cases h
end
def a9.ne(c:a9):Prop :=
 match c with
 | .cells (_ :: _)=>True
 | c=>0<c.size
def a9.neO(c:a9):Option Prop :=
 match c with
 | .cells (_ :: _)=>none
 | c=>some (0<c.size)
theorem a9.neO_ok{c:a9}(h:okP c.neO):c.ne:=by
 unfold a9.neO at h;unfold a9.ne;split at h
 ·trivial
 ·exact h
theorem a9.ne_pos{c:a9}(h:c.ne):0<c.size:=by
 unfold a9.ne at h;split at h
 ·simp[a9.size]
 ·exact h
section
variable {P:Program} {W0:World} {Fr:Nat->Prop} {U:Nm->Prop} {H:A1} {ρ:Rho} {w:World} {nm:Nm}
theorem HSat.there(hH:HSat W0 Fr U H ρ w){n:Nm}{o:Ob}(hn:look H n=some o)(hne:o.c.ne):∃ b off cp,ρ n=some (b,off,cp):=by
 obtain⟨b,off,cp,h,_⟩:=hH.cell hn (a9.ne_pos hne);exact⟨b,off,cp,h⟩
def nth{α:Type}:List α->Nat->Option α
 | [],_=>none
 | x :: _,0=>some x
 | _ :: r,n+1=>nth r n
theorem U3{α:Type}:∀(l:List α)(i:Nat),nth l i=l[i]?
 | [],_=>by simp[nth]
 | _ :: _,0=>by simp[nth]
 | _ :: r,n+1=>by simp[nth,U3 r n]
theorem a0P{P:Program}{t:Nat}{ti:TI}(ht:TOk P t ti){fs:List (Nat×Nat)}(hk:ti.tk=.struct fs){i o e:Nat}(hf:nth fs i=some (o,e)) :
  ∃ d f,P.underlying t=some (.struct d)/\d[i]? = some f/\f.offset=o/\f.type=e:=by
 obtain⟨d,hd,hd2⟩:=ht.desc;rw[hk]at hd2;cases d <;> simp only[G9,TK.struct.injEq,reduceCtorEq]at hd2
 rename_i fields;rw[U3,<-hd2]at hf;simp only[List.getElem?_map,Option.map_eq_some_iff,Array.getElem?_toList]at hf;obtain⟨f,h1,h2⟩:=hf;injection h2 with h3 h4
 exact⟨fields,f,hd,h1,h3,h4⟩
def O4(T:Tys)(rd:Nm->Option Ob)(s:Nat)(x:SV)(i:Nat):Option Eff :=
 match x with
 | .ptr n off=>match ty T s with
  | some {tk:=.struct fs, ..}=>match nth fs i with
   | some (o,e)=>match ty T e with
    | some te=>match Nat.ble 1 te.size with
     | true=>match rd n with
      | some ob=>some ⟨some (.ptr n (off+o)),[],[],[n],ob.c.neO⟩
      | none=>none
     | false=>none
    | none=>none
   | none=>none
  | _=>none
 | _=>none
theorem a3e{T:Tys}(hT:TysOk P T)(hH:HSat W0 Fr U H ρ w){s:Nat}{x:SV}(hx:x.bd U){i:Nat}{e:Eff}(h:O4 T (look H) s x i=some e)(ho:okP e.obl) :
  z9 W0 Fr U H ρ nm e ((do pure (.value (<-Instr.fieldAt s (x.den ρ) i)):Sem Next).run P w):=by
 unfold O4 at h;split at h
 ·rename_i n off;split at h
  ·rename_i fs _ _ _ hti;split at h
   ·rename_i o el hf;split at h
    ·rename_i te hte;split at h
     ·rename_i hsz;split at h
      ·rename_i ob hob;simp only[oI9]at h;subst h;obtain⟨d,f,h1,h2,rfl,rfl⟩:=a0P (hT s _ hti) rfl hf;obtain⟨b,off',cp,hρ⟩:=hH.there hob (a9.neO_ok ho);refine z9.same hH (v:=.ptr n (off+f.offset)) hx ?_;have hz:te.size≠0:=by have:=Nat.le_of_ble_eq_true hsz;omega
       simp[Instr.fieldAt,run_underlying h1,h2,Instr.sureAddr,SV.den,Rho.addr,hρ,fieldPlace,(hT _ te hte).run_size w,hz,Nat.add_assoc,Addr.add_lit]
      ·cases h
     ·cases h
    ·cases h
   ·cases h
  ·cases h
 ·cases h
def O2(T:Tys)(rd:Nm->Option Ob)(t:Nat)(x ix:SV):Option Eff :=
 match ix with
 | .int _ i=>match x with
  | .ptr n off=>match ty T t with
   | some {tk:=.array len e, ..}=>match ty T e with
    | some te=>match rd n with
     | some ob=>some ⟨some (.ptr n (off+i.toNat*te.size)),[],[],[n],some ((0<=i/\i<(len:Int))/\ob.c.ne)⟩
     | none=>none
    | none=>none
   | _=>none
  | .slc n off len _=>match ty T t with
   | some {tk:=.slice e, ..}=>match ty T e with
    | some te=>match rd n with
     | some ob=>some ⟨some (.ptr n (off+i.toNat*te.size)),[],[],[n],some ((0<=i/\i<(len:Int))/\ob.c.ne)⟩
     | none=>none
    | none=>none
   | _=>none
  | .slcc n len=>match ty T t with
   | some {tk:=.slice e, ..}=>match ty T e with
    | some te=>match rd n with
     | some ob=>some ⟨some (.ptr n (0+i.toNat*te.size)),[],[],[n],some ((0<=i/\i<(len:Int))/\ob.c.ne)⟩
     | none=>none
    | none=>none
   | _=>none
  | _=>none
 | _=>none
theorem a3H{T:Tys}(hT:TysOk P T)(hH:HSat W0 Fr U H ρ w){t:Nat}{x ix:SV}(hx:x.bd U){e:Eff}(h:O2 T (look H) t x ix=some e)(ho:okP e.obl) :
  z9 W0 Fr U H ρ nm e ((do pure (.value (<-Instr.indexAt t (x.den ρ) (ix.den ρ))):Sem Next).run P w):=by
 unfold O2 at h;split at h
 ·rename_i k i;split at h
  ·rename_i n off;split at h
   ·rename_i len el _ _ _ hti;split at h
    ·rename_i te hte;split at h
     ·rename_i ob hob;simp only[oI9]at h;subst h;obtain⟨d,hd,hd2⟩:=(hT t _ hti).desc;cases d <;> simp only[G9,TK.array.injEq,reduceCtorEq]at hd2
      obtain⟨rfl,rfl⟩:=hd2;obtain⟨b,off',cp,hρ⟩:=hH.there hob (show _/\_ from ho).2;have ho1:=(show (0<=i/\i<_)/\_ from ho).1;refine z9.same hH (v:=.ptr n (off+i.toNat*te.size)) hx ?_;simp[Instr.indexAt,run_underlying hd,Instr.sureAddr,SV.den,Rho.addr,hρ,asIntOf,(hT _ te hte).run_size w,ho1,Nat.add_assoc,Addr.add_lit]
     ·cases h
    ·cases h
   ·cases h
  ·rename_i n off len cap;split at h
   ·rename_i el _ _ _ _ hti;split at h
    ·rename_i te hte;split at h
     ·rename_i ob hob;simp only[oI9]at h;subst h;obtain⟨d,hd,hd2⟩:=(hT t _ hti).desc;cases d <;> simp only[G9,TK.slice.injEq,reduceCtorEq]at hd2
      subst hd2;obtain⟨b,off',cp,hρ⟩:=hH.there hob (show _/\_ from ho).2;have ho1:=(show (0<=i/\i<_)/\_ from ho).1;refine z9.same hH (v:=.ptr n (off+i.toNat*te.size)) hx ?_;simp[Instr.indexAt,run_underlying hd,SV.den,Rho.addr,hρ,asIntOf,(hT _ te hte).run_size w,ho1,Nat.add_assoc,Addr.add_lit]
     ·cases h
    ·cases h
   ·cases h
  ·rename_i n len;split at h
   ·rename_i el _ _ _ _ hti;split at h
    ·rename_i te hte;split at h
     ·rename_i ob hob;simp only[oI9]at h;subst h;obtain⟨d,hd,hd2⟩:=(hT t _ hti).desc;cases d <;> simp only[G9,TK.slice.injEq,reduceCtorEq]at hd2
      subst hd2;obtain⟨b,off',cp,hρ⟩:=hH.there hob (show _/\_ from ho).2;have ho1:=(show (0<=i/\i<_)/\_ from ho).1;refine z9.same hH (v:=.ptr n (0+i.toNat*te.size)) hx ?_;have hcp:=Rho.sp_le (hH.capOk hob (a9.ne_pos (show _/\_ from ho).2) hρ);simp[Instr.indexAt,run_underlying hd,SV.den,Rho.addr,Rho.addrC,hcp,hρ,asIntOf,(hT _ te hte).run_size w,ho1,Addr.add_lit]
     ·cases h
    ·cases h
   ·cases h
  ·cases h
 ·cases h
def cut(l:List SV)(i n:Nat):Option (List SV):=a9.getN (.cells l) i n
theorem b5U{l vs:List SV}{i n:Nat}(h:cut l i n=some vs):vs=(l.drop i).take n/\vs.length=n:=by
 obtain⟨h1,h2⟩:=a9.getN_spec h trivial;refine⟨?_,h1⟩
 apply List.ext_getElem?
 intro j
 cases hj:vs[j]? with
 | some v =>
  obtain⟨h3,h4⟩:=h2 j v hj;have h3':i+j<l.length:=h3;have hjn:j<n:=by rw[<-h1];exact(List.getElem?_eq_some_iff.1 hj).1
  rw[List.getElem?_take,if_pos hjn,List.getElem?_drop,List.getElem?_eq_getElem h3',<-h4];simp[a9.at,E6,h3']
 | none =>
  have hjn:n<=j:=by rw[<-h1];exact List.getElem?_eq_none_iff.1 hj
  rw[List.getElem?_take,if_neg (by omega)]
def a4b(T:Tys)(e:Nat)(cs:List SV)(o:Nat):Option SV :=
 match ty T e with
 | some te=>match te.isAgg with
  | true=>match cut cs o te.size with
   | some vs=>some (.agg vs)
   | none=>none
  | false=>I3 cs o
 | none=>none
theorem U8{T:Tys}(hT:TysOk P T){e:Nat}{cs:List SV}(hc:bdL U cs){o:Nat}{v:SV}(h:a4b T e cs o=some v)(ρ:Rho)(w:World) :
  (part e (p8 ρ cs).toArray o).run P w=.ok (v.den ρ) w/\v.bd U:=by
 unfold a4b at h;split at h
 ·rename_i te hte;split at h
  ·rename_i hag;split at h
   ·rename_i vs hvs;simp only[oI9]at h;subst h;obtain⟨rfl,hl⟩:=b5U hvs;refine⟨?_,?_⟩
    ·simp only[part,Sem.run_bind,(hT e te hte).isAgg' w,hag,Result.andThen_ok,if_true,(hT e te hte).run_size w,SV.den,A4,Sem.run_pure];congr 2;rw[List.extract_toArray];congr 1;rw[List.extract_eq_take_drop];simp[List.map_take,List.map_drop]
    ·simp only[SV.bd,G8]at hc ⊢;intro x hx;exact hc x (List.mem_of_mem_drop (List.mem_of_mem_take hx))
   ·cases h
  ·rename_i hag;rw[E6]at h;refine⟨?_,?_⟩
   ·have:(p8 ρ cs).toArray[o]? = some (v.den ρ):=by simp[A4,h]
    simp only[part,Sem.run_bind,(hT e te hte).isAgg' w,hag,Result.andThen_ok,Bool.false_eq_true,if_false,this,Sem.run_pure]
   ·rw[G8]at hc;exact hc v (List.mem_of_getElem? h)
 ·cases h
def a8J(T:Tys)(s:Nat)(x:SV)(i:Nat):Option Eff :=
 match x with
 | .agg cs=>match ty T s with
  | some {tk:=.struct fs, ..}=>match nth fs i with
   | some (o,e)=>match a4b T e cs o with
    | some v=>some (Eff.pure v)
    | none=>none
   | none=>none
  | _=>none
 | _=>none
theorem a7k{T:Tys}(hT:TysOk P T)(hH:HSat W0 Fr U H ρ w){s:Nat}{x:SV}(hx:x.bd U){i:Nat}{e:Eff}(h:a8J T s x i=some e) :
  z9 W0 Fr U H ρ nm e ((do pure (.value (<-Instr.field s (x.den ρ) i)):Sem Next).run P w):=by
 unfold a8J at h;split at h
 ·rename_i cs;split at h
  ·rename_i fs _ _ _ hti;split at h
   ·rename_i o el hf;split at h
    ·rename_i v hv;simp only[oI9]at h;subst h;obtain⟨d,f,h1,h2,rfl,rfl⟩:=a0P (hT s _ hti) rfl hf;obtain⟨h3,h4⟩:=U8 hT (by simpa [SV.bd]using hx) hv ρ w;refine z9.same hH h4 ?_;simp[Instr.field,run_underlying h1,h2,SV.den,asAgg,h3]
    ·cases h
   ·cases h
  ·cases h
 ·cases h
end
section
variable {P:Program} {W0:World} {Fr:Nat->Prop} {U:Nm->Prop} {H:A1} {ρ:Rho} {w:World} {nm:Nm}
def c1v(off l m sz:Nat):Nat:=if m=l then off else off+l*sz
def bnd:Option SV->Nat->Option (Nat×Prop)
 | none,d=>some (d,True)
 | some (.int _ i),_=>some (i.toNat,0<=i)
 | some _,_=>none
def a8S(lo:Option SV)(off l m sz:Nat):Nat :=
 match lo with
 | none=>off
 | some _=>c1v off l m sz
def a9y(T:Tys)(t:Nat)(x:SV)(lo hi mx:Option SV):Option Eff :=
 match x with
 | .slc n off len cap=>match ty T t with
  | some {tk:=.slice e, ..}=>match ty T e with
   | some te=>match bnd mx cap with
    | some (m,pm)=>match bnd hi len with
     | some (h,ph)=>match bnd lo 0 with
      | some (l,pl)=>match mx,hi with
       | some _,none=>none
       | _,_=>some (Eff.pureO (.slc n (a8S lo off l m te.size) (h-l) (m-l))
         (some ((pm/\m<=cap)/\(ph/\h<=match mx,hi with|none,none=>len|_,_=>m)/\(pl/\l<=h))))
      | none=>none
     | none=>none
    | none=>none
   | none=>none
  | _=>none
 | _=>none
theorem W7{v:Option SV}{d b:Nat}{p:Prop}(h:bnd v d=some (b,p))(hp:p){y:Nat}(hy:b<=y){code:BoundsCode}{x:SV}(hx:v=some x) :
  (Instr.sliceBound (x.den ρ) y code).run P w=.ok b w:=by
 subst hx;cases x <;> simp only[bnd,oI9,pI9,reduceCtorEq]at h
 obtain⟨rfl,rfl⟩:=h;rename_i k i;have:i<=(y:Int):=by omega
 simp[Instr.sliceBound,SV.den,asIntOf,hp,this]
theorem a7s{T:Tys}(hT:TysOk P T)(hH:HSat W0 Fr U H ρ w){t:Nat}{x:SV}(hx:x.bd U){lo hi mx:Option SV}{e:Eff}(h:a9y T t x lo hi mx=some e)(ho:okP e.obl) :
  z9 W0 Fr U H ρ nm e ((do pure (.value (<-Instr.sliceAt t (x.den ρ) (lo.map (SV.den ρ)) (hi.map (SV.den ρ)) (mx.map (SV.den ρ)))):Sem Next).run P w):=by
 unfold a9y at h;split at h
 ·rename_i n off len cap;split at h
  ·rename_i el _ _ _ _ hti;split at h
   ·rename_i te hte;split at h
    ·rename_i m pm hm;split at h
     ·rename_i hh ph hhi;split at h
      ·rename_i l pl hl;split at h
       ·cases h
       ·rename_i hno;simp only[oI9]at h;subst h;obtain⟨⟨pm',hmc⟩,⟨ph',hhm⟩,⟨pl',hlh⟩⟩:=ho;obtain⟨d,hd,hd2⟩:=(hT t _ hti).desc;cases d <;> simp only[G9,TK.slice.injEq,reduceCtorEq]at hd2
        subst hd2;refine z9.same hH (v:=.slc n (a8S lo off l m te.size) (hh-l) (m-l)) hx ?_
        have hbounds:(Instr.sliceBounds true len cap (lo.map (SV.den ρ)) (hi.map (SV.den ρ)) (mx.map (SV.den ρ))).run P w=.ok (l,hh,m) w:=by
         have hm1:∀ v c,mx=some v->(Instr.sliceBound (v.den ρ) cap c).run P w=.ok m w:=λv c e=>W7 hm pm' hmc e
         have hm2:mx=none->cap=m:=λe=>by subst e;simp only[bnd,oI9,pI9]at hm;exact hm.1
         have hl1:∀ v c,lo=some v->(Instr.sliceBound (v.den ρ) hh c).run P w=.ok l w:=λv c e=>W7 hl pl' hlh e
         have hl2:lo=none->0=l:=λe=>by subst e;simp only[bnd,oI9,pI9]at hl;exact hl.1
         have hh1:∀ v c,hi=some v->(Instr.sliceBound (v.den ρ) m c).run P w=.ok hh w:=λv c e=>W7 hhi ph' (by subst e;cases mx <;> exact hhm) e
         have hh2:hi=none->len=hh:=λe=>by subst e;simp only[bnd,oI9,pI9]at hhi;exact hhi.1
         unfold Instr.sliceBounds
         cases mx <;> cases hi <;> cases lo <;> first
          | exact absurd rfl (hno _ rfl)
          | skip
         all_goals
          (try have hm1:=λc=>hm1 _ c rfl);(try have hl1:=λc=>hl1 _ c rfl);(try have hh1:=λc=>hh1 _ c rfl)
          (try have hm2:=hm2 rfl);(try have hl2:=hl2 rfl);(try have hh2:=hh2 rfl)
          simp[*]
        simp only[Instr.sliceAt,Sem.run_bind,run_underlying hd,Result.andThen_ok,Instr.slice,SV.den,hbounds,(hT _ te hte).run_size w,Sem.run_pure];congr 3
        cases lo with
        | none =>
         simp only[bnd,oI9,pI9]at hl;rw[<-hl.1];simp only[a8S,Rho.addr];split
         ·rfl
         ·cases ρ n <;> simp[Addr.add]
        | some v =>
         simp only[a8S,c1v,Rho.addr];split
         ·rfl
         ·cases ρ n <;> simp[Addr.add_lit,Nat.add_assoc]
      ·cases h
     ·cases h
    ·cases h
   ·cases h
  ·cases h
 ·cases h
def a0s(T:Tys)(rd:Nm->Option Ob)(t:Nat)(x:SV)(lo hi mx:Option SV):Option Eff :=
 match x,lo,hi,mx with
 | .slcc n _,none,some (.int _ i),none=>match ty T t with
  | some {tk:=.slice e, ..}=>match ty T e with
   | some te=>match rd n with
    | some ob=>match ob.rw&&(Nat.beq ob.es te.size&&Nat.ble 1 te.size)with
     | true=>some ⟨some (.slcc n i.toNat),[],[],[n],some (0<=i/\i.toNat*te.size<=ob.c.size)⟩
     | false=>none
    | none=>none
   | none=>none
  | _=>none
 | .ptr n off,none,none,none=>match ty T t with
  | some {tk:=.array m el, ..}=>match ty T el with
   | some _=>match rd n with
    | some ob=>some ⟨some (.slc n off m m),[],[],[n],ob.c.neO⟩
    | none=>none
   | none=>none
  | _=>none
 | _,_,_,_=>none
theorem a6x{T:Tys}(hT:TysOk P T)(hH:HSat W0 Fr U H ρ w){t:Nat}{x:SV}(hx:x.bd U){lo hi mx:Option SV}{e:Eff}(h:a0s T (look H) t x lo hi mx=some e)(ho:okP e.obl) :
  z9 W0 Fr U H ρ nm e ((do pure (.value (<-Instr.sliceAt t (x.den ρ) (lo.map (SV.den ρ)) (hi.map (SV.den ρ)) (mx.map (SV.den ρ)))):Sem Next).run P w):=by
 unfold a0s at h;split at h
 ·rename_i n len k i;split at h
  ·rename_i el _ _ _ _ hti;split at h
   ·rename_i te hte;split at h
    ·rename_i ob hob;split at h
     ·rename_i hf;simp only[oI9]at h;subst h;simp only[bA9]at hf;obtain⟨hrw,hes,hsz⟩:=hf;have hes:=eB9 hes;have hsz:=Nat.le_of_ble_eq_true hsz;obtain⟨h0,hle⟩:=ho;obtain⟨d,hd,hd2⟩:=(hT t _ hti).desc;cases d <;> simp only[G9,TK.slice.injEq,reduceCtorEq]at hd2
      subst hd2;refine z9.same hH (v:=.slcc n i.toNat) hx ?_
      have hcap:i.toNat<=ρ.cap n:=by
       have hobj:=hH.obj n ob hob;unfold Rho.cap
       cases hρ:ρ n with
       | none =>
        rw[hρ]at hobj;have:ob.c.size=0:=hobj;rw[this]at hle;have:=Nat.le_mul_of_pos_right i.toNat hsz;simp only;omega
       | some p =>
        obtain⟨b,off,cp⟩:=p;rw[hρ]at hobj;obtain⟨_,arr,_,h3,h4,h6⟩:=hobj.2.1 hrw;have h5:=h4 (by omega);show i.toNat<=Rho.cp cp;rw[Rho.cp_le h6];rw[hes]at h5;exact Nat.le_of_mul_le_mul_right (Nat.le_trans hle (h5▸h3)) (by omega)
      have hbounds:(Instr.sliceBounds true len (ρ.cap n) none (some (.int k i)) none).run P w=.ok (0,i.toNat,ρ.cap n) w:=by
       have:i<=(ρ.cap n:Int):=by omega
       simp[Instr.sliceBounds,Instr.sliceBound,asIntOf,h0,this]
      simp only[Instr.sliceAt,Sem.run_bind,run_underlying hd,Result.andThen_ok,Instr.slice,SV.den,Option.map_none,Option.map_some,hbounds,(hT _ te hte).run_size w,Sem.run_pure];congr 3;simp only[Rho.addrC];split
      ·rfl
      ·cases ρ n <;> simp[Addr.add]
     ·cases h
    ·cases h
   ·cases h
  ·cases h
 ·rename_i n off;split at h
  ·rename_i m el _ _ _ _ hti;split at h
   ·rename_i te hte;split at h
    ·rename_i ob hob;simp only[oI9]at h;subst h;obtain⟨d,hd,hd2⟩:=(hT t _ hti).desc;cases d <;> simp only[G9,TK.array.injEq,reduceCtorEq]at hd2
     obtain⟨hd3,hd4⟩:=hd2;subst hd3 hd4;obtain⟨b,off',cp,hρ⟩:=hH.there hob (a9.neO_ok ho);refine z9.same hH (v:=.slc n off _ _) hx ?_;simp[Instr.sliceAt,Sem.run_bind,run_underlying hd,Instr.sureAddr,Instr.sliceBounds,SV.den,Rho.addr,hρ,(hT _ te hte).run_size w,Addr.add]
    ·cases h
   ·cases h
  ·cases h
 ·cases h
end
def V1:List SV->Nat->List SV->List SV
 | l,_,[]=>l
 | l,o,v :: r=>V1 (l.set o v) (o+1) r
def U6(place:Nat->Option (Nat×Nat)):List SV->List (Nat×SV)->Option (List SV)
 | cells,[]=>some cells
 | cells,(i,v) :: rest=>match place i with
  | none=>none
  | some (o,size)=>match Nat.beq v.cells.length size with
   | false=>none
   | true=>match Nat.ble (o+v.cells.length) cells.length with
    | false=>none
    | true=>U6 place (V1 cells o v.cells) rest
theorem a1Z:∀(vs l:List SV)(o:Nat),(V1 l o vs).length=l.length
 | [],_,_=>rfl
 | v :: r,l,o=>by simp[V1,a1Z r]
theorem a6d{U:Nm->Prop}:∀(vs l:List SV)(o:Nat),bdL U l->bdL U vs->bdL U (V1 l o vs)
 | [],_,_,h,_=>h
 | v :: r,l,o,h,h'=>by
  simp only[bdL]at h';refine a6d r _ _ ?_ h'.2;rw[G8]at h ⊢;intro x hx;rcases List.mem_or_eq_of_mem_set hx with hx|rfl
  ·exact h x hx
  ·exact h'.1
theorem b0n(ρ:Rho)(o:Nat):∀(vs l:List SV)(k:Nat),
  ((p8 ρ vs).zipIdx k).foldl (λ(cs:Array Value) p=>cs.setIfInBounds (o+p.2) p.1) (p8 ρ l).toArray=(p8 ρ (V1 l (o+k) vs)).toArray
 | [],_,_=>by simp[p8,V1]
 | v :: r,l,k=>by
  simp only[p8,List.zipIdx_cons,List.foldl_cons,V1]
  have:((p8 ρ l).toArray.setIfInBounds (o+k) (v.den ρ))=(p8 ρ (l.set (o+k) v)).toArray:=by
   simp[A4,List.map_set]
  rw[this,b0n ρ o r _ (k+1)];rfl
theorem a3I(ρ:Rho){place:Nat->Option (Nat×Nat)}:∀ {ps:List (Nat×SV)} {cells r:List SV},U6 place cells ps=some r->
  Instr.fill place (p8 ρ cells).toArray (ps.map λp=>(p.1,p.2.den ρ))=some (p8 ρ r).toArray
 | [],cells,r,h=>by simp only[U6,oI9]at h;subst h;rfl
 | (i,v) :: rest,cells,r,h=>by
  simp only[U6]at h;split at h
  ·cases h
  ·rename_i o size hp;split at h
   ·cases h
   ·rename_i hl;split at h
    ·cases h
    ·rename_i hb;have hl':=eB9 hl;have hb':=Nat.le_of_ble_eq_true hb;simp only[List.map_cons,Instr.fill,hp,SV.den_cells];have e1:(p8 ρ v.cells).toArray.size=size:=by simp[A4,hl']
     have e2:(p8 ρ cells).toArray.size=cells.length:=by simp[A4]
     rw[e1,e2];have e3:(size != size||decide (o+size > cells.length))=false:=by simp;omega
     have e4:(p8 ρ v.cells).toArray.zipIdx.foldl (λ(cs:Array Value) p=>cs.setIfInBounds (o+p.2) p.1) (p8 ρ cells).toArray=(p8 ρ (V1 cells o v.cells)).toArray:=by
      rw[<-Array.foldl_toList];have:=b0n ρ o v.cells cells 0;simpa using this
     have e5:(decide (size≠size)||decide (o+size > cells.length))=false:=by simp;omega
     simp only[e5,Bool.false_eq_true,if_false];rw[e4];exact a3I ρ h
theorem a3s{U:Nm->Prop}{place:Nat->Option (Nat×Nat)}:∀ {ps:List (Nat×SV)} {cells r:List SV},U6 place cells ps=some r->bdL U cells->(∀ p∈ps,p.2.bd U)->bdL U r
 | [],cells,r,h,hc,_=>by simp only[U6,oI9]at h;subst h;exact hc
 | (i,v) :: rest,cells,r,h,hc,hp=>by
  simp only[U6]at h;split at h
  ·cases h
  ·split at h
   ·cases h
   ·split at h
    ·cases h
    ·exact a3s h (a6d _ _ _ hc (SV.bd_cells (hp (i,v) (by simp)))) (λp hp'=>hp p (by simp[hp']))
def a6C(T:Tys):List (Nat×Nat)->Option (List (Nat×Nat))
 | []=>some []
 | (o,e) :: r=>match ty T e with
  | some te=>match a6C T r with
   | some ps=>some ((o,te.size) :: ps)
   | none=>none
  | none=>none
section
variable {P:Program} {W0:World} {Fr:Nat->Prop} {U:Nm->Prop} {H:A1} {ρ:Rho} {w:World} {nm:Nm}
theorem a6b{T:Tys}(hT:TysOk P T):∀ {fs:List Field} {ps:List (Nat×Nat)},a6C T (fs.map λf=>(f.offset,f.type))=some ps->
  (fs.mapM λf=>(do pure (f.offset,<-sizeOf f.type):Sem (Nat×Nat))).run P w=.ok ps w
 | [],ps,h=>by simp only[List.map_nil,a6C,oI9]at h;subst h;simp
 | f :: fs,ps,h=>by
  simp only[List.map_cons,a6C]at h;split at h
  ·rename_i te hte;split at h
   ·rename_i qs hqs;simp only[oI9]at h;subst h;simp only[List.mapM_cons,Sem.run_bind,(hT _ te hte).run_size w,Result.andThen_ok,Sem.run_pure,a6b hT hqs]
   ·cases h
  ·cases h
def S5(ev:Operand->Option SV):List (Nat×Operand)->Option (List (Nat×SV))
 | []=>some []
 | (i,x) :: r=>match ev x with
  | some v=>match S5 ev r with
   | some ps=>some ((i,v) :: ps)
   | none=>none
  | none=>none
theorem S3{ev:Operand->Option SV}{a:Act}(hev:∀ x v,ev x=some v->a.eval x=v.den ρ/\v.bd U):∀ {xs:List (Nat×Operand)} {ps:List (Nat×SV)},S5 ev xs=some ps->
  (xs.map λp=>(p.1,a.eval p.2))=(ps.map λp=>(p.1,p.2.den ρ))/\∀ p∈ps,p.2.bd U
 | [],ps,h=>by simp only[S5,oI9]at h;subst h;simp
 | (i,x) :: r,ps,h=>by
  simp only[S5]at h;split at h
  ·rename_i v hv;split at h
   ·rename_i qs hqs;simp only[oI9]at h;subst h;obtain⟨h1,h2⟩:=S3 hev hqs;obtain⟨h3,h4⟩:=hev x v hv;refine⟨by simp[h3,h1],λp hp=>?_⟩;rcases List.mem_cons.1 hp with rfl|hp
    ·exact h4
    ·exact h2 p hp
   ·cases h
  ·cases h
def a9j(T:Tys)(t:Nat)(ps:List (Nat×SV)):Option Eff :=
 match ty T t with
 | some {tk:=.struct fs,zero:=.cells z, ..}=>match a6C T fs with
  | some pl=>match U6 (nth pl) z ps with
   | some r=>some (Eff.pure (.agg r))
   | none=>none
  | none=>none
 | some {tk:=.array _ e,zero:=.cells z, ..}=>match ty T e with
  | some te=>match U6 (λi=>some (i*te.size,te.size)) z ps with
   | some r=>some (Eff.pure (.agg r))
   | none=>none
  | none=>none
 | _=>none
theorem R8{t:Nat}{ti:TI}(ht:TOk P t ti){z:List SV}(hz:ti.zero=.cells z)(ρ:Rho)(w:World):∃ v,(zeroValue t).run P w=.ok v w/\v.cells=(p8 ρ z).toArray/\F0 z=true:=by
 obtain⟨v,h1,h2,h3⟩:=ht.run_zero w;refine⟨v,h1,?_,?_⟩
 ·rw[hz]at h2 h3
  apply Array.ext_getElem?
  intro i;by_cases hi:i<(a9.cells z).size
  ·rw[h3 ρ i hi,(V7 ρ z).2 i hi]
  ·rw[Array.getElem?_eq_none (by omega),Array.getElem?_eq_none (by rw[(V7 ρ z).1];omega)]
 ·have:=ht.cl;rw[hz]at this;clear h1 h2 h3 ht hz
  induction z with
  | nil=>rfl
  | cons x r ih =>
   simp only[F0,bA9];refine⟨by simpa [a9.at,I3]using this 0 (by simp[a9.size]),ih λi hi=>?_⟩;have h:=this (i+1) (by simp[a9.size]at hi ⊢;omega);simpa [a9.at,I3]using h
theorem a7a{T:Tys}(hT:TysOk P T)(hH:HSat W0 Fr U H ρ w){t:Nat}{ps:List (Nat×SV)}(hps:∀ p∈ps,p.2.bd U){e:Eff}(h:a9j T t ps=some e) :
  z9 W0 Fr U H ρ nm e ((do pure (.value (<-Instr.build t (ps.map λp=>(p.1,p.2.den ρ)).toArray)):Sem Next).run P w):=by
 unfold a9j at h;split at h
 ·rename_i fs _ _ z _ hti;split at h
  ·rename_i pl hpl;split at h
   ·rename_i r hr;simp only[oI9]at h;subst h;have ht:=hT t _ hti;obtain⟨v,hz1,hz2,hz3⟩:=R8 ht rfl ρ w;obtain⟨d,hd,hd2⟩:=ht.desc;cases d <;> simp only[G9,TK.struct.injEq,reduceCtorEq]at hd2
    rename_i fields
    have hr':U6 (λi=>pl.toArray[i]?) z ps=some r:=by
     rw[<-hr];congr 1;funext i;simp[U3]
    refine z9.same hH (v:=.agg r) (a3s hr (I1 U z hz3) hps) ?_;have hpl':=a6b (w:=w) hT (fs:=fields.toList) (by rw[hd2];exact hpl)
    have hpl2:(fields.mapM λf=>(do pure (f.offset,<-sizeOf f.type):Sem (Nat×Nat))).run P w=.ok pl.toArray w:=by
     rw[<-Array.toArray_toList (xs:=fields),List.mapM_toArray];simp only[Sem.run_map,hpl',Result.andThen_ok]
    simp only[Instr.build,Sem.run_bind,hz1,Result.andThen_ok,run_underlying hd,hpl2,hz2,a3I ρ hr',Sem.run_pure,SV.den]
   ·cases h
  ·cases h
 ·rename_i _ el _ _ z _ hti;split at h
  ·rename_i te hte;split at h
   ·rename_i r hr;simp only[oI9]at h;subst h;have ht:=hT t _ hti;obtain⟨v,hz1,hz2,hz3⟩:=R8 ht rfl ρ w;obtain⟨d,hd,hd2⟩:=ht.desc;cases d <;> simp only[G9,TK.array.injEq,reduceCtorEq]at hd2
    obtain⟨rfl,rfl⟩:=hd2;refine z9.same hH (v:=.agg r) (a3s hr (I1 U z hz3) hps) ?_;simp only[Instr.build,Sem.run_bind,hz1,Result.andThen_ok,run_underlying hd,(hT _ te hte).run_size w,hz2,a3I ρ hr,Sem.run_pure,SV.den]
   ·cases h
  ·cases h
 ·cases h
def a4Y(z:List SV):Nat->List SV
 | 0=>[]
 | n+1=>z++a4Y z n
def a0K(T:Tys)(nm:Nm)(t len:Nat)(ps:List (Nat×SV)):Option Eff :=
 match ty T t with
 | some {tk:=.slice e, ..}=>match ty T e with
  | some {zero:=.cells z,size:=sz, ..}=>match Nat.ble 1 (len*sz)with
   | true=>match Nat.ble (len*sz) 16777216 with
    | true=>match U6 (λi=>some (i*sz,sz)) (a4Y z len) ps with
     | some r=>some ⟨some (.slcc nm len),[],[(nm,⟨true,e, .cells r,sz⟩)],[],none⟩
     | none=>none
    | false=>none
   | false=>none
  | _=>none
 | _=>none
theorem U0(z:List SV):∀ n,(a4Y z n).length=n*z.length
 | 0=>by simp[a4Y]
 | n+1=>by simp[a4Y,U0 z n,Nat.succ_mul,Nat.add_comm]
theorem a6G(z:List SV):∀(n i:Nat),i<n*z.length->(a4Y z n)[i]? = z[i % z.length]?
 | 0,i,h=>by simp at h
 | n+1,i,h=>by
  simp only[a4Y];by_cases hi:i<z.length
  ·rw[List.getElem?_append_left hi,Nat.mod_eq_of_lt hi]
  ·rw[List.getElem?_append_right (by omega),a6G z n (i-z.length) (by rw[Nat.succ_mul]at h;omega)];congr 1;rw[<-Nat.mod_eq_sub_mod (by omega)]
theorem a4K{z:List SV}(h:F0 z=true):∀ n,F0 (a4Y z n)=true
 | 0=>rfl
 | n+1=>by
  have key:∀ a b:List SV,F0 a=true->F0 b=true->F0 (a++b)=true:=by
   intro a b ha hb
   induction a with
   | nil=>exact hb
   | cons x r ih =>
    simp only[F0,bA9,List.cons_append]at ha ⊢;exact⟨ha.1,ih ha.2⟩
  exact key _ _ h (a4K h n)
theorem a0J{place:Nat->Option (Nat×Nat)}:∀ {ps:List (Nat×SV)} {cells r:List SV},U6 place cells ps=some r->r.length=cells.length
 | [],cells,r,h=>by simp only[U6,oI9]at h;rw[h]
 | (i,v) :: rest,cells,r,h=>by
  unfold U6 at h;split at h
  ·cases h
  ·split at h
   ·cases h
   ·split at h
    ·cases h
    ·rw[a0J h,a1Z]
theorem a2E{T:Tys}(hT:TysOk P T)(hH:HSat W0 Fr U H ρ w)(hn:¬U nm){t len:Nat}{ps:List (Nat×SV)}(hps:∀ p∈ps,p.2.bd U){e:Eff}(h:a0K T nm t len ps=some e) :
  z9 W0 Fr U H ρ nm e ((do pure (.value (<-Instr.buildSlice t len (ps.map λp=>(p.1,p.2.den ρ)).toArray)):Sem Next).run P w):=by
 unfold a0K at h;split at h
 ·rename_i el _ _ _ _ hti;split at h
  ·rename_i tk sz by' z msx hte;split at h
   ·rename_i h1;split at h
    ·rename_i h2;split at h
     ·rename_i r hr;simp only[oI9]at h;subst h;have h1':=Nat.le_of_ble_eq_true h1;have h2':=Nat.le_of_ble_eq_true h2;have hte':=hT el _ hte;obtain⟨d,hd,hd2⟩:=(hT t _ hti).desc;cases d <;> simp only[G9,TK.slice.injEq,reduceCtorEq]at hd2
      subst hd2;obtain⟨v,hz1,hz2,hz3⟩:=R8 hte' rfl ρ w;have hzl:z.length=sz:=hte'.zsz;have hbd:=a3s hr (I1 U _ (a4K hz3 len)) hps;obtain⟨hc1,hc2⟩:=V7 ρ r;have hrl:r.length=len*sz:=by rw[a0J hr,U0,hzl]
      have hsz0:1<=sz:=by
       rcases Nat.eq_zero_or_pos sz with h0|h0
       ·rw[h0]at h1';simp at h1'
       ·exact h0
      have hlm:len<=len*sz:=Nat.le_mul_of_pos_right _ hsz0;have hsize:(p8 ρ r).toArray.size=len*sz:=by rw[hc1];exact hrl
      refine z9.new hH hn (es:=sz) (cp:=len) rfl (a6g hbd) ⟨by rw[hsize];exact Nat.le_of_eq hrl,λ_=>hsize,by simp only[maxLen];omega⟩ hc2 (by simp[SV.bd]) (λρ' hρ'=>?_);have hs:(sizeOf ‹Nat›).run P w=.ok sz w:=hte'.run_size w
      have hinit:((Array.range (len*sz)).map λi=>(p8 ρ z).toArray[i % (p8 ρ z).toArray.size]!)=(p8 ρ (a4Y z len)).toArray:=by
       apply Array.ext_getElem?
       intro i;by_cases hi:i<len*sz
       ·have hp0:0<z.length:=by
         rw[hzl];rcases Nat.eq_zero_or_pos sz with h0|h0
         ·rw[h0]at h1';simp at h1'
         ·exact h0
        have h3:i % z.length<z.length:=Nat.mod_lt _ hp0;have h4:i<len*z.length:=by rw[hzl];exact hi
        simp only[Array.getElem?_map,Array.getElem?_range,hi,if_true,Option.map_some,A4,List.getElem?_toArray,List.getElem?_map,a6G z len i h4,List.getElem?_eq_getElem h3];simp[h3]
       ·have h4:¬i<len*z.length:=by rw[hzl];exact hi
        rw[Array.getElem?_eq_none (by simp;omega),Array.getElem?_eq_none (by simp[A4,U0];omega)]
      have hne:len*sz≠0:=by omega
      simp only[Instr.buildSlice,Sem.run_bind,run_underlying hd,Result.andThen_ok,hs,Sem.run_ite,hne,if_false,hz1,hz2,Sem.run_pure];have hle2:¬len*sz > 2 ^ 24:=by omega
      simp only[hle2,if_false,Sem.run_bind,Sem.run_pure,hinit,a3I ρ hr];have hlx:len<=maxLen:=by simp only[maxLen];omega
      simp[newRow,SV.den,Rho.addrC,Rho.cap,hρ',Rho.sp_le hlx,Rho.cp_le hlx]
     ·cases h
    ·cases h
   ·cases h
  ·cases h
 ·cases h
end
section
variable {P:Program} {W0:World} {Fr:Nat->Prop} {U:Nm->Prop} {H:A1} {ρ:Rho} {w:World} {nm:Nm}
def a1h(T:Tys)(t:Nat)(x:SV):Option Eff :=
 match ty T t with
 | some {tk:=.iface, ..}=>none
 | some _=>some (Eff.pure (.ifc t x))
 | none=>none
theorem a3r{T:Tys}(hT:TysOk P T)(hH:HSat W0 Fr U H ρ w){t:Nat}{x:SV}(hx:x.bd U){e:Eff}(h:a1h T t x=some e) :
  z9 W0 Fr U H ρ nm e ((do pure (.value (<-Instr.makeInterface t (x.den ρ))):Sem Next).run P w):=by
 unfold a1h at h;split at h
 ·cases h
 ·rename_i ti hno hti;simp only[oI9]at h;subst h;obtain⟨d,hd,hd2⟩:=(hT t _ hti).desc;refine z9.same hH (v:=.ifc t x) (by simpa [SV.bd]using hx) ?_
  cases d <;> first
   | (simp[Instr.makeInterface,run_underlying hd,SV.den];done)
   | skip
  rename_i ms;simp only[G9]at hd2;obtain⟨tk,sz,by',z⟩:=ti;simp only at hd2;subst hd2;exact(hno sz by' z _ rfl).elim
 ·cases h
def b1C(ti:TI):Option SV :=
 match ti.zero with
 | .cells z=>match ti.isAgg with
  | true=>some (.agg z)
  | false=>match z with
   | [v]=>some v
   | _=>none
 | _=>none
def a6O(x:SV)(asserted:Nat)(T:Tys)(ok:Bool):Option Eff :=
 match ty T asserted with
 | some {tk:=.iface, ..}=>none
 | some _=>match x with
  | .ifc t v=>match Nat.beq t asserted with
   | true=>match ok with
    | true=>some (Eff.pure (.tup [v, .tt]))
    | false=>some (Eff.pure v)
   | false=>none
  | _=>none
 | none=>none
theorem a5D{T:Tys}(hT:TysOk P T)(hH:HSat W0 Fr U H ρ w){xt asserted:Nat}{x:SV}(hx:x.bd U){ok:Bool}{e:Eff}(h:a6O x asserted T ok=some e) :
  z9 W0 Fr U H ρ nm e ((do pure (.value (<-Instr.typeAssert (x.den ρ) xt asserted ok)):Sem Next).run P w):=by
 unfold a6O at h;split at h
 ·cases h
 ·rename_i ti hno hti;split at h
  ·rename_i t v;split at h
   ·rename_i ht;have:=eB9 ht;subst this;obtain⟨d,hd,hd2⟩:=(hT t _ hti).desc
    have hni:∀ ms,d≠ .interface ms:=by
     intro ms e;subst e;obtain⟨tk,sz,by',z⟩:=ti;simp only[G9]at hd2;subst hd2;exact(hno sz by' z _ rfl).elim
    simp only[SV.bd]at hx;split at h <;> (simp only[oI9]at h;subst h)
    ·refine z9.same hH (v:=.tup [v, .tt]) (by simp[SV.bd,bdL,hx]) ?_
     cases d <;> first
      | exact absurd rfl (hni _)
      | simp[Instr.typeAssert,run_underlying hd,SV.den,p8]
    ·refine z9.same hH hx ?_
     cases d <;> first
      | exact absurd rfl (hni _)
      | simp[Instr.typeAssert,run_underlying hd,SV.den]
   ·cases h
  ·cases h
 ·cases h
def a4y(x:SV)(i:Nat):Option Eff :=
 match x with
 | .tup vs=>match I3 vs i with
  | some v=>some (Eff.pure v)
  | none=>none
 | _=>none
theorem a4T(hH:HSat W0 Fr U H ρ w){x:SV}(hx:x.bd U){i:Nat}{e:Eff}(h:a4y x i=some e) :
  z9 W0 Fr U H ρ nm e ((do pure (.value (<-Instr.extract (x.den ρ) i)):Sem Next).run P w):=by
 unfold a4y at h;split at h
 ·rename_i vs;split at h
  ·rename_i v hv;simp only[oI9]at h;subst h;rw[E6]at hv;refine z9.same hH (v:=v) ?_ ?_
   ·simp only[SV.bd,G8]at hx;exact hx v (List.mem_of_getElem? hv)
   ·have:(p8 ρ vs).toArray[i]? = some (v.den ρ):=by simp[A4,hv]
    simp only[Instr.extract,SV.den,this,Sem.run_bind,Sem.run_pure,Result.andThen_ok]
  ·cases h
 ·cases h
def b7R(T:Tys)(t:Nat)(x:SV):Option SV :=
 match ty T t with
 | some {tk:=.slice _, ..}=>match x with
  | .slc _ _ len _=>some (.int .i64 (len:Nat))
  | .slcc _ len=>some (.int .i64 (len:Nat))
  | .sla _ len _=>some (.int .i64 (len:Nat))
  | .nils=>some (.int .i64 0)
  | _=>none
 | some {tk:=.str, ..}=>match x with
  | .str s=>some (.int .i64 (s.size:Nat))
  | _=>none
 | some {tk:=.array n _, ..}=>some (.int .i64 (n:Nat))
 | _=>none
theorem b0C{T:Tys}(hT:TysOk P T){t:Nat}{x v:SV}(h:b7R T t x=some v)(ty':Nat) :
  (Builtin.len_ #[t] ty' #[x.den ρ]).run P w=.ok (v.den ρ) w/\v.closed=true:=by
 unfold b7R at h;split at h
 ·rename_i hti;obtain⟨d,hd,hd2⟩:=(hT t _ hti).desc;cases d <;> simp only[G9,TK.slice.injEq,reduceCtorEq]at hd2
  split at h <;> simp only[oI9,reduceCtorEq]at h <;> subst h <;> simp[Builtin.len_,run_underlying hd,SV.den,goInt,SV.closed]
 ·rename_i hti;obtain⟨d,hd,hd2⟩:=(hT t _ hti).desc;cases d <;> simp only[G9,reduceCtorEq]at hd2
  split at h <;> simp only[oI9,reduceCtorEq]at h <;> subst h <;> simp[Builtin.len_,run_underlying hd,SV.den,goInt,SV.closed]
 ·rename_i hti;obtain⟨d,hd,hd2⟩:=(hT t _ hti).desc;cases d <;> simp only[G9,TK.array.injEq,reduceCtorEq]at hd2
  obtain⟨rfl,rfl⟩:=hd2;simp only[oI9]at h;subst h;simp[Builtin.len_,run_underlying hd,SV.den,goInt,SV.closed]
 ·cases h
def a0Q(x y:Int):Int:=if y<x then y else x
def a6B(x y:Int):Int:=if y > x then y else x
def a9B(mx:Bool)(x y:SV):Option SV :=
 match x,y with
 | .int k a, .int k' b=>match kEq k k' with
  | true=>match mx with
   | true=>some (.int k (a6B a b))
   | false=>some (.int k (a0Q a b))
  | false=>none
 | _,_=>none
end
theorem a6v{P:Program}(w:World)(ρ:Rho){mx:Bool}{x y v:SV}(h:a9B mx x y=some v) :
  ((if mx then Builtin.max_ else Builtin.min_) #[] 0 #[x.den ρ,y.den ρ]).run P w=.ok (v.den ρ) w/\v.closed=true:=by
 unfold a9B at h;split at h
 ·split at h
  ·rename_i hk;have:=a0a hk;subst this;split at h <;> simp only[oI9]at h <;> subst h
   ·refine⟨?_,rfl⟩;simp[Builtin.max_,Builtin.max2,SV.den,a6B]
   ·refine⟨?_,rfl⟩;simp[Builtin.min_,Builtin.min2,SV.den,a0Q]
  ·cases h
 ·cases h
def a5z:List SV->Bool
 | []=>true
 | v :: r=>v.one&&a5z r
def a1K(k:IntKind):List SV->Option (List Int)
 | []=>some []
 | .int k' x :: r=>match kEq k k' with
  | true=>match a1K k r with
   | some xs=>some (x :: xs)
   | none=>none
  | false=>none
 | _=>none
def a1G(k:FloatKind):List SV->Option (List Nat)
 | []=>some []
 | .flt k' x :: r=>match a4c k k' with
  | true=>match a1G k r with
   | some xs=>some (x :: xs)
   | none=>none
  | false=>none
 | _=>none
def z7{α:Type}(n:Nat)(g:Nat->α)(xs:List α)(d:α):Nat->α:=λi=>if i<n then g i else xs.getD (i-n) d
def a9.app(c:a9)(vs:List SV):Option a9 :=
 match c with
 | .cells l=>some (.cells (l++vs))
 | .ints k n g=>match a1K k vs with
  | some xs=>some (.ints k (n+xs.length) (z7 n g xs 0))
  | none=>none
 | .flts k n g=>match a1G k vs with
  | some xs=>some (.flts k (n+xs.length) (z7 n g xs 0))
  | none=>none
 | .gen n f=>some (.gen (n+vs.length) (z7 n f vs .nilp))
 | .upto _ _=>none
 | .raw _ _ _ _=>none
theorem O7{k:IntKind}:∀ {vs:List SV} {xs:List Int},a1K k vs=some xs->vs=xs.map (SV.int k)
 | [],xs,h=>by simp only[a1K,oI9]at h;subst h;rfl
 | v :: r,xs,h=>by
  unfold a1K at h;split at h
  ·rename_i he;cases he
  ·rename_i k' x r' he;injection he with h1 h2
   subst h1;subst h2;split at h
   ·rename_i hk;have:=a0a hk;subst this;split at h
    ·rename_i ys hys;simp only[oI9]at h;subst h;simp[O7 hys]
    ·cases h
   ·cases h
  ·cases h
theorem O1{k:FloatKind}:∀ {vs:List SV} {xs:List Nat},a1G k vs=some xs->vs=xs.map (SV.flt k)
 | [],xs,h=>by simp only[a1G,oI9]at h;subst h;rfl
 | v :: r,xs,h=>by
  unfold a1G at h;split at h
  ·rename_i he;cases he
  ·rename_i k' x r' he;injection he with h1 h2
   subst h1;subst h2;split at h
   ·rename_i hk;have:=P3 hk;subst this;split at h
    ·rename_i ys hys;simp only[oI9]at h;subst h;simp[O1 hys]
    ·cases h
   ·cases h
  ·cases h
theorem a8K{α:Type}{n i:Nat}{g:Nat->α}{xs:List α}{d:α}(h:i<n):z7 n g xs d i=g i:=if_pos h
theorem a9p{α:Type}{n j:Nat}{g:Nat->α}{xs:List α}{d x:α}(h:xs[j]? = some x):z7 n g xs d (n+j)=x:=by
 unfold z7;rw[if_neg (by omega),Nat.add_sub_cancel_left,List.getD_eq_getElem?_getD,h];rfl
theorem a9.app_spec{c c':a9}{vs:List SV}(h:c.app vs=some c'):c'.size=c.size+vs.length/\(∀ i,i<c.size->c'.at i=c.at i)/\∀ j v,vs[j]? = some v->c'.at (c.size+j)=v:=by
 cases c with
 | cells l =>
  simp only[a9.app,oI9]at h;subst h;refine⟨by simp[a9.size],λi hi=>?_,λj v hv=>?_⟩
  ·have hi':i<l.length:=hi;simp[a9.at,E6,List.getElem?_append_left hi']
  ·simp only[a9.at,a9.size,E6];rw[List.getElem?_append_right (Nat.le_add_right _ _),Nat.add_sub_cancel_left,hv];rfl
 | ints k n g =>
  simp only[a9.app]at h;split at h
  ·rename_i xs hxs;have hv:=O7 hxs;simp only[oI9]at h;subst h;refine⟨by simp[a9.size,hv],λi hi=>?_,λj v hj=>?_⟩
   ·have hi':i<n:=hi;simp only[a9.at];rw[a8K hi']
   ·rw[hv]at hj;simp only[List.getElem?_map,Option.map_eq_some_iff]at hj;obtain⟨x,hx,rfl⟩:=hj;simp only[a9.at,a9.size];rw[a9p hx]
  ·cases h
 | flts k n g =>
  simp only[a9.app]at h;split at h
  ·rename_i xs hxs;have hv:=O1 hxs;simp only[oI9]at h;subst h;refine⟨by simp[a9.size,hv],λi hi=>?_,λj v hj=>?_⟩
   ·have hi':i<n:=hi;simp only[a9.at];rw[a8K hi']
   ·rw[hv]at hj;simp only[List.getElem?_map,Option.map_eq_some_iff]at hj;obtain⟨x,hx,rfl⟩:=hj;simp only[a9.at,a9.size];rw[a9p hx]
  ·cases h
 | gen n f =>
  simp only[a9.app,oI9]at h;subst h;refine⟨rfl,λi hi=>?_,λj v hj=>?_⟩
  ·have hi':i<n:=hi;simp only[a9.at];rw[a8K hi']
  ·simp only[a9.at,a9.size];rw[a9p hj]
 | upto n l=>simp[a9.app]at h
 | raw ts D sz F=>simp[a9.app]at h
theorem a2g:∀ {vs:List SV},a5z vs=true->∀ v∈vs,v.one=true
 | [],_,_,h=>by simp at h
 | x :: r,h,v,hv=>by
  simp only[a5z,bA9]at h;rcases List.mem_cons.1 hv with rfl|hv
  ·exact h.1
  ·exact a2g h.2 v hv
def a1e:Ob:=⟨false,0, .cells [],0⟩
def a4R(rd:Nm->Option Ob)(sz:Nat)(x:SV):Option (Nat×List SV×Nm×Option Prop) :=
 match x with
 | .slc m off len _=>match rd m with
  | some ob=>match ob.c.getN off (len*sz)with
   | some vs=>some (len,vs,m,ob.c.inbO off (len*sz))
   | none=>none
  | none=>none
 | .slcc m len=>match rd m with
  | some ob=>match ob.c.getN 0 (len*sz)with
   | some vs=>some (len,vs,m,ob.c.inbO 0 (len*sz))
   | none=>none
  | none=>none
 | _=>none
def a3A(p:Option Prop)(q:Prop):Option Prop :=
 match p with
 | none=>some q
 | some p=>some (p/\q)
theorem Y8{p:Option Prop}{q:Prop}(h:okP (a3A p q)):okP p/\q:=by
 cases p with
 | none=>exact⟨trivial,h⟩
 | some p=>exact h
def a0o(T:Tys)(rd:Nm->Option Ob)(nm:Nm)(t:Nat)(s x:SV):Option Eff :=
 match ty T t with
 | some {tk:=.slice e, ..}=>match ty T e with
  | some te=>match a4R rd te.size x with
   | some (m,vs,mn,p)=>match Nat.ble 1 te.size&&Nat.ble 1 m&&a5z vs with
    | true=>match s with
     | .nils=>match Nat.ble (m*te.bytes) 140737488355328&&Nat.ble m 9223372036854775807 with
      | true=>some ⟨some (.slcc nm m),[],[(nm,⟨true,e, .cells vs,te.size⟩)],[mn],p⟩
      | false=>none
     | .slcc n len=>match rd n with
      | some ⟨true,el,c,es⟩=>match Nat.beq el e&&Nat.beq es te.size with
       | true=>match c.app vs with
        | some c'=>some ⟨some (.slcc nm (len+m)),[(n,a1e)],[(nm,⟨true,e,c',te.size⟩)],[mn,n],
          a3A p (c.size=len*te.size/\(len+m)*te.bytes<=140737488355328/\len+m<=maxLen)⟩
        | none=>none
       | false=>none
      | _=>none
     | _=>none
    | false=>none
   | none=>none
  | none=>none
 | _=>none
section
variable {P:Program} {W0:World} {Fr:Nat->Prop} {U:Nm->Prop} {H:A1} {ρ:Rho} {w:World} {nm:Nm}
theorem HSat.kill(h:HSat W0 Fr U H ρ w){n:Nm}{o:Ob}(hn:look H n=some o):HSat W0 Fr U ((n,a1e) :: H) ρ w :=
 {h with
  used:=λm o' hm=>by
   rw[g8]at hm;split at hm
   ·rename_i e;subst e;exact h.used _ o hn
   ·exact h.used m o' hm
  bd:=λm o' hm=>by
   rw[g8]at hm;split at hm
   ·cases hm;intro i hi;simp[a1e,a9.size]at hi
   ·exact h.bd m o' hm
  obj:=λm o' hm=>by
   rw[g8]at hm;split at hm
   ·cases hm
    cases ρ m with
    | none=>rfl
    | some p =>
     obtain⟨b,off,cp⟩:=p;refine⟨λi hi=>?_,λhr=>?_,λhr=>?_⟩
     ·simp[a1e,a9.size]at hi
     ·simp[a1e]at hr
     ·simp[a1e,a9.size]at hr
   ·exact h.obj m o' hm
  inj:=λm1 m2 o1 o2 p q h1 h2 hne hr hr2 hp hq=>by
   rw[g8]at h1 h2;split at h1
   ·cases h1;simp[a1e]at hr
   ·split at h2
    ·cases h2;simp[a1e,a9.size]at hr2
    ·exact h.inj m1 m2 o1 o2 p q h1 h2 hne hr hr2 hp hq
  free:=λm o' p hm hr hp=>by
   rw[g8]at hm;split at hm
   ·cases hm;simp[a1e]at hr
   ·exact h.free m o' p hm hr hp
  rawd:=λm o' ts D sz F hm hr hc=>by
   rw[g8]at hm;split at hm
   ·cases hm;simp[a1e]at hr
   ·have k:=h.rawd m o' ts D sz F hm hr hc;refine⟨k.sat,k.free,λm' o2 q hm' hne hr2 hq=>?_,λm' o2 ts' D' sz' F' hm' hne hr2 hc2=>?_⟩
    ·rw[g8]at hm';split at hm'
     ·cases hm';simp[a1e,a9.size]at hr2
     ·exact k.sep m' o2 q hm' hne hr2 hq
    ·rw[g8]at hm';split at hm'
     ·cases hm';simp[a1e]at hr2
     ·exact k.sepr m' o2 ts' D' sz' F' hm' hne hr2 hc2}
theorem a9.app_raw{c c':a9}{vs:List SV}(h:c.app vs=some c'):c'.isRaw=false:=by
 cases c <;> simp only[a9.app]at h <;> (try split at h) <;> first|(simp only[oI9]at h;subst h;rfl)|cases h
theorem HSat.renew(h:HSat W0 Fr U H ρ w){n:Nm}{o:Ob}(hn:look H n=some o)(hr:o.rw=true){g off cp:Nat}(hp:ρ n=some (g,off,cp))(hnm:¬U nm)
  {arr:Array Value} {c':a9} {el es:Nat} (hg:∃ cur,w.heap[g]? = some (.cells cur el (0,0))) (hcr:c'.isRaw=false) (hc:c'.bd U) (hs:c'.size<=arr.size/\(0<es->arr.size=cp*es)/\cp<=maxLen)
  (ha:∀ i,i<c'.size->arr[i]? = some ((c'.at i).den ρ)) :
  HSat W0 Fr (λm=>U m∨m=nm) ((nm,⟨true,el,c',es⟩) :: (n,a1e) :: H) (ρ.set nm (g,0,cp)) (w.setRow g arr):=by
 have hk:=h.kill hn;have hfr:¬Fr g:=h.free n o _ hn hr hp;obtain⟨cur,hg⟩:=hg;have hother:∀ k,k≠g->(w.setRow g arr).heap[k]? = w.heap[k]? := λk hne=>setRow_other w g k _ hne
 have hself:(w.setRow g arr).heap[g]? = some (.cells arr el (0,0)):=setRow_heap w g cur arr el (0,0) hg
 have hne:∀ m o',look ((n,a1e) :: H) m=some o'->(o'.rw=true∨0<o'.c.size)->∀ p,ρ m=some p->p.1≠g:=by
  intro m o' hm ho p hpm e;rw[g8]at hm;split at hm
  ·cases hm;simp[a1e,a9.size]at ho
  ·rename_i hnm';exact h.inj n m o o' (g,off,cp) p hn hm hnm' hr ho hp hpm e.symm
 refine {
  os:=h.os,tape:=h.tape,output:=h.output
  size:=by rw[show (w.setRow g arr).heap.size=w.heap.size by simp[World.setRow]];exact h.size
  frlt:=h.frlt
  frame:=λk hk'=>by rw[hother k (λe=>hfr (e▸hk'))];exact h.frame k hk'
  used:=λm o' hm=>?_
  bd:=λm o' hm=>?_
  obj:=λm o' hm=>?_
  inj:=λm1 m2 o1 o2 p q h1 h2 hne' hr1 hr2 hp1 hq=>?_
  free:=λm o' p hm hr' hp'=>?_
  rawd:=λm o' ts D sz F hm hr' hc'=>?_}
 rotate_right
 ·rw[g8]at hm;split at hm
  ·cases hm;simp only at hc';rw[hc']at hcr;cases hcr
  ·have k:=hk.rawd m o' ts D sz F hm hr' hc'
   have hDg:¬D g:=by
    rw[g8]at hm;split at hm
    ·cases hm;simp[a1e]at hr'
    ·rename_i hnm2;exact(h.rawd m o' ts D sz F hm hr' hc').sep n o _ hn hnm2 (.inl hr) hp
   refine⟨λb hb=>(k.sat b hb).congr λ_=>hother b (λe=>hDg (e▸hb)),k.free,λm' o2 q hm' hne2 hr2 hq=>?_,λm' o2 ts' D' sz' F' hm' hne2 hr2 hc2=>?_⟩
   ·rw[g8]at hm';split at hm'
    ·rename_i e;subst e;rw[Rho.set_self]at hq;cases hq;exact hDg
    ·rw[Rho.set_agree hnm m' (hk.used _ _ hm')]at hq;exact k.sep m' o2 q hm' hne2 hr2 hq
   ·rw[g8]at hm';split at hm'
    ·cases hm';simp only at hc2;rw[hc2]at hcr;cases hcr
    ·exact k.sepr m' o2 ts' D' sz' F' hm' hne2 hr2 hc2
 ·rw[g8]at hm;split at hm
  ·rename_i e;exact .inr e.symm
  ·exact .inl (hk.used m o' hm)
 ·rw[g8]at hm;split at hm
  ·cases hm;exact a9.bd_mono (λ_ h=>.inl h) hc
  ·exact a9.bd_mono (λ_ h=>.inl h) (hk.bd m o' hm)
 ·rw[g8]at hm;split at hm
  ·rename_i e;subst e;cases hm;rw[Rho.set_self];refine⟨λi hi=>?_,λ_=>⟨rfl,arr,hself,hs⟩,λ_=>hs.2.2⟩;rw[SV.den_congr (Rho.set_agree hnm) _ (hc i hi),<-ha i hi];simp only[World.cell?,hself];simp
  ·have hm':=hk.used m o' hm;rw[Rho.set_agree hnm m hm'];exact(hk.obj m o' hm).congr (λb off' cp' hb hs' _=>hother b (hne m o' hm hs' _ hb)) (λi hi=>SV.den_congr (Rho.set_agree hnm) _ (hk.bd m o' hm i hi))
 ·rw[g8]at h1 h2;split at h1
  ·rename_i e;subst e;rw[if_neg hne']at h2;rw[Rho.set_self]at hp1;cases hp1;rw[Rho.set_agree hnm m2 (hk.used _ _ h2)]at hq;exact λe=>hne m2 o2 h2 hr2 q hq e.symm
  ·rw[Rho.set_agree hnm m1 (hk.used _ _ h1)]at hp1;split at h2
   ·rename_i e;subst e;rw[Rho.set_self]at hq;cases hq;exact hne m1 o1 h1 (.inl hr1) p hp1
   ·rw[Rho.set_agree hnm m2 (hk.used _ _ h2)]at hq;exact hk.inj m1 m2 o1 o2 p q h1 h2 hne' hr1 hr2 hp1 hq
 ·rw[g8]at hm;split at hm
  ·rename_i e;subst e;rw[Rho.set_self]at hp';cases hp';exact hfr
  ·rw[Rho.set_agree hnm m (hk.used _ _ hm)]at hp';exact hk.free m o' p hm hr' hp'
theorem a1V{sz:Nat}(hsz:1<=sz)(hH:HSat W0 Fr U H ρ w){x:SV}{m:Nat}{vs:List SV}{mn:Nm}{p:Option Prop}(h:a4R (look H) sz x=some (m,vs,mn,p))(hp:okP p)(hm:1<=m) :
  ∃ b off cap,x.den ρ=.slice (some ⟨b,off,none⟩) m cap/\vs.length=m*sz/\bdL U vs/\∀ j u,(p8 ρ vs)[j]? = some u->w.cell? ((⟨b,off,none⟩:Addr).add j)=some u:=by
 have key:∀(k:Nm)(ob:Ob)(off:Nat),look H k=some ob->ob.c.getN off (m*sz)=some vs->ob.c.inb off (m*sz)->
   ∃ b o cp,ρ k=some (b,o,cp)/\cp<=maxLen/\vs.length=m*sz/\bdL U vs/\∀ j u,(p8 ρ vs)[j]? = some u->w.cell? ((⟨b,o+off,none⟩:Addr).add j)=some u:=by
  intro k ob off hob hvs hb;obtain⟨hl,hv⟩:=a9.getN_spec hvs hb;have hpos:0<vs.length:=by rw[hl];exact Nat.mul_pos (by omega) (by omega)
  obtain⟨b,o,cp,hρ,_⟩:=hH.cell hob (i:=off) (by
   have:=hv 0 (vs[0]'hpos) (by simp[hpos])
   simpa using this.1)
  refine⟨b,o,cp,hρ,hH.capOk hob (by
   have:=(hv 0 (vs[0]'hpos) (by simp[hpos])).1
   omega) hρ,hl,?_,λj u hu=>?_⟩
  ·rw[G8];intro x hx;obtain⟨j,hj,rfl⟩:=List.getElem_of_mem hx;obtain⟨h1,h2⟩:=hv j _ (List.getElem?_eq_getElem hj);rw[<-h2];exact hH.bd k ob hob _ h1
  ·rw[A4]at hu;simp only[List.getElem?_map,Option.map_eq_some_iff]at hu;obtain⟨x,hx,rfl⟩:=hu;obtain⟨h1,h2⟩:=hv j x hx;obtain⟨b',o',cp',hρ',hc⟩:=hH.cell hob h1;rw[hρ]at hρ';injection hρ' with e;injection e with e1 e2;injection e2 with e2 e3;subst e1 e2
   rw[h2]at hc;rw[Addr.add_lit,<-hc,Nat.add_assoc]
 unfold a4R at h;split at h
 ·rename_i k off len cap;split at h
  ·rename_i ob hob;split at h
   ·rename_i us hus;simp only[oI9,pI9]at h;obtain⟨rfl,rfl,rfl,rfl⟩:=h;obtain⟨b,o,cp,hρ,_,h1,h2,h3⟩:=key k ob off hob hus (a9.inbO_ok hp);exact⟨b,o+off,cap,by simp[SV.den,Rho.addr,hρ],h1,h2,h3⟩
   ·cases h
  ·cases h
 ·rename_i k len;split at h
  ·rename_i ob hob;split at h
   ·rename_i us hus;simp only[oI9,pI9]at h;obtain⟨rfl,rfl,rfl,rfl⟩:=h;obtain⟨b,o,cp,hρ,hc,h1,h2,h3⟩:=key k ob 0 hob hus (a9.inbO_ok hp);exact⟨b,o+0,cp,by simp[SV.den,Rho.addrC,Rho.cap,hρ,Rho.sp_le hc,Rho.cp_le hc],h1,h2,h3⟩
   ·cases h
  ·cases h
 ·cases h
theorem TOk.zero_row{t:Nat}{ti:TI}(h:TOk P t ti):∃ i z,P.info? t=some i/\i.zero=some z/\i.size=ti.size/\i.bytes=ti.bytes/\z.cells.size=ti.size:=by
 have hz:=h.zero;rw[Option.map_eq_some_iff]at hz;obtain⟨z,hz,he⟩:=hz;rw[Option.bind_eq_some_iff]at hz;obtain⟨i,hi,hz⟩:=hz;obtain⟨i',hi',h1,h2⟩:=h.run_info;rw[hi]at hi';injection hi' with e
 subst e;refine⟨i,z,hi,hz,h1,h2,?_⟩;have:=congrArg List.length he;rw[<-h.zsz];simpa [a8A]using this
theorem b5y{c c':a9}{vs:List SV}(h:c.app vs=some c')(hc:c.bd U)(hv:bdL U vs):c'.bd U:=by
 obtain⟨h1,h2,h3⟩:=a9.app_spec h;intro i hi;rw[h1]at hi;by_cases hlt:i<c.size
 ·rw[h2 i hlt];exact hc i hlt
 ·have hj:i-c.size<vs.length:=by omega
  have:=h3 (i-c.size) _ (List.getElem?_eq_getElem hj);rw[show c.size+(i-c.size)=i by omega]at this;rw[this];exact(G8 U vs).1 hv _ (List.getElem_mem hj)
theorem b2W{c c':a9}{vs:List SV}(h:c.app vs=some c')(ρ:Rho)(rest:List Value):∀ i,i<c'.size->
  ((List.range c.size).map (λi=>(c.at i).den ρ)++(p8 ρ vs++rest))[i]? = some ((c'.at i).den ρ):=by
 obtain⟨h1,h2,h3⟩:=a9.app_spec h;intro i hi;rw[h1]at hi;by_cases hlt:i<c.size
 ·rw[h2 i hlt,List.getElem?_append_left (by simpa using hlt)];simp[hlt]
 ·have hj:i-c.size<vs.length:=by omega
  have:=h3 (i-c.size) _ (List.getElem?_eq_getElem hj);rw[show c.size+(i-c.size)=i by omega]at this;rw[this,List.getElem?_append_right (by simpa using hlt)];simp only[List.length_map,List.length_range];rw[List.getElem?_append_left (by simpa [A4]using hj)];simp[A4,hj]
theorem b2H{nm:Nm}{V:Nm->Prop}(h:HSat W0 Fr (λm=>V m∨m=nm) H ρ w):HSat W0 Fr (UU V nm) H ρ w:=h.mono λn h=>by
 rcases h with h|h
 ·exact .inl h
 ·subst h;exact .inr ⟨Nat.le_refl _,Nat.lt_add_of_pos_right (by decide)⟩
theorem a6D{T:Tys}(hT:TysOk P T)(hH:HSat W0 Fr U H ρ w)(hn:¬U nm){t:Nat}{s x:SV}{e:Eff}(h:a0o T (look H) nm t s x=some e)(ho:okP e.obl)(ty':Nat) :
  z9 W0 Fr U H ρ nm e ((do pure (.value (<-Builtin.append_ #[t,t] ty' #[s.den ρ,x.den ρ])):Sem Next).run P w):=by
 have hnmU:(SV.slcc nm 0).bd (UU U nm):=.inr ⟨Nat.le_refl _,Nat.lt_add_of_pos_right (by decide)⟩;unfold a0o at h;split at h
 ·rename_i el _ _ _ _ hti;split at h
  ·rename_i te hte;split at h
   ·rename_i m vs mn p hsrc;split at h
    ·rename_i hb;simp only[bA9]at hb;have hsz:=Nat.le_of_ble_eq_true hb.1.1;have hm:=Nat.le_of_ble_eq_true hb.1.2;have hone:=a2g hb.2;obtain⟨d,hd,hd2⟩:=(hT t _ hti).desc;cases d <;> simp only[G9,TK.slice.injEq,reduceCtorEq]at hd2
     subst hd2;rename_i el;obtain⟨i,z,hi,hz,hsi,hby,hzs⟩:=(hT el _ hte).zero_row;split at h
     ·split at h
      ·rename_i hfit;simp only[bA9]at hfit;have hf1:=Nat.le_of_ble_eq_true hfit.1;have hf2:=Nat.le_of_ble_eq_true hfit.2;simp only[oI9]at h;subst h;obtain⟨b,off,cap,hx,hl,hbd,hcell⟩:=a1V (w:=w) hsz hH hsrc ho hm;have hr:=run_append_nil (P:=P) w t ty' el i z hd hi hz ⟨b,off,none⟩ m cap (p8 ρ vs) (by simp[A4,hl,hsi]) hcell (by omega) (by omega) (by rw[hby];omega);have hge:=grownCap_ge w m 0 el;have hcm:=grownCap_le_maxLen w m 0 el (by simp only[maxLen];omega)
       have hsize:((p8 ρ vs).toArray++Builtin.zeroCells z.cells (grownCap w m 0 el-m)).size=grownCap w m 0 el*te.size:=by
        simp only[Array.size_append,List.size_toArray,size_zeroCells,hzs,A4,List.length_map,hl,<-Nat.add_mul];congr 1;omega
       have hA:=(hH.drew.alloc hn (t:=el) (c:=.cells vs) (es:=te.size) (cp:=grownCap w m 0 el) (arr:=(p8 ρ vs).toArray++Builtin.zeroCells z.cells (grownCap w m 0 el-m)) rfl (a6g hbd)
        ⟨by rw[hsize];show vs.length<=_;rw[hl];exact Nat.mul_le_mul_right _ hge,λ_=>hsize,hcm⟩ (λj hj=>by
         rw[Array.getElem?_append_left (by rw[(V7 ρ vs).1];exact hj)]
         exact(V7 ρ vs).2 j hj))
       refine⟨_,_,Rho.set_agree hn,b2H hA,hnmU,?_⟩;simp only[SV.den]at hx ⊢;simp[hx,hr,Rho.addrC,Rho.cap,Rho.set_self,Rho.sp_le hcm,Rho.cp_le hcm]
      ·cases h
     ·rename_i n len;split at h
      ·rename_i el' c es hob;split at h
       ·rename_i hbe;simp only[bA9]at hbe;have he1:=eB9 hbe.1;have he2:=eB9 hbe.2;subst he1 he2;split at h
        ·rename_i c' hc';simp only[oI9]at h;subst h;obtain⟨hp,hcs,hby2,hlm⟩:=Y8 ho;obtain⟨b,off,cap,hx,hl,hbd,hcell⟩:=a1V (w:=w) hsz hH hsrc hp hm;obtain⟨hs1,_,_⟩:=a9.app_spec hc';have hs1':c'.size=(len+m)*te.size:=by rw[hs1,hcs,hl,Nat.add_mul]
         have hobj:=hH.obj n _ hob;have hbdc:=hH.bd n _ hob
         have grows:∀(oldc:Nat)(olds:List Value),oldc<len+m->olds=(List.range c.size).map (λi=>(c.at i).den ρ)->
           (Builtin.append_ #[t,t] ty' #[(SV.slcc n len).den ρ,x.den ρ]).run P w=.ok (.slice (some ⟨w.heap.size,0,none⟩) (len+m) (grownCap w (len+m) oldc el'))
            (w.drew.alloc (.cells (olds.toArray++(p8 ρ vs).toArray++Builtin.zeroCells z.cells (grownCap w (len+m) oldc el'-(len+m))) el'))->
           z9 W0 Fr U H ρ nm ⟨some (.slcc nm (len+m)),[(n,a1e)],[(nm,⟨true,el',c',te.size⟩)],[mn,n],a3A p (c.size=len*te.size/\(len+m)*te.bytes<=140737488355328/\len+m<=maxLen)⟩
            ((do pure (.value (<-Builtin.append_ #[t,t] ty' #[(SV.slcc n len).den ρ,x.den ρ])):Sem Next).run P w):=by
          intro oldc olds hlt holds hr;have hge:=grownCap_ge w (len+m) oldc el';have hcm:=grownCap_le_maxLen w (len+m) oldc el' hlm;have hol:olds.length=len*te.size:=by rw[holds];simp[hcs]
          have hsize:(olds.toArray++(p8 ρ vs).toArray++Builtin.zeroCells z.cells (grownCap w (len+m) oldc el'-(len+m))).size=grownCap w (len+m) oldc el'*te.size:=by
           simp only[Array.size_append,List.size_toArray,size_zeroCells,hzs,A4,List.length_map,hl,hol,<-Nat.add_mul];congr 1;omega
          have hA:=(hH.drew.alloc hn (t:=el') (c:=c') (es:=te.size) (cp:=grownCap w (len+m) oldc el') (arr:=olds.toArray++(p8 ρ vs).toArray++Builtin.zeroCells z.cells (grownCap w (len+m) oldc el'-(len+m))) (a9.app_raw hc') (b5y hc' hbdc hbd)
           ⟨by rw[hsize,hs1'];exact Nat.mul_le_mul_right _ hge,λ_=>hsize,hcm⟩ (λj hj=>by
            have:=b2W hc' ρ (Builtin.zeroCells z.cells (grownCap w (len+m) oldc el'-(len+m))).toList j hj;rw[<-this,<-holds,<-Array.getElem?_toList]
            simp))
          have hne:nm≠n:=λe=>hn (e▸hH.used n _ hob)
          have hK:=hA.kill (n:=n) (o:=⟨true,el',c,te.size⟩) (by rw[g8,if_neg hne];exact hob);refine⟨_,_,Rho.set_agree hn,b2H hK,hnmU,?_⟩;rw[Sem.run_bind,hr];simp[SV.den,Rho.addrC,Rho.cap,Rho.set_self,Rho.sp_le hcm,Rho.cp_le hcm]
         cases hρ:ρ n with
         | none =>
          rw[hρ]at hobj;have hc0:c.size=0:=hobj
          have hlen:len=0:=by
           rw[hc0]at hcs;rcases Nat.eq_zero_or_pos len with h0|h0
           ·exact h0
           ·have:=Nat.mul_pos h0 (show 0<te.size by omega);omega
          subst hlen;have hr:=run_append_nil (P:=P) w t ty' el' i z hd hi hz ⟨b,off,none⟩ m cap (p8 ρ vs) (by simp[A4,hl,hsi]) hcell (by omega) (by simp only[maxLen]at hlm;omega) (by rw[hby];rw[Nat.zero_add]at hby2;omega);refine grows 0 [] (by omega) (by simp[hc0]) ?_;simp only[SV.den,Rho.addrC,Rho.cap,hρ,Option.map_none,hx,hr,Nat.zero_add];simp
         | some q =>
          obtain⟨g,o2,cp⟩:=q;rw[hρ]at hobj;obtain⟨hcells,hrow,_⟩:=hobj;obtain⟨rfl,cur,hcur,hcl,hes,hcpm⟩:=hrow rfl;have hcp:cur.size=cp*te.size:=hes (show 0<te.size by omega);have hsden:(SV.slcc n len).den ρ=.slice (some ⟨g,0,none⟩) len cp:=by simp[SV.den,Rho.addrC,Rho.cap,hρ,Rho.sp_le hcpm,Rho.cp_le hcpm]
          have hcell':∀ j,j<c.size->cur[j]? = some ((c.at j).den ρ):=by
           intro j hj;have:=hcells j hj;simp only[World.cell?,hcur]at this;simpa using this
          by_cases hroom:len+m<=cp
          ·have hfit:len*i.size+(p8 ρ vs).length<=cur.size:=by
            rw[hsi,hcp];simp only[A4,List.length_map,hl,<-Nat.add_mul];exact Nat.mul_le_mul_right _ hroom
           have hr:=run_append_room (P:=P) w t ty' el' i hd hi g len cp cur hcur ⟨b,off,none⟩ m cap (p8 ρ vs) (by simp[A4,hl,hsi]) hcell (by
            intro u hu;rw[A4]at hu;obtain⟨y,hy,rfl⟩:=List.mem_map.1 hu
            exact SV.one_den ρ (hone y hy)) hroom hfit
           have htake:cur.toList.take (len*i.size)=(List.range c.size).map (λi=>(c.at i).den ρ):=by
            apply List.ext_getElem?
            intro j;rw[hsi,<-hcs,List.getElem?_take];by_cases hj:j<c.size
            ·rw[if_pos hj,Array.getElem?_toList,hcell' j hj];simp[hj]
            ·rw[if_neg hj,List.getElem?_eq_none (by simp;omega)]
           have hR:=hH.renew (n:=n) hob rfl hρ hn (g:=g) (el:=el') (es:=te.size) (c':=c') (arr:=(cur.toList.take (len*i.size)++p8 ρ vs++cur.toList.drop (len*i.size+(p8 ρ vs).length)).toArray)
            ⟨cur,hcur⟩ (a9.app_raw hc') (b5y hc' hbdc hbd) (by
             have hsz2:(cur.toList.take (len*i.size)++p8 ρ vs++cur.toList.drop (len*i.size+(p8 ρ vs).length)).toArray.size=cur.size:=by
              simp only[List.size_toArray,List.length_append,List.length_take,List.length_drop,Array.length_toList];omega
             refine⟨?_,λ_=>by rw[hsz2,hcp],hcpm⟩;rw[hsz2,hcp,hs1'];exact Nat.mul_le_mul_right _ hroom) (λj hj=>by
             have:=b2W hc' ρ (cur.toList.drop (len*i.size+(p8 ρ vs).length)) j hj;rw[<-this,<-htake]
             simp)
           have hne:nm≠n:=λe=>hn (e▸hH.used n _ hob)
           have hR2:=hR.lookEq (H':=(n,a1e) :: (nm,⟨true,el',c',te.size⟩) :: H) (λk=>by
            simp only[g8];by_cases h1:n=k
            ·subst h1;simp[hne]
            ·simp[h1])
           refine⟨_,_,Rho.set_agree hn,b2H hR2,hnmU,?_⟩;rw[hsden,hx,Sem.run_bind,hr];simp[SV.den,Rho.addrC,Rho.cap,Rho.set_self,Rho.sp_le hcpm,Rho.cp_le hcpm]
          ·have hr:=run_append_grow (P:=P) w t ty' el' i z hd hi hz ⟨g,0,none⟩ len cp ((List.range c.size).map (λi=>(c.at i).den ρ)) (by simp[hcs,hsi]) (by
             intro j v hj;rw[Addr.add_lit];have hjl:j<c.size:=by simpa using (List.getElem?_eq_some_iff.1 hj).1
             have:=hcells j hjl;rw[this];simp[hjl]at hj
             simp[hj]) ⟨b,off,none⟩ m cap (p8 ρ vs) (by simp[A4,hl,hsi]) hcell (by omega) (by simp only[maxLen]at hlm;omega) (growslice_fits (by omega) (by rw[hby];exact hby2))
           refine grows cp _ (by omega) rfl ?_;rw[hsden,hx,hr]
        ·cases h
       ·cases h
      ·cases h
     ·cases h
    ·cases h
   ·cases h
  ·cases h
 ·cases h
end
def R4(T:Tys)(rd:Nm->Option Ob)(x:SV):Option Eff :=
 match x with
 | .ptr n off=>match rd n with
  | some ob=>some ⟨some (.ptr n off),[],[],[n],ob.c.neO⟩
  | none=>none
 | .ifc t v=>some (Eff.pure (.ifc t v))
 | .fn (.method name) [.ifc t v] c=>match ty T t with
  | some ti=>match a8h ti.ms name with
   | some m=>match m.off with
    | none=>some (Eff.pure (.fn (.method name) [.ifc t v] c))
    | some _=>match v with
     | .ptr n i=>match rd n with
      | some ob=>some ⟨some (.fn (.method name) [.ifc t (.ptr n i)] c),[],[],[n],ob.c.neO⟩
      | none=>none
     | _=>none
   | none=>none
  | none=>none
 | _=>none
def a0e(T:Tys)(rd:Nm->Option Ob)(op:BinOp)(t:Nat)(x y:SV):Option Eff :=
 match ty T t with
 | some {tk:=.ptr _, ..}=>match x,y with
  | .ptr n _, .nilp=>match rd n with
   | some ob=>match a4G op false with
    | some (v,_)=>some ⟨some v,[],[],[n],ob.c.neO⟩
    | none=>none
   | none=>none
  | .nilp, .nilp=>match a4G op true with
   | some (v,_)=>some (Eff.pure v)
   | none=>none
  | _,_=>none
 | _=>none
def b6X(z:List SV)(n:Nat):Option a9 :=
 match z with
 | .int k _ :: _=>match a1K k z with
  | some xs=>match xs.all (·== 0)with
   | true=>some (.ints k (n*z.length) λ_=>0)
   | false=>none
  | none=>none
 | .flt k _ :: _=>match a1G k z with
  | some xs=>match xs.all (·== 0)with
   | true=>some (.flts k (n*z.length) λ_=>0)
   | false=>none
  | none=>none
 | [.nili]=>some (.gen n λ_=>.nili)
 | _=>none
theorem b7f{z:List SV}{n:Nat}{c:a9}(h:b6X z n=some c):c.isRaw=false:=by
 unfold b6X at h
 repeat' split at h
 all_goals first|(simp only[oI9]at h;subst h;rfl)|cases h
theorem b5r{z:List SV}{n:Nat}{c:a9}(h:b6X z n=some c):z≠[]/\c.size=n*z.length/\∀ U,c.bd U/\∀ i,i<n*z.length->z[i % z.length]? = some (c.at i):=by
 unfold b6X at h;split at h
 ·rename_i k a r;split at h
  ·rename_i xs hxs;split at h
   ·rename_i hall;simp only[oI9]at h;subst h;have hz:=O7 hxs;refine⟨by simp,rfl,λU=>⟨λi _=>by simp[a9.at,SV.bd],λi hi=>?_⟩⟩;generalize hzz:SV.int k a :: r=zz at *;have hp:0<zz.length:=by rw[<-hzz];simp
    have hl:i % zz.length<zz.length:=Nat.mod_lt _ hp;rw[hz]at hl ⊢;rw[List.length_map]at hl ⊢;rw[List.getElem?_map,List.getElem?_eq_getElem hl];have:=List.all_eq_true.1 hall _ (List.getElem_mem hl);simp only[beq_iff_eq]at this;simp[a9.at,this]
   ·cases h
  ·cases h
 ·rename_i k a r;split at h
  ·rename_i xs hxs;split at h
   ·rename_i hall;simp only[oI9]at h;subst h;have hz:=O1 hxs;refine⟨by simp,rfl,λU=>⟨λi _=>by simp[a9.at,SV.bd],λi hi=>?_⟩⟩;generalize hzz:SV.flt k a :: r=zz at *;have hp:0<zz.length:=by rw[<-hzz];simp
    have hl:i % zz.length<zz.length:=Nat.mod_lt _ hp;rw[hz]at hl ⊢;rw[List.length_map]at hl ⊢;rw[List.getElem?_map,List.getElem?_eq_getElem hl];have:=List.all_eq_true.1 hall _ (List.getElem_mem hl);simp only[beq_iff_eq]at this;simp[a9.at,this]
   ·cases h
  ·cases h
 ·simp only[oI9]at h;subst h;refine⟨by simp,by simp[a9.size],λU=>⟨λi _=>trivial,λi hi=>?_⟩⟩;simp[a9.at,Nat.mod_one]
 ·cases h
def a1W(T:Tys)(nm:Nm)(t:Nat)(l c:SV):Option Eff :=
 match ty T t with
 | some {tk:=.slice e, ..}=>match ty T e with
  | some {zero:=.cells z,bytes:=by',size:=sz, ..}=>match l,c with
   | .int _ n, .int _ m=>match b6X z n.toNat with
    | some ct=>some ⟨some (.slcc nm n.toNat),[],[(nm,⟨true,e,ct,sz⟩)],[],some (m=n/\0<=n/\n<=maxLen/\n*by'<=140737488355328)⟩
    | none=>none
   | _,_=>none
  | _=>none
 | _=>none
section
variable {P:Program} {W0:World} {Fr:Nat->Prop} {U:Nm->Prop} {H:A1} {ρ:Rho} {w:World} {nm:Nm}
theorem a4l{T:Tys}(hT:TysOk P T)(hH:HSat W0 Fr U H ρ w){x:SV}(hx:x.bd U){e:Eff}(h:R4 T (look H) x=some e)(ho:okP e.obl){ev:Operand->Value}{o:Oper}{y:Operand}(hop:o.op=.nilCheck y)(hy:ev y=x.den ρ) :
  z9 W0 Fr U H ρ nm e ((execOp ev o).run P w):=by
 obtain⟨dst,op,ty',pos,after,guard⟩:=o;simp only at hop;subst hop;unfold R4 at h;split at h
 ·rename_i n off;split at h
  ·rename_i ob hob;simp only[oI9]at h;subst h;obtain⟨b,off',cp,hρ⟩:=hH.there hob (a9.neO_ok ho);refine z9.same hH (v:=.ptr n off) hx ?_;simp[execOp,hy,SV.den,Rho.addr,hρ]
  ·cases h
 ·rename_i t v;simp only[oI9]at h;subst h;refine z9.same hH (v:=.ifc t v) hx ?_;simp[execOp,hy,SV.den]
 ·rename_i name t v c;split at h
  ·rename_i ti hti;split at h
   ·rename_i m hm;split at h
    ·rename_i ho';simp only[oI9]at h;subst h;refine z9.same hH (v:=.fn (.method name) [.ifc t v] c) hx ?_;obtain⟨hmem,hname⟩:=a2o hm;have hmok:=(hT t ti hti).ms m hmem;unfold MOk at hmok;rw[ho']at hmok;have h2:=hmok.2 (v.den ρ);rw[hname]at h2;simp[execOp,hy,SV.den,p8,h2]
    ·rename_i o ho';split at h
     ·rename_i n i;split at h
      ·rename_i ob hob;simp only[oI9]at h;subst h;obtain⟨b,off,cp,hρ⟩:=hH.there hob (a9.neO_ok ho);refine z9.same hH (v:=.fn (.method name) [.ifc t (.ptr n i)] c) hx ?_;obtain⟨hmem,hname⟩:=a2o hm;have hmok:=(hT t ti hti).ms m hmem;unfold MOk at hmok;rw[ho']at hmok;have h2:=hmok.2 ⟨b,off+i,none⟩;rw[hname]at h2;simp[execOp,hy,SV.den,p8,Rho.addr,hρ,h2]
      ·cases h
     ·cases h
   ·cases h
  ·cases h
 ·cases h
theorem a5N{T:Tys}(hT:TysOk P T)(hH:HSat W0 Fr U H ρ w){op:BinOp}{t:Nat}{xo yo:Operand}{x y:SV}{e:Eff}(h:a0e T (look H) op t x y=some e)(ho:okP e.obl) :
  z9 W0 Fr U H ρ nm e ((((do eqGuard op t xo yo (x.den ρ) (y.den ρ);binOp op t (x.den ρ) (y.den ρ)):Sem Value) >>= λv=>(pure (.value v):Sem Next)).run P w):=by
 unfold a0e at h;split at h
 ·rename_i el _ _ _ _ hti;obtain⟨d,hd,hk⟩:=(hT t _ hti).desc;cases d <;> simp only[G9,TK.ptr.injEq,reduceCtorEq]at hk
  split at h
  ·rename_i n off;split at h
   ·rename_i ob hob;split at h
    ·rename_i v o' hv;simp only[oI9]at h;subst h;obtain⟨b,off',cp,hρ⟩:=hH.there hob (a9.neO_ok ho);have hg:(eqGuard op t xo yo ((SV.ptr n off).den ρ) (SV.nilp.den ρ)).run P w=.ok () w:=by simp only[SV.den];rw[eqGuard_at_pointer];rfl
     obtain⟨h1,h2⟩:=O9 (P:=P) w ρ hv (t:=t) (x:=(SV.ptr n off).den ρ) (y:=SV.nilp.den ρ) (by simp[SV.den]) (by simp[SV.den]) (by simp[SV.den]) (by simp[SV.den]) (by
      simp only[SV.den,Rho.addr,hρ,Option.map_some];rw[K9];unfold Op.equalIn
      simp only[Sem.run_bind,run_underlying hd,Result.andThen_ok,Sem.run_pure])
     refine z9.same hH (SV.bd_closed U _ h2) ?_;simp only[Sem.run_bind,hg,Result.andThen_ok,h1,Sem.run_pure]
    ·cases h
   ·cases h
  ·split at h
   ·rename_i v o' hv;simp only[oI9]at h;subst h;have hg:(eqGuard op t xo yo (SV.nilp.den ρ) (SV.nilp.den ρ)).run P w=.ok () w:=by simp only[SV.den];rw[eqGuard_at_pointer];rfl
    obtain⟨h1,h2⟩:=O9 (P:=P) w ρ hv (t:=t) (x:=SV.nilp.den ρ) (y:=SV.nilp.den ρ) (by simp[SV.den]) (by simp[SV.den]) (by simp[SV.den]) (by simp[SV.den]) (by
     simp only[SV.den];rw[K9];unfold Op.equalIn
     simp only[Sem.run_bind,run_underlying hd,Result.andThen_ok,Sem.run_pure,Option.isNone_none])
    refine z9.same hH (SV.bd_closed U _ h2) ?_;simp only[Sem.run_bind,hg,Result.andThen_ok,h1,Sem.run_pure]
   ·cases h
  ·cases h
 ·cases h
theorem a3p{T:Tys}(hT:TysOk P T)(hH:HSat W0 Fr U H ρ w)(hn:¬U nm){t:Nat}{l c:SV}{e:Eff}(h:a1W T nm t l c=some e)(ho:okP e.obl) :
  z9 W0 Fr U H ρ nm e ((do pure (.value (<-Instr.makeSlice t (l.den ρ) (c.den ρ))):Sem Next).run P w):=by
 unfold a1W at h;split at h
 ·rename_i el _ _ _ _ hti;split at h
  ·rename_i tk sz by' z msx hte;split at h
   ·rename_i k n k' m;split at h
    ·rename_i ct hct;simp only[oI9]at h;subst h;obtain⟨rfl,h0,hml,hby⟩:=ho;obtain⟨hz0,hcs,hca⟩:=b5r hct;have hte':=hT el _ hte;obtain⟨d,hd,hd2⟩:=(hT t _ hti).desc;cases d <;> simp only[G9,TK.slice.injEq,reduceCtorEq]at hd2
     subst hd2;rename_i el';obtain⟨v,hz1,hz2,hz3⟩:=R8 hte' rfl ρ w;have hzl:z.length=sz:=hte'.zsz;obtain⟨i',hi',hi1,hi2⟩:=hte'.run_info;obtain⟨N,rfl⟩:=Int.eq_ofNat_of_zero_le h0;simp only[tN9]at *;have hml':(N:Int)<9223372036854775808:=by simp only[maxLen]at hml;omega
     have hw:IntKind.i64.wrap (N:Int)=N:=by
      simp[IntKind.wrap,IntKind.bits,IntKind.signed];omega
     have hzl0:0<z.length:=List.length_pos_iff.2 hz0;have hsize:((Array.range (N*sz)).map λi=>(p8 ρ z).toArray[i % (p8 ρ z).toArray.size]!).size=N*sz:=by simp
     refine z9.new hH hn (es:=sz) (cp:=N) (b7f hct) ((hca U).1) ⟨by rw[hsize,hcs,hzl];exact Nat.le_refl _,λ_=>hsize,by omega⟩ (λi hi=>?_) (by simp[SV.bd]) (λρ' hρ'=>?_)
     ·rw[hcs]at hi;have hi2:i<N*sz:=by rw[<-hzl];exact hi
      have hc:=(hca U).2 i hi;have hlt:i % z.length<z.length:=Nat.mod_lt _ hzl0;rw[List.getElem?_eq_getElem hlt]at hc;injection hc with hc
      simp only[Array.getElem?_map,Array.getElem?_range,hi2,if_true,Option.map_some];simp[A4,hlt,hc]
     ·have hs:(sizeOf el').run P w=.ok sz w:=hte'.run_size w;have hti2:(typeInfo el').run P w=.ok i' w:=by simp[typeInfo,hi']
      have hne1:¬((N:Int)<0):=by omega
      have hne2:¬((i'.bytes:Int)*(N:Int) > 2 ^ 48):=by
       have hb:i'.bytes=by':=hi2;rw[hb,Int.mul_comm];omega
      simp only[Instr.makeSlice,SV.den,asInt,asIntOf,Sem.run_bind,run_underlying hd,Result.andThen_ok,Sem.run_pure,hti2,hw,tN9];simp only[hne1,hne2,decide_false,Bool.or_self,gt_iff_lt,Int.lt_irrefl,Bool.false_eq_true,if_false,Sem.run_bind,run_askRoom,Result.andThen_ok,hs];by_cases h0':N*sz=0
      ·have e0:Array.range 0 = #[]:=rfl;have hlx:N<=maxLen:=by omega
       simp[h0',newRow,Rho.addrC,Rho.cap,hρ',e0,Rho.sp_le hlx,Rho.cp_le hlx]
      ·simp only[h0',if_false,Sem.run_bind,hz1,hz2,Sem.run_pure,Result.andThen_ok];have hlx:N<=maxLen:=by omega
       simp[newRow,Rho.addrC,Rho.cap,hρ',Rho.sp_le hlx,Rho.cp_le hlx]
    ·cases h
   ·cases h
  ·cases h
 ·cases h
end
def a9w(g:Nat->Nat):Nat->List Nat->Nat->Nat
 | _,[]=>g
 | i,x :: r=>a9w (upd g i x) (i+1) r
theorem b4c:∀(xs:List Nat)(g:Nat->Nat)(i j:Nat),j<i->a9w g i xs j=g j
 | [],_,_,_,_=>rfl
 | x :: r,g,i,j,h=>by
  rw[a9w,b4c r _ (i+1) j (by omega)];simp[upd];omega
theorem b3b:∀(xs:List Nat)(g:Nat->Nat)(i j x:Nat),xs[j]? = some x->a9w g i xs (i+j)=x
 | [],_,_,_,_,h=>by simp at h
 | y :: r,g,i,0,x,h=>by
  simp only[List.getElem?_cons_zero,oI9]at h;rw[a9w,b4c r _ (i+1) _ (by omega)];simp[upd,h]
 | y :: r,g,i,j+1,x,h=>by
  simp only[List.getElem?_cons_succ]at h;rw[a9w,show i+(j+1)=i+1+j by omega];exact b3b r _ (i+1) j x h
theorem b4A(k:FloatKind):a4c k k=true:=by cases k <;> rfl
theorem a7O(k:FloatKind)(n:Nat):∀(xs:List Nat)(i:Nat)(g:Nat->Nat),(a9.flts k n g).setN i (xs.map (SV.flt k))=some (.flts k n (a9w g i xs))
 | [],_,_=>rfl
 | x :: r,i,g=>by
  simp only[List.map_cons,a9.setN,a9.set,b4A];exact a7O k n r (i+1) _
def a4t(T:Tys)(rd:Nm->Option Ob)(t:Nat)(d s:SV):Option Eff :=
 match ty T t with
 | some {tk:=.slice e, ..}=>match ty T e with
  | some te=>match d,s with
   | .slcc dn dl, .slcc sn sl=>match rd dn with
    | some ⟨true,el, .flts k n _,es⟩=>match rd sn with
     | some ⟨_,_, .flts k' n' g',_⟩=>match a4c k k' with
      | true=>some ⟨some (.int .i64 dl),[(dn,⟨true,el, .flts k n g',es⟩)],[],[dn,sn],some (sl=dl/\n=dl*te.size/\n'=dl*te.size)⟩
      | false=>none
     | _=>none
    | _=>none
   | _,_=>none
  | none=>none
 | _=>none
section
variable {P:Program} {W0:World} {Fr:Nat->Prop} {U:Nm->Prop} {H:A1} {ρ:Rho} {w:World} {nm:Nm}
theorem HSat.recont(h:HSat W0 Fr U H ρ w){n:Nm}{o:Ob}(hn:look H n=some o){c':a9}(hcr:c'.isRaw=false)(hs:c'.size=o.c.size)(hc:∀ j,j<o.c.size->c'.at j=o.c.at j):HSat W0 Fr U ((n,{o with c:=c'}) :: H) ρ w :=
 {h with
  used:=λm o' hm=>by
   rw[g8]at hm;split at hm
   ·rename_i e;subst e;exact h.used _ o hn
   ·exact h.used m o' hm
  bd:=λm o' hm=>by
   rw[g8]at hm;split at hm
   ·cases hm;intro j hj;have hj':j<o.c.size:=hs▸hj;show (c'.at j).bd U;rw[hc j hj'];exact h.bd n o hn j hj'
   ·exact h.bd m o' hm
  obj:=λm o' hm=>by
   rw[g8]at hm;split at hm
   ·rename_i e;subst e;cases hm;have ho:=h.obj n o hn
    cases hp:ρ n with
    | none=>rw[hp]at ho;show c'.size=0;rw[hs];exact ho
    | some q =>
     obtain⟨b,off,cp⟩:=q;rw[hp]at ho;obtain⟨h1,h2,h9⟩:=ho;refine⟨λj hj=>?_,λhr=>?_,λhr=>h9 (by rw[<-hs];exact hr)⟩
     ·have hj':j<o.c.size:=hs▸hj;show _=some ((c'.at j).den ρ);rw[hc j hj'];exact h1 j hj'
     ·obtain⟨h3,arr,h4,h5⟩:=h2 hr;exact⟨h3,arr,h4,by show c'.size<=_/\_;rw[hs];exact h5⟩
   ·exact h.obj m o' hm
  inj:=λm1 m2 o1 o2 p q h1 h2 hne hr1 hr2 hp hq=>by
   rw[g8]at h1 h2;split at h1 <;> split at h2
   ·rename_i e1 e2;exact absurd (e1.symm.trans e2) hne
   ·rename_i e _;subst e;cases h1;exact h.inj _ m2 o o2 p q hn h2 hne hr1 hr2 hp hq
   ·rename_i _ e;subst e;cases h2;exact h.inj m1 _ o1 o p q h1 hn hne hr1 (hr2.imp id λhh=>by rw[<-hs];exact hh) hp hq
   ·exact h.inj m1 m2 o1 o2 p q h1 h2 hne hr1 hr2 hp hq
  free:=λm o' p hm hr' hp'=>by
   rw[g8]at hm;split at hm
   ·rename_i e;subst e;cases hm;exact h.free _ o p hn hr' hp'
   ·exact h.free m o' p hm hr' hp'
  rawd:=λm o' ts D sz F hm hr hc=>by
   rw[g8]at hm;split at hm
   ·cases hm;simp only at hc;rw[hc]at hcr;cases hcr
   ·have k:=h.rawd m o' ts D sz F hm hr hc;refine⟨k.sat,k.free,λm' o2 q hm' hne hr2 hq=>?_,λm' o2 ts' D' sz' F' hm' hne hr2 hc2=>?_⟩
    ·rw[g8]at hm';split at hm'
     ·rename_i e;subst e;cases hm';exact k.sep _ o q hn hne (hr2.imp id λhh=>by rw[<-hs];exact hh) hq
     ·exact k.sep m' o2 q hm' hne hr2 hq
    ·rw[g8]at hm';split at hm'
     ·cases hm';simp only at hc2;rw[hc2]at hcr;cases hcr
     ·exact k.sepr m' o2 ts' D' sz' F' hm' hne hr2 hc2}
theorem a9c{T:Tys}(hT:TysOk P T)(hH:HSat W0 Fr U H ρ w){t:Nat}{d s:SV}{e:Eff}(h:a4t T (look H) t d s=some e)(ho:okP e.obl)(ty':Nat) :
  z9 W0 Fr U H ρ nm e ((do pure (.value (<-Builtin.copy_ #[t,t] ty' #[d.den ρ,s.den ρ])):Sem Next).run P w):=by
 unfold a4t at h;split at h
 ·rename_i el _ _ _ _ hti;split at h
  ·rename_i te hte;split at h
   ·rename_i dn dl sn sl;split at h
    ·rename_i el' k n g es hdn;split at h
     ·rename_i rw2 el2 k' n' g' es2 hsn;split at h
      ·rename_i hk;simp only[oI9]at h;subst h;obtain⟨rfl,hn1,hn2⟩:=ho;have:=P3 hk;subst this;obtain⟨dd,hd,hd2⟩:=(hT t _ hti).desc;cases dd <;> simp only[G9,TK.slice.injEq,reduceCtorEq]at hd2
       subst hd2;rename_i el0;have hs:(sizeOf el0).run P w=.ok te.size w:=(hT el0 _ hte).run_size w;have hon:=hH.obj dn _ hdn;have hos:=hH.obj sn _ hsn;have hlist:(List.range n).map (λj=>SV.flt k (g' j))=((List.range n).map g').map (SV.flt k):=by simp
       have main:∃ w',(Builtin.copy_ #[t,t] ty' #[(SV.slcc dn sl).den ρ,(SV.slcc sn sl).den ρ]).run P w=.ok (goInt sl) w'/\HSat W0 Fr U ((dn,⟨true,el', .flts k n g',es⟩) :: H) ρ w':=by
        rcases Nat.eq_zero_or_pos n with h0|h0
        ·refine⟨w,?_,hH.recont hdn rfl rfl λj hj=>absurd hj (by simp[a9.size,h0])⟩;have hz:sl*te.size=0:=by omega
         have hl0:∀ a:Addr,(loadCells a 0).run P w=.ok #[] w:=λa=>rfl
         cases hq1:ρ dn <;> cases hq2:ρ sn <;> simp[Builtin.copy_,SV.den,Rho.addrC,Rho.cap,run_underlying hd,Builtin.lenOf,Builtin.firstCells,hs,hz,hl0,storeCells,hq1,hq2]
        ·obtain⟨b,off,cp,hρ,_⟩:=hH.cell hdn (i:=0) h0;obtain⟨b2,off2,cp2,hρ2,_⟩:=hH.cell hsn (i:=0) (by show 0<n';omega);rw[hρ]at hon;rw[hρ2]at hos;obtain⟨rfl,_⟩:=hon.2.1 rfl;have hcp1:=hon.2.2 h0;have hcp2:=hos.2.2 (show 0<n' by omega)
         have hld:(loadCells ⟨b2,off2,none⟩ (sl*te.size)).run P w=.ok (p8 ρ ((List.range n).map λj=>SV.flt k (g' j))).toArray w:=by
          have:=S6 (P:=P) (w:=w) (b:=b2) (o:=off2) (p8 ρ ((List.range n).map λj=>SV.flt k (g' j))) (λj v hv=>by
           simp only[A4,List.getElem?_map,Option.map_eq_some_iff]at hv;obtain⟨x,⟨y,hy,rfl⟩,rfl⟩:=hv;have hjn:j<n:=by simpa using (List.getElem?_eq_some_iff.1 hy).1
           have hy':y=j:=by simpa [hjn]using hy.symm
           subst hy'
           exact hos.1 y (by show y<n';omega))
          rw[<-this];simp[A4,hn1]
         obtain⟨w',hrun,hH'⟩:=Q5 (P:=P) ((List.range n).map λj=>SV.flt k (g' j)) hH hdn rfl hρ 0 0 (by rw[G8];intro v hv;simp only[List.mem_map]at hv;obtain⟨_,_,rfl⟩:=hv;trivial)
          (c':=.flts k n (a9w g 0 ((List.range n).map g'))) (by rw[hlist];exact a7O k n _ _ g) (by simp[a9.inb])
         refine⟨w',?_,?_⟩
         ·simp[Builtin.copy_,SV.den,Rho.addrC,Rho.cap,hρ,hρ2,Rho.sp_le hcp1,Rho.sp_le hcp2,run_underlying hd,Builtin.lenOf,Builtin.firstCells,hs,hld,hrun]
         ·have hR:=hH'.recont (n:=dn) (o:=⟨true,el', .flts k n (a9w g 0 ((List.range n).map g')),es⟩) (by simp[g8]) (c':=.flts k n g') rfl rfl (λj hj=>by
           have hjn:j<n:=hj;simp only[a9.at];have:=b3b ((List.range n).map g') g 0 j (g' j) (by simp[hjn]);rw[Nat.zero_add]at this
           rw[this])
          exact hR.lookEq λm=>by
           simp only[g8];split <;> rfl
       obtain⟨w',hrun,hH'⟩:=main;refine⟨ρ,w',λ_ _=>rfl,hH'.mono a0U,trivial,?_⟩;rw[Sem.run_bind,hrun];rfl
      ·cases h
     ·cases h
    ·cases h
   ·cases h
  ·cases h
 ·cases h
end
def a2W(x:SV)(asserted:Nat)(T:Tys)(ok:Bool):Option Eff :=
 match ok with
 | false=>none
 | true=>match ty T asserted with
  | some ti=>match ti.tk with
   | .iface=>none
   | _=>match b1C ti with
    | some z=>match x with
     | .ifc t _=>match Nat.beq t asserted with
      | true=>none
      | false=>some (Eff.pure (.tup [z, .ff]))
     | .nili=>some (Eff.pure (.tup [z, .ff]))
     | _=>none
    | none=>none
  | none=>none
section
variable {P:Program} {W0:World} {Fr:Nat->Prop} {U:Nm->Prop} {H:A1} {ρ:Rho} {w:World} {nm:Nm}
theorem a8H{t : Nat}{ti : TI}(ht : TOk P t ti){z : SV}(hz : b1C ti = some z)(ρ : Rho)(w : World) : (zeroValue t).run P w = .ok (z.den ρ) w /\ z.closed = true := by
 have hza := ht.za;rw [Option.map_eq_some_iff] at hza;obtain ⟨v0, hv0, ha⟩ := hza;rw [Option.bind_eq_some_iff] at hv0;obtain ⟨i, hi, hiz⟩ := hv0;have hrun : (zeroValue t).run P w = .ok v0 w := by simp [zeroValue, typeInfo, hi, hiz]
 unfold b1C at hz;split at hz
 · rename_i zs hzs
   obtain ⟨v, h1, h2, h3⟩ := R8 ht hzs ρ w;rw [hrun] at h1;injection h1 with h1 _
   subst h1
   have hag : ti.isAgg = b3c ti.tk := by
     unfold TI.isAgg b3c;cases ti.tk <;> rfl
   split at hz
   · rename_i hA
     simp only [oI9] at hz;subst hz;rw [<- hag, hA] at ha;rw [hrun];cases v0 <;> simp only [b8Z, Bool.false_eq_true] at ha
     simp only [Value.cells] at h2;subst h2;exact ⟨rfl, h3⟩
   · rename_i hA
     split at hz
     · rename_i u
       simp only [oI9] at hz;subst hz;rw [<- hag, hA] at ha;rw [hrun];simp only [F0, Bool.and_true] at h3
       cases v0 <;> simp only [b8Z, Bool.true_eq_false] at ha <;>
         (simp only [Value.cells, p8] at h2
          have := congrArg (λa => a[0]?) h2;simp at this;rw [this]
          exact ⟨rfl, h3⟩)
     · cases hz
 · cases hz
theorem a4A{T:Tys}(hT:TysOk P T)(hH:HSat W0 Fr U H ρ w){xt asserted:Nat}{x:SV}(_hx:x.bd U){ok:Bool}{e:Eff}(h:a2W x asserted T ok=some e) :
  z9 W0 Fr U H ρ nm e ((do pure (.value (<-Instr.typeAssert (x.den ρ) xt asserted ok)):Sem Next).run P w):=by
 unfold a2W at h;split at h
 ·cases h
 ·split at h
  ·rename_i ti hti;split at h
   ·cases h
   ·rename_i hni;split at h
    ·rename_i z hz;obtain⟨hz1,hz2⟩:=a8H (hT _ _ hti) hz ρ w;obtain⟨d,hd,hd2⟩:=(hT asserted _ hti).desc
     have hni:∀ ms,d≠ .interface ms:=by
      intro ms e;subst e;exact hni hd2.symm
     split at h
     ·rename_i t v;split at h
      ·cases h
      ·rename_i hne;have hne':t≠asserted:=λe=>by subst e;simp at hne
       simp only[oI9]at h;subst h;refine z9.same hH (v:=.tup [z, .ff]) (by simp[SV.bd,bdL,SV.bd_closed U _ hz2]) ?_
       cases d <;> first
        | exact absurd rfl (hni _)
        | simp[Instr.typeAssert,run_underlying hd,SV.den,p8,hne',hz1]
     ·simp only[oI9]at h;subst h;refine z9.same hH (v:=.tup [z, .ff]) (by simp[SV.bd,bdL,SV.bd_closed U _ hz2]) ?_
      cases d <;> first
       | exact absurd rfl (hni _)
       | simp[Instr.typeAssert,run_underlying hd,SV.den,p8,hz1]
     ·cases h
    ·cases h
  ·cases h
end
def j0(F:Nat->Nat->Value)(b c:Nat)(v:Value):Nat->Nat->Value:=λb' c'=>if b'=b/\c'=c then v else F b' c'
def K5(D:Nat->Prop)(b:Nat):Nat->Prop:=λx=>x=b∨D x
def D8(sz:Nat->Nat)(b s:Nat):Nat->Nat:=λx=>if x=b then s else sz x
def C8(F:Nat->Nat->Value)(b:Nat)(z:Nat->Value):Nat->Nat->Value:=λx=>if x=b then z else F x
noncomputable def I4(D:Nat->Prop)(F:Nat->Nat->Value)(b:Nat)(z:Nat->Value):Nat->Nat->Value:=open Classical in λx=>if D x then F x else C8 F b z x
noncomputable def K2(D:Nat->Prop)(sz:Nat->Nat)(b s:Nat):Nat->Nat:=open Classical in λx=>if D x then sz x else D8 sz b s x
theorem Q7{D:Nat->Prop}{F:Nat->Nat->Value}{b:Nat}{z:Nat->Value}(h:¬D b):I4 D F b z=C8 F b z:=by
 funext x
 unfold I4;split
 ·rename_i hx;have:x≠b:=λe=>h (e▸hx)
  unfold C8;rw[if_neg this]
 ·rfl
theorem Q2{D:Nat->Prop}{sz:Nat->Nat}{b s:Nat}(h:¬D b):K2 D sz b s=D8 sz b s:=by
 funext x
 unfold K2;split
 ·rename_i hx;have:x≠b:=λe=>h (e▸hx)
  unfold D8;rw[if_neg this]
 ·rfl
theorem b4u{D:Nat->Prop}{F:Nat->Nat->Value}{b:Nat}{z:Nat->Value}{x:Nat}(h:D x):I4 D F b z x=F x:=by
 unfold I4;rw[if_pos h]
theorem a4u{D:Nat->Prop}{sz:Nat->Nat}{b s x:Nat}(h:D x):K2 D sz b s x=sz x:=by
 unfold K2;rw[if_pos h]
section
variable {W0:World} {Fr:Nat->Prop} {U:Nm->Prop} {H:A1} {ρ:Rho} {w:World}
theorem HSat.rawStore(h:HSat W0 Fr U H ρ w){n:Nm}{o:Ob}(hn:look H n=some o)(hr:o.rw=true){ts D sz F}(hc:o.c=.raw ts D sz F){b c:Nat}(hD:D b)(hlt:c<sz b){v:Value}(hv:v.oneCell'=true) :
  HSat W0 Fr U ((n,{o with c:=.raw ts D sz (j0 F b c v)}) :: H) ρ (w.setCell ⟨b,c,none⟩ v):=by
 have k:=h.rawd n o ts D sz F hn hr hc;have hother:∀ b',b'≠b->(w.setCell ⟨b,c,none⟩ v).heap[b']? = w.heap[b']? := λb' hne=>Below.heap_setCell _ _ _ _ hne
 refine {
  os:=h.os,tape:=h.tape,output:=h.output
  size:=by rw[World.size_setCell];exact h.size
  frlt:=h.frlt
  frame:=λx hx=>by rw[hother x (λe=>k.free b hD (e▸hx))];exact h.frame x hx
  used:=λm o' hm=>?_
  bd:=λm o' hm=>?_
  obj:=λm o' hm=>?_
  inj:=λm1 m2 o1 o2 p q h1 h2 hne hr1 hr2 hp hq=>?_
  free:=λm o' p hm hr' hp'=>?_
  rawd:=λm o' ts' D' sz' F' hm hr' hc'=>?_}
 ·rw[g8]at hm;split at hm
  ·rename_i e;subst e;exact h.used _ o hn
  ·exact h.used m o' hm
 ·rw[g8]at hm;split at hm
  ·cases hm;intro j hj;exact absurd hj (Nat.not_lt_zero j)
  ·exact h.bd m o' hm
 ·rw[g8]at hm;split at hm
  ·rename_i e;subst e;cases hm;have ho:=h.obj n o hn
   cases hp:ρ n with
   | none=>rfl
   | some q =>
    obtain⟨b0,off,cp⟩:=q;rw[hp]at ho;obtain⟨_,h2,_⟩:=ho;obtain⟨h3,arr,h4,h5,h6⟩:=h2 hr;refine⟨λi hi=>absurd hi (Nat.not_lt_zero i),λ_=>?_,λhh=>absurd hh (Nat.not_lt_zero 0)⟩;by_cases e:b0=b
    ·subst e;refine⟨h3,arr.setIfInBounds c v,?_,Nat.zero_le _,?_⟩
     ·simp[World.setCell,Array.getElem?_modify,h4]
     ·simpa using h6
    ·exact⟨h3,arr,by rw[hother b0 e];exact h4,Nat.zero_le _,h6⟩
  ·rename_i hne;refine(h.obj m o' hm).congr (λb' off' cp' hb' hs' _=>hother b' λe=>?_) (λ_ _=>rfl);exact k.sep m o' _ hm (λe'=>hne e'.symm) hs' hb' (e▸hD)
 ·rw[g8]at h1 h2;split at h1 <;> split at h2
  ·rename_i e1 e2;exact absurd (e1.symm.trans e2) hne
  ·rename_i e _;subst e;cases h1;exact h.inj _ m2 o o2 p q hn h2 hne hr hr2 hp hq
  ·rename_i _ e;subst e;cases h2;exact h.inj m1 _ o1 o p q h1 hn hne hr1 (.inl hr) hp hq
  ·exact h.inj m1 m2 o1 o2 p q h1 h2 hne hr1 hr2 hp hq
 ·rw[g8]at hm;split at hm
  ·rename_i e;subst e;exact h.free _ o p hn hr hp'
  ·exact h.free m o' p hm hr' hp'
 ·have sep':∀ {m o' ts' D' sz' F'} (_:b8k Fr H ρ w m D' sz' F') (_:look H m=some o') (_:o'.c=.raw ts' D' sz' F'),∀ m' o2 q,look ((n,{o with c:=.raw ts D sz (j0 F b c v)}) :: H) m'=some o2->m'≠m->(o2.rw=true∨0<o2.c.size)->ρ m'=some q->¬D' q.1:=by
   intro m o' ts' D' sz' F' k' hm hc' m' o2 q hm' hne hr2 hq;rw[g8]at hm';split at hm'
   ·rename_i e;subst e;exact k'.sep _ o q hn hne (.inl hr) hq
   ·exact k'.sep m' o2 q hm' hne hr2 hq
  have sepr':∀ {m D' sz' F'} (_:b8k Fr H ρ w m D' sz' F'),∀ m' o2 ts2 D2 sz2 F2,look ((n,{o with c:=.raw ts D sz (j0 F b c v)}) :: H) m'=some o2->m'≠m->o2.rw=true->o2.c=.raw ts2 D2 sz2 F2->∀ x,D' x->¬D2 x:=by
   intro m D' sz' F' k' m' o2 ts2 D2 sz2 F2 hm' hne hr2 hc2;rw[g8]at hm';split at hm'
   ·rename_i e;subst e;cases hm';simp only[a9.raw.injEq]at hc2;obtain⟨rfl,rfl,rfl,rfl⟩:=hc2;exact k'.sepr _ o ts D sz F hn hne hr hc
   ·exact k'.sepr m' o2 ts2 D2 sz2 F2 hm' hne hr2 hc2
  rw[g8]at hm;split at hm
  ·rename_i e;subst e;cases hm;simp only[a9.raw.injEq]at hc';obtain⟨rfl,rfl,rfl,rfl⟩:=hc';refine⟨λx hx=>?_,k.free,sep' k hn hc,sepr' k⟩;obtain⟨arr,el,h1,h2,h3⟩:=k.sat x hx;by_cases e:x=b
   ·subst e;refine⟨arr.setIfInBounds c v,el,?_,by simpa using h2,λj hj=>?_⟩
    ·simp[World.setCell,Array.getElem?_modify,h1]
    ·by_cases e2:j=c
     ·subst e2;rw[Array.getElem?_setIfInBounds_self_of_lt (by omega)];simp[j0,hv]
     ·rw[Array.getElem?_setIfInBounds_ne (Ne.symm e2)];have:=h3 j hj;simpa [j0,e2]using this
   ·refine⟨arr,el,by rw[hother x e];exact h1,h2,λj hj=>?_⟩;have:=h3 j hj;simpa [j0,e]using this
  ·rename_i hne;have k':=h.rawd m o' ts' D' sz' F' hm hr' hc';refine⟨λx hx=>(k'.sat x hx).congr λ_=>hother x λe=>?_,k'.free,sep' k' hm hc',sepr' k'⟩;exact k'.sepr n o ts D sz F hn hne hr hc x hx (e▸hD)
theorem HSat.rawAlloc(h:HSat W0 Fr U H ρ w){n:Nm}{o:Ob}(hn:look H n=some o)(hr:o.rw=true){ts D sz F}(hc:o.c=.raw ts D sz F){arr:Array Value}{t:TypeId}{z:Nat->Value}
  (ha:∀ c,c<arr.size->arr[c]? = some (z c)/\(z c).oneCell'=true) :
  ¬D w.heap.size/\HSat W0 Fr U ((n,{o with c:=.raw ts (K5 D w.heap.size) (D8 sz w.heap.size arr.size) (C8 F w.heap.size z)}) :: H) ρ (w.alloc (.cells arr t)):=by
 have k:=h.rawd n o ts D sz F hn hr hc
 have hnD:∀ {n' o' ts' D' sz' F'},look H n'=some o'->o'.rw=true->o'.c=.raw ts' D' sz' F'->¬D' w.heap.size:=λh1 h2 h3 hx=>by
  have:=((h.rawd _ _ _ _ _ _ h1 h2 h3).sat _ hx).lt;omega
 have hold:∀ b,b<w.heap.size->(w.alloc (.cells arr t)).heap[b]? = w.heap[b]? := λb hb=>R9 _ hb
 have hlt:∀ {m o' q},look H m=some o'->(o'.rw=true∨0<o'.c.size)->ρ m=some q->q.1<w.heap.size:=by
  intro m o' q hm hor hq;have ho:=h.obj m o' hm;rw[hq]at ho;rcases hor with hor|hor
  ·exact W4.lt (b:=q.1) (off:=q.2.1) (cp:=q.2.2) ho hor
  ·exact a0H (ho.1 0 hor)
 refine⟨hnD hn hr hc,{
  os:=h.os,tape:=h.tape,output:=h.output
  size:=by rw[World.size_alloc];exact Nat.le_succ_of_le h.size
  frlt:=h.frlt
  frame:=λx hx=>by rw[hold x (Nat.lt_of_lt_of_le (h.frlt x hx) h.size)];exact h.frame x hx
  used:=λm o' hm=>?_
  bd:=λm o' hm=>?_
  obj:=λm o' hm=>?_
  inj:=λm1 m2 o1 o2 p q h1 h2 hne hr1 hr2 hp hq=>?_
  free:=λm o' p hm hr' hp'=>?_
  rawd:=λm o' ts' D' sz' F' hm hr' hc'=>?_}⟩
 ·rw[g8]at hm;split at hm
  ·rename_i e;subst e;exact h.used _ o hn
  ·exact h.used m o' hm
 ·rw[g8]at hm;split at hm
  ·cases hm;intro j hj;exact absurd hj (Nat.not_lt_zero j)
  ·exact h.bd m o' hm
 ·rw[g8]at hm;split at hm
  ·rename_i e;subst e;cases hm;have ho:=h.obj n o hn
   cases hp:ρ n with
   | none=>rfl
   | some q =>
    obtain⟨b0,off,cp⟩:=q;rw[hp]at ho;obtain⟨_,h2,_⟩:=ho;obtain⟨h3,arr',h4,h5,h6⟩:=h2 hr;refine⟨λi hi=>absurd hi (Nat.not_lt_zero i),λ_=>⟨h3,arr',?_,Nat.zero_le _,h6⟩,λhh=>absurd hh (Nat.not_lt_zero 0)⟩;rw[hold b0 (hlt hn (.inl hr) hp)];exact h4
  ·exact(h.obj m o' hm).congr (λb' off' cp' hb' hs' hl=>hold b' hl) (λ_ _=>rfl)
 ·rw[g8]at h1 h2;split at h1 <;> split at h2
  ·rename_i e1 e2;exact absurd (e1.symm.trans e2) hne
  ·rename_i e _;subst e;cases h1;exact h.inj _ m2 o o2 p q hn h2 hne hr hr2 hp hq
  ·rename_i _ e;subst e;cases h2;exact h.inj m1 _ o1 o p q h1 hn hne hr1 (.inl hr) hp hq
  ·exact h.inj m1 m2 o1 o2 p q h1 h2 hne hr1 hr2 hp hq
 ·rw[g8]at hm;split at hm
  ·rename_i e;subst e;exact h.free _ o p hn hr hp'
  ·exact h.free m o' p hm hr' hp'
 ·rw[g8]at hm;split at hm
  ·rename_i e;subst e;cases hm;simp only[a9.raw.injEq]at hc';obtain⟨rfl,rfl,rfl,rfl⟩:=hc';refine⟨λx hx=>?_,λx hx hF=>?_,λm' o2 q hm' hne hr2 hq hx=>?_,λm' o2 ts2 D2 sz2 F2 hm' hne hr2 hc2 x hx hx2=>?_⟩
   ·by_cases e:x=w.heap.size
    ·subst e
     exact⟨arr,t,Y1 _,by simp[D8],λc hcl=>by
      have:=ha c (by simpa [D8]using hcl)
      simpa [C8]using this⟩
    ·have hx':D x:=hx.resolve_left e;have hs:=k.sat x hx';have:=hs.congr λhl=>hold x hl
     simpa [D8,C8,e]using this
   ·rcases hx with rfl|hx
    ·have:=h.frlt _ hF;have:=h.size;omega
    ·exact k.free x hx hF
   ·rw[g8]at hm';split at hm'
    ·rename_i e;exact hne e.symm
    ·rcases hx with hx|hx
     ·have:=hlt hm' hr2 hq;omega
     ·exact k.sep m' o2 q hm' hne hr2 hq hx
   ·rw[g8]at hm';split at hm'
    ·rename_i e;exact hne e.symm
    ·rcases hx with rfl|hx
     ·exact hnD hm' hr2 hc2 hx2
     ·exact k.sepr m' o2 ts2 D2 sz2 F2 hm' hne hr2 hc2 x hx hx2
  ·rename_i hne;have k':=h.rawd m o' ts' D' sz' F' hm hr' hc';refine⟨λx hx=>(k'.sat x hx).congr λhl=>hold x hl,k'.free,λm' o2 q hm' hne' hr2 hq=>?_,λm' o2 ts2 D2 sz2 F2 hm' hne' hr2 hc2 x hx hx2=>?_⟩
   ·rw[g8]at hm';split at hm'
    ·rename_i e;subst e;exact k'.sep _ o q hn hne' (.inl hr) hq
    ·exact k'.sep m' o2 q hm' hne' hr2 hq
   ·rw[g8]at hm';split at hm'
    ·rename_i e;subst e;cases hm';simp only[a9.raw.injEq]at hc2;obtain⟨rfl,rfl,rfl,rfl⟩:=hc2;rcases hx2 with rfl|hx2
     ·exact hnD hm hr' hc' hx
     ·exact k'.sepr _ o ts D sz F hn hne' hr hc x hx hx2
    ·exact k'.sepr m' o2 ts2 D2 sz2 F2 hm' hne' hr2 hc2 x hx hx2
theorem HSat.rawCell(h:HSat W0 Fr U H ρ w){n:Nm}{o:Ob}(hn:look H n=some o)(hr:o.rw=true){ts D sz F}(hc:o.c=.raw ts D sz F){b c:Nat}(hD:D b)(hlt:c<sz b) :
  w.cell? ⟨b,c,none⟩=some (F b c)/\(F b c).oneCell'=true/\w.frozen? ⟨b,c,none⟩=false:=by
 obtain⟨arr,el,h1,h2,h3⟩:=(h.rawd n o ts D sz F hn hr hc).sat b hD;obtain⟨h4,h5⟩:=h3 c hlt;refine⟨?_,h5,by simp[World.frozen?,h1]⟩;simp[World.cell?,h1,h4]
end
structure Env where
 T:Tys
 F:Flats
structure b7O (P:Program) (E:Env):Prop where
 T:TysOk P E.T
 F:FlatsOk P E.F
def evL(ev:Operand->Option SV):List Operand->Option (List SV)
 | []=>some []
 | x :: r=>match ev x with
  | some v=>match evL ev r with
   | some vs=>some (v :: vs)
   | none=>none
  | none=>none
theorem H3{U:Nm->Prop}{ρ:Rho}{ev:Operand->Option SV}{a:Act}(hev:∀ x v,ev x=some v->a.eval x=v.den ρ/\v.bd U):∀ {xs:List Operand} {vs:List SV},evL ev xs=some vs->
  xs.map a.eval=p8 ρ vs/\bdL U vs
 | [],vs,h=>by simp only[evL,oI9]at h;subst h;simp[p8,bdL]
 | x :: r,vs,h=>by
  simp only[evL]at h;split at h
  ·rename_i v hv;split at h
   ·rename_i qs hqs;simp only[oI9]at h;subst h;obtain⟨h1,h2⟩:=H3 hev hqs;obtain⟨h3,h4⟩:=hev x v hv;exact⟨by simp[p8,h3,h1],by simp[bdL,h4,h2]⟩
   ·cases h
  ·cases h
def evO(ev:Operand->Option SV):Option Operand->Option (Option SV)
 | none=>some none
 | some x=>match ev x with
  | some v=>some (some v)
  | none=>none
theorem V8{U:Nm->Prop}{ρ:Rho}{ev:Operand->Option SV}{a:Act}(hev:∀ x v,ev x=some v->a.eval x=v.den ρ/\v.bd U){x:Option Operand}{v:Option SV}(h:evO ev x=some v) :
  x.map a.eval=v.map (SV.den ρ):=by
 cases x with
 | none=>simp only[evO,oI9]at h;subst h;rfl
 | some x =>
  simp only[evO]at h;split at h
  ·rename_i u hu;simp only[oI9]at h;subst h;simp[(hev x u hu).1]
  ·cases h
def b2s(c a b:SV):Option SV :=
 match c with
 | .tt=>some a
 | .ff=>some b
 | .bool p=>match a.toB,b.toB with
  | some x,some y=>some (.bool (cond p x y))
  | _,_=>none
 | _=>none
theorem a9U{ρ:Rho}{U:Nm->Prop}{c a b v:SV}(h:b2s c a b=some v)(ha:a.bd U)(hb:b.bd U) :
  ∃ p:Bool,c.den ρ=.bool p/\v.den ρ=(if p then a.den ρ else b.den ρ)/\v.bd U:=by
 unfold b2s at h;split at h
 ·simp only[oI9]at h;subst h;exact⟨true,rfl,rfl,ha⟩
 ·simp only[oI9]at h;subst h;exact⟨false,rfl,rfl,hb⟩
 ·rename_i p;split at h
  ·rename_i x y hx hy;simp only[oI9]at h;subst h;refine⟨p,rfl,?_,trivial⟩;rw[SV.toB_den hx,SV.toB_den hy];cases p <;> rfl
  ·cases h
 ·cases h
def a4z(T:Tys)(b:Builtin)(argTypes:List Nat)(vs:List SV):Option SV :=
 match b,argTypes,vs with
 | .len,[t],[x]=>b7R T t x
 | .min,_,[x,y]=>a9B false x y
 | .max,_,[x,y]=>a9B true x y
 | _,_,_=>none
def a5i(E:Env)(ev:Operand->Option SV)(rd:Nm->Option Ob)(nm:Nm)(c:Call):Option Eff :=
 match c.callee with
 | .builtin .append=>match c.argTypes.toList with
  | [t,t']=>match Nat.beq t t' with
   | true=>match evL ev c.args.toList with
    | some [s,x]=>a0o E.T rd nm t s x
    | _=>none
   | false=>none
  | _=>none
 | .builtin .copy=>match c.argTypes.toList with
  | [t,t']=>match Nat.beq t t' with
   | true=>match evL ev c.args.toList with
    | some [d,x]=>a4t E.T rd t d x
    | _=>none
   | false=>none
  | _=>none
 | .builtin b=>match evL ev c.args.toList with
  | some vs=>match a4z E.T b c.argTypes.toList vs with
   | some v=>some (Eff.pure v)
   | none=>none
  | none=>none
 | _=>none
theorem a5a{P:Program}{T:Tys}(hT:TysOk P T)(w:World)(ρ:Rho){b:Builtin}{ats:List Nat}{vs:List SV}{v:SV}(h:a4z T b ats vs=some v)(ty':Nat)(cs:Array Bool) :
  (builtin b ats.toArray ty' cs (p8 ρ vs).toArray).run P w=.ok (.value (v.den ρ)) w/\v.closed=true:=by
 unfold a4z at h;split at h
 ·obtain⟨h1,h2⟩:=b0C (w:=w) (ρ:=ρ) hT h ty';exact⟨by simp[builtin,p8,h1],h2⟩
 ·obtain⟨h1,h2⟩:=a6v (P:=P) w ρ h;simp only[Bool.false_eq_true,if_false]at h1;refine⟨?_,h2⟩;simp only[builtin,Sem.run_bind,p8];rw[show Builtin.min_ ats.toArray ty'=Builtin.min_ #[] 0 from rfl];rename_i x y;rw[show ([x.den ρ,y.den ρ].toArray) = #[x.den ρ,y.den ρ]from rfl,h1];rfl
 ·obtain⟨h1,h2⟩:=a6v (P:=P) w ρ h;simp only[if_true]at h1;refine⟨?_,h2⟩;simp only[builtin,Sem.run_bind,p8];rw[show Builtin.max_ ats.toArray ty'=Builtin.max_ #[] 0 from rfl];rename_i x y;rw[show ([x.den ρ,y.den ρ].toArray) = #[x.den ρ,y.den ρ]from rfl,h1];rfl
 ·cases h
def rGl(T:Tys)(t:Nat):Option Eff :=
 match ty T t with
 | some ti=>match ti.isAgg&&Nat.beq ti.size 0 with
  | true=>some (Eff.pure (.agg []))
  | false=>none
 | none=>none
def glZ(T:Tys)(t:Nat)(x:Operand):Option Eff :=
 match x with
 | .global _=>rGl T t
 | _=>none
def P4(E:Env)(ev:Operand->Option SV)(rd:Nm->Option Ob)(nm:Nm)(o:Op):Option Eff :=
 match o with
 | .move x=>match ev x with
  | some v=>some (Eff.pure v)
  | none=>none
 | .assign x=>match ev x with
  | some v=>some (Eff.pure v)
  | none=>none
 | .pick c a b=>match ev c,ev a,ev b with
  | some c,some a,some b=>match b2s c a b with
   | some v=>some (Eff.pure v)
   | none=>none
  | _,_,_=>none
 | .alloc t=>a9Q E.T nm t
 | .box t x=>match ev x with
  | some v=>some (c0I nm t v)
  | none=>none
 | .load t x=>match ev x with
  | some v=>b5d E.T rd t v
  | none=>glZ E.T t x
 | .store t x y=>match ev x,ev y with
  | some v,some u=>b4U E.T rd t v u
  | _,_=>none
 | .binOp op t x y _=>match ev x,ev y with
  | some v,some u=>match b7B E.T E.F op t x y v u with
   | some (r,p)=>some (Eff.pureO r p)
   | none=>a0e E.T rd op t v u
  | _,_=>none
 | .nilCheck x=>match ev x with
  | some v=>R4 E.T rd v
  | none=>none
 | .makeSlice t l c=>match ev l,ev c with
  | some l,some c=>a1W E.T nm t l c
  | _,_=>none
 | .unOp op _ x=>match ev x with
  | some v=>match c2H op v with
   | some (r,p)=>some (Eff.pureO r p)
   | none=>none
  | none=>none
 | .convert s d x=>match ev x with
  | some v=>match b2c E.T s d v with
   | some (r,p)=>some (Eff.pureO r p)
   | none=>none
  | none=>none
 | .makeInterface t x=>match ev x with
  | some v=>a1h E.T t v
  | none=>none
 | .makeFunc fn first captured=>match evL ev first.toList,evL ev captured.toList with
  | some a,some c=>some (Eff.pure (.fn fn a c))
  | _,_=>none
 | .slice t x lo hi mx=>match ev x,evO ev lo,evO ev hi,evO ev mx with
  | some v,some l,some h,some m=>match a9y E.T t v l h m with
   | some e=>some e
   | none=>a0s E.T rd t v l h m
  | _,_,_,_=>none
 | .fieldAddr s x i=>match ev x with
  | some v=>O4 E.T rd s v i
  | none=>none
 | .field s x i=>match ev x with
  | some v=>a8J E.T s v i
  | none=>none
 | .indexAddr t x i=>match ev x,ev i with
  | some v,some u=>O2 E.T rd t v u
  | _,_=>none
 | .build t parts=>match S5 ev parts.toList with
  | some ps=>a9j E.T t ps
  | none=>none
 | .buildSlice t len parts=>match S5 ev parts.toList with
  | some ps=>a0K E.T nm t len ps
  | none=>none
 | .typeAssert x _ asserted ok=>match ev x with
  | some v=>match a6O v asserted E.T ok with
   | some e=>some e
   | none=>a2W v asserted E.T ok
  | none=>none
 | .extract x i=>match ev x with
  | some v=>a4y v i
  | none=>none
 | .call c=>a5i E ev rd nm c
 | _=>none
section
variable {P:Program} {W0:World} {Fr:Nat->Prop} {U:Nm->Prop} {H:A1} {ρ:Rho} {w:World} {nm:Nm}
theorem a5C{E:Env}(hE:b7O P E)(hH:HSat W0 Fr U H ρ w)(hn:¬U nm){ev:Operand->Option SV}{a:Act}(hev:∀ x v,ev x=some v->a.eval x=v.den ρ/\v.bd U)
  (hc:∀ c v,ev (.const c)=some v->c=v.den ρ) {o:Oper} {e:Eff} (h:P4 E ev (look H) nm o.op=some e) (ho:okP e.obl) :
  z9 W0 Fr U H ρ nm e ((execOp a.eval o).run P w):=by
 obtain⟨dst,op,ty',pos,after,guard⟩:=o;simp only at h;cases op <;> simp only[P4,reduceCtorEq]at h
 case move x =>
  split at h
  ·rename_i v hv;simp only[oI9]at h;subst h;obtain⟨h1,h2⟩:=hev _ _ hv;exact z9.same hH h2 (by simp[execOp,h1])
  ·cases h
 case assign x =>
  split at h
  ·rename_i v hv;simp only[oI9]at h;subst h;obtain⟨h1,h2⟩:=hev _ _ hv;exact z9.same hH h2 (by simp[execOp,h1])
  ·cases h
 case pick c x y =>
  split at h
  ·rename_i c' x' y' hc' hx' hy';split at h
   ·rename_i v hv;simp only[oI9]at h;subst h;obtain⟨h1,h2⟩:=hev _ _ hc';obtain⟨h3,h4⟩:=hev _ _ hx';obtain⟨h5,h6⟩:=hev _ _ hy';obtain⟨p,hp,hv1,hv2⟩:=a9U (ρ:=ρ) hv h4 h6;exact z9.same hH hv2 (by simp[execOp,h1,h3,h5,hp,asBool,hv1])
   ·cases h
  ·cases h
 case alloc t=>exact a7p hE.T hH hn h
 case box t x =>
  split at h
  ·rename_i v hv;simp only[oI9]at h;subst h;obtain⟨h1,h2⟩:=hev _ _ hv;have:=b1g (P:=P) (t:=t) hH hn h2;simpa only[execOp,h1]using this
  ·cases h
 case load t x =>
  split at h
  ·rename_i v hv;obtain⟨h1,h2⟩:=hev _ _ hv;have:=b1W (nm:=nm) hE.T hH h ho;simpa only[execOp,h1]using this
  ·unfold glZ at h;split at h
   ·unfold rGl at h;split at h
    ·rename_i ti hti;split at h
     ·rename_i hz;simp only[bA9]at hz;simp only[oI9]at h;subst h;have hz2:=eB9 hz.2;refine z9.same hH (v:=.agg []) trivial ?_;simp[execOp,Act.eval,Instr.loadAt,Instr.sureAddr,loadVar,(hE.T t ti hti).isAgg' w,hz.1,(hE.T t ti hti).run_size w,hz2,loadCells,loadCellsFrom,SV.den,p8]
     ·cases h
    ·cases h
   ·cases h
 case store t x y =>
  split at h
  ·rename_i v u hv hu;obtain⟨h1,h2⟩:=hev _ _ hv;obtain⟨h3,h4⟩:=hev _ _ hu;have:=b1F (nm:=nm) hE.T hH h4 h ho;simpa only[execOp,h1,h3]using this
  ·cases h
 case binOp op t x y yt =>
  split at h
  ·rename_i v u hv hu;split at h
   ·rename_i r p hr;simp only[oI9]at h;subst h;obtain⟨h1,h2⟩:=hev _ _ hv;obtain⟨h3,h4⟩:=hev _ _ hu
    obtain⟨h5,h6⟩:=b1y w ρ hE.T hE.F hr ho
     (λhx=>by cases x with|const c=>rw[hc _ _ hv]|_=>simp[P7]at hx)
     (λhy=>by cases y with|const c=>rw[hc _ _ hu]|_=>simp[P7]at hy)
    refine z9.same hH (SV.bd_closed U _ h6) ?_;simp only[execOp,h1,h3];rw[Sem.run_bind,h5];rfl
   ·obtain⟨h1,h2⟩:=hev _ _ hv;obtain⟨h3,h4⟩:=hev _ _ hu;have:=a5N (P:=P) (nm:=nm) (xo:=x) (yo:=y) hE.T hH h ho;simp only[execOp,h1,h3];exact this
  ·cases h
 case nilCheck x =>
  split at h
  ·rename_i v hv;obtain⟨h1,h2⟩:=hev _ _ hv;exact a4l hE.T hH h2 h ho rfl h1
  ·cases h
 case makeSlice t l c =>
  split at h
  ·rename_i l' c' hl hc';obtain⟨h1,h2⟩:=hev _ _ hl;obtain⟨h3,h4⟩:=hev _ _ hc';have:=a3p (nm:=nm) hE.T hH hn h ho;simpa only[execOp,h1,h3]using this
  ·cases h
 case unOp op t x =>
  split at h
  ·rename_i v hv;split at h
   ·rename_i r p hr;simp only[oI9]at h;subst h;obtain⟨h1,h2⟩:=hev _ _ hv;obtain⟨h5,h6⟩:=b1Y (P:=P) w ρ hr;refine z9.same hH (SV.bd_closed U _ h6) ?_;simp[execOp,h1,h5]
   ·cases h
  ·cases h
 case convert s d x =>
  split at h
  ·rename_i v hv;split at h
   ·rename_i r p hr;simp only[oI9]at h;subst h;obtain⟨h1,h2⟩:=hev _ _ hv;obtain⟨h5,h6⟩:=a8Z hE.T w ρ hr ho;refine z9.same hH (SV.bd_closed U _ h6) ?_;simp[execOp,h1,h5]
   ·cases h
  ·cases h
 case makeInterface t x =>
  split at h
  ·rename_i v hv;obtain⟨h1,h2⟩:=hev _ _ hv;have:=a3r (nm:=nm) hE.T hH h2 h;simpa only[execOp,h1]using this
  ·cases h
 case makeFunc fn first captured =>
  split at h
  ·rename_i xs ys hxs hys;simp only[oI9]at h;subst h;obtain⟨h1,h2⟩:=H3 hev hxs;obtain⟨h3,h4⟩:=H3 hev hys;refine z9.same hH (v:=.fn fn xs ys) (by simp[SV.bd,h2,h4]) ?_;have e1:first.map a.eval=(p8 ρ xs).toArray:=by rw[<-h1];apply Array.ext';simp
   have e2:captured.map a.eval=(p8 ρ ys).toArray:=by rw[<-h3];apply Array.ext';simp
   simp[execOp,Instr.makeFunc,SV.den,e1,e2]
  ·cases h
 case slice t x lo hi mx =>
  split at h
  ·rename_i v l hh m hv hl hhi hm;obtain⟨h1,h2⟩:=hev _ _ hv
   have:z9 W0 Fr U H ρ nm e ((do pure (.value (<-Instr.sliceAt t (v.den ρ) (l.map (SV.den ρ)) (hh.map (SV.den ρ)) (m.map (SV.den ρ)))):Sem Next).run P w):=by
    split at h
    ·rename_i e' he;simp only[oI9]at h;subst h;exact a7s (nm:=nm) hE.T hH h2 he ho
    ·exact a6x (nm:=nm) hE.T hH h2 h ho
   rw[<-V8 hev hl,<-V8 hev hhi,<-V8 hev hm]at this;simpa only[execOp,h1]using this
  ·cases h
 case fieldAddr s x i =>
  split at h
  ·rename_i v hv;obtain⟨h1,h2⟩:=hev _ _ hv;have:=a3e (nm:=nm) hE.T hH h2 h ho;simpa only[execOp,h1]using this
  ·cases h
 case field s x i =>
  split at h
  ·rename_i v hv;obtain⟨h1,h2⟩:=hev _ _ hv;have:=a7k (nm:=nm) hE.T hH h2 h;simpa only[execOp,h1]using this
  ·cases h
 case indexAddr t x i =>
  split at h
  ·rename_i v u hv hu;obtain⟨h1,h2⟩:=hev _ _ hv;obtain⟨h3,h4⟩:=hev _ _ hu;have:=a3H (nm:=nm) hE.T hH h2 h ho;simpa only[execOp,h1,h3]using this
  ·cases h
 case build t parts =>
  split at h
  ·rename_i ps hps;obtain⟨h1,h2⟩:=S3 hev hps;have:=a7a (nm:=nm) hE.T hH h2 h;rw[<-h1]at this;have e1:(parts.map λp=>(p.1,a.eval p.2))=(parts.toList.map λp=>(p.1,a.eval p.2)).toArray:=by apply Array.ext';simp
   simp only[execOp];rw[show (parts.map λ(i,x)=>(i,a.eval x))=(parts.map λp=>(p.1,a.eval p.2))from rfl,e1];exact this
  ·cases h
 case buildSlice t len parts =>
  split at h
  ·rename_i ps hps;obtain⟨h1,h2⟩:=S3 hev hps;have:=a2E (nm:=nm) hE.T hH hn h2 h;rw[<-h1]at this;have e1:(parts.map λp=>(p.1,a.eval p.2))=(parts.toList.map λp=>(p.1,a.eval p.2)).toArray:=by apply Array.ext';simp
   simp only[execOp];rw[show (parts.map λ(i,x)=>(i,a.eval x))=(parts.map λp=>(p.1,a.eval p.2))from rfl,e1];exact this
  ·cases h
 case typeAssert x t asserted ok =>
  split at h
  ·rename_i v hv;obtain⟨h1,h2⟩:=hev _ _ hv;split at h
   ·rename_i e' he;simp only[oI9]at h;subst h;have:=a5D (nm:=nm) (xt:=t) hE.T hH h2 he;simpa only[execOp,h1]using this
   ·have:=a4A (nm:=nm) (xt:=t) hE.T hH h2 h;simpa only[execOp,h1]using this
  ·cases h
 case extract x i =>
  split at h
  ·rename_i v hv;obtain⟨h1,h2⟩:=hev _ _ hv;have:=a4T (P:=P) (nm:=nm) hH h2 h;simpa only[execOp,h1]using this
  ·cases h
 case call c =>
  unfold a5i at h;split at h
  ·rename_i hb;split at h
   ·rename_i t t' hat;split at h
    ·rename_i htt;have:=eB9 htt;subst this;split at h
     ·rename_i s x hvs;obtain⟨h1,h2⟩:=H3 hev hvs;have e1:c.args.map a.eval=(p8 ρ [s,x]).toArray:=by rw[<-h1];apply Array.ext';simp
      have e2:c.argTypes = #[t,t]:=by apply Array.ext';simpa using hat
      have:=a6D (nm:=nm) hE.T hH hn h ho ty';simp only[execOp,resolve,hb,Sem.run_bind,Sem.run_pure,Result.andThen_ok,invoke,e1,e2,builtin];simp only[Sem.run_bind,Sem.run_pure]at this;exact this
     ·cases h
    ·cases h
   ·cases h
  ·rename_i hb;split at h
   ·rename_i t t' hat;split at h
    ·rename_i htt;have:=eB9 htt;subst this;split at h
     ·rename_i s x hvs;obtain⟨h1,h2⟩:=H3 hev hvs;have e1:c.args.map a.eval=(p8 ρ [s,x]).toArray:=by rw[<-h1];apply Array.ext';simp
      have e2:c.argTypes = #[t,t]:=by apply Array.ext';simpa using hat
      have:=a9c (nm:=nm) hE.T hH h ho ty';simp only[execOp,resolve,hb,Sem.run_bind,Sem.run_pure,Result.andThen_ok,invoke,e1,e2,builtin];simp only[Sem.run_bind,Sem.run_pure]at this;exact this
     ·cases h
    ·cases h
   ·cases h
  ·rename_i b _ _ hb;split at h
   ·rename_i vs hvs;split at h
    ·rename_i v hv;simp only[oI9]at h;subst h;obtain⟨h1,h2⟩:=H3 hev hvs;obtain⟨h3,h4⟩:=a5a hE.T w ρ hv ty' (c.args.map fun | .const _=>true|_=>false);refine z9.same hH (SV.bd_closed U _ h4) ?_;have e1:c.args.map a.eval=(p8 ρ vs).toArray:=by rw[<-h1];apply Array.ext';simp
     simp only[execOp,resolve,hb,Sem.run_bind,Sem.run_pure,Result.andThen_ok,invoke,e1];exact h3
    ·cases h
   ·cases h
  ·cases h
end
end Go.Sx
