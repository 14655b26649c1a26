/- FnGeoSearch: what a search of a line, or of a ring, with whatever index, hands on is the segments of which the rectangle meets the one asked for, each once, as many as were asked for, and in order where there is no index: the law returns true at every input and leaves its input as it was; no conditions. -/
import Derived.Test.YtfhkmkhcofodmaaGreatRows
import Derived.Test.YtfhkmkhcofodmaaGreatM9
namespace Go.Proofs.YtfhkmkhcofodmaaGreat
open Go Go.Sx Go.RowKit Go.ChangeShapes Go.WideShapes Go.ChangeAt Go.Joins
set_option maxRecDepth 100000
theorem Tryz.own:ownKnob Tryz.prog.godebug=none:=by kernel_rfl
theorem Tryz.laidOut:laidOutB Tryz.prog=true:=by kernel_rfl
theorem b0B:∀ args,(Tryz.Sx.lawSrTC args).same:=by
 intro args;unfold Tryz.Sx.lawSrTC
 repeat' first|split|(intro o;dsimp only)|trivial
 all_goals (intro i j;rfl)
theorem b0d:∀ args,(Tryz.Sx.lawSrFC args).same:=by
 intro args;unfold Tryz.Sx.lawSrFC
 repeat' first|split|(intro o;dsimp only)|trivial
 all_goals (intro i j;rfl)
theorem b4l{P:Program}{W:World}{r:Reach}{b0 t:Nat}{v:Value}(ht:P.underlying t=some .bool)(hv:Cell.okWide P W r b0 t v):∃ b:Bool,v=.bool b:=by
 unfold Cell.okWide at hv;rw[ht]at hv;simp only at hv;unfold Cell.ok at hv;rw[ht]at hv;cases v <;> simp only at hv
 exact⟨_,rfl⟩
theorem c5J{α:Type}{l:List α}(h:l.length=9):∃ a b c d e f g i j,l=[a,b,c,d,e,f,g,i,j]:=by
 match l,h with
 | [a,b,c,d,e,f,g,i,j],_=>exact⟨a,b,c,d,e,f,g,i,j,rfl⟩
theorem b0V{H:Type}{enc:TypeId×Value->H}{W:World}{r:Reach}{b0:Nat}{v:Value}{d:DataW H}{ps:List MemPlace}(hv:Value.okWide Tryz.prog W r b0 48 v)(hd:DataW.Trod enc Tryz.prog W 0 (λ_=>true) true 48 v d ps) :
  ∃ ad len cap g cl km mm lim a b c e,v=.agg #[.slice ad len cap, .bool cl, .int .i64 km, .int .i64 mm, .int .i64 lim, .int .i64 a, .int .i64 b, .int .i64 c, .int .i64 e]/\a9a W ad cap (2*len) g:=by
 have key:∃ cs,v=.agg cs/\cs.size=Tryz.prog.cellsOf 48/\Row.okWide Tryz.prog W r b0 48 cs:=by
  unfold Value.okWide at hv;rw[Tryz.underlying48]at hv;exact hv
 obtain⟨cs,rfl,hsz,ts',hts',_,hcell⟩:=key;rw[show Tryz.prog.cellTypes Tryz.prog.depth 48=some [25,4,2,2,2,2,2,2,2] by kernel_rfl]at hts';simp only[Option.some.injEq]at hts';subst hts';rw[show Tryz.prog.cellsOf 48=9 by kernel_rfl]at hsz;obtain⟨fuel,hf⟩:=hd;obtain⟨l⟩:=cs;obtain⟨x0,x1,x2,x3,x4,x5,x6,x7,x8,rfl⟩:=c5J hsz
 have hi:∀(j:Nat)(x:Value),2<=j->j<9->[x0,x1,x2,x3,x4,x5,x6,x7,x8][j]? = some x->∃ n:Int,x=.int .i64 n:=λj x h2 h9 hx=>by
  obtain⟨u,hu,hok⟩:=hcell j x (by simpa using hx)
  have e:u=2:=by
   have:j=2∨j=3∨j=4∨j=5∨j=6∨j=7∨j=8:=by omega
   rcases this with rfl|rfl|rfl|rfl|rfl|rfl|rfl <;> simpa using hu.symm
  subst e;exact b7h Tryz.underlying2 hok
 obtain⟨km,rfl⟩:=hi 2 x2 (by decide) (by decide) rfl;obtain⟨mm,rfl⟩:=hi 3 x3 (by decide) (by decide) rfl;obtain⟨lim,rfl⟩:=hi 4 x4 (by decide) (by decide) rfl;obtain⟨a,rfl⟩:=hi 5 x5 (by decide) (by decide) rfl;obtain⟨b,rfl⟩:=hi 6 x6 (by decide) (by decide) rfl;obtain⟨c,rfl⟩:=hi 7 x7 (by decide) (by decide) rfl;obtain⟨e,rfl⟩:=hi 8 x8 (by decide) (by decide) rfl;obtain⟨u,hu,hok⟩:=hcell 1 x1 rfl;have hu:u=4:=by simpa using hu.symm
 subst hu;obtain⟨cl,rfl⟩:=b4l Tryz.underlying4 hok;obtain⟨xs,kf,_,_,_,hxl,hfs⟩:=DataW.trod_struct Tryz.underlying48 hf
 match xs,hxl with
 | [y0,y1,y2,y3,y4,y5],_ =>
  have g0:=hfs 0 _ rfl;simp only[Value.cells]at g0;obtain⟨ad,len,cap,g,rfl,_,hI⟩:=b5c Tryz.underlying25 Tryz.underlying23 (by kernel_rfl) rfl rfl (by kernel_rfl) (by kernel_rfl) Tryz.underlying2 Tryz.underlying2 (v:=x0) (x0:=y0) (n0:=kf) g0;exact⟨ad,len,cap,g,cl,km,mm,lim,a,b,c,e,rfl,hI⟩
theorem a7b(os:Os)(started:os.Started)(H:Type)(enc:TypeId×Value->H) :
  ReturnsInHanded {} Tryz.checked os 4 .any (Rows.fnGeoSearchSpec.pre6 enc Tryz.prog Tryz.f4 Rows.fnGeoSearchRow.domain false) (Rows.fnGeoSearchSpec.post enc Tryz.prog Tryz.f4 false true false false):=by
 refine returnsInHanded_of_change (C:=Tryz.checked) Tryz.own started (by kernel_rfl) Tryz.func4
  (ChangeSpec.witness6 (enc:=enc) (C:=Tryz.checked) false ⟨#[],#[.agg #[.slice none 0 0, .bool false, .int .i64 0, .int .i64 0, .int .i64 0, .int .i64 0, .int .i64 0, .int .i64 0, .int .i64 0]],[]⟩ 8 (by kernel_rfl) (by kernel_rfl) (by kernel_rfl) (by kernel_rfl)) ?_
 intro W base args ds gs before hval0 hW hcnd _;have hval:∀(j:Nat) t v,Tryz.f4.params[j]? = some t->args[j]? = some v->Value.okWide Tryz.prog W .any base t v:=hval0;have hW':=hW;obtain⟨p,q,hA0,hV,rfl,hfz,hnd⟩:=hW;have hA:DataW.TrodAll enc Tryz.prog W 0 (λ_=>true) true Tryz.f4.params.toList args.toList ds p:=hA0;rw[Tryz.params4]at hA hval;obtain⟨v0,vs,d0,ds',p0,q0,hargs,rfl,rfl,h0,hrest⟩:=trodAll_cons hA;obtain⟨rfl,rfl,rfl⟩:=trodAll_nil hrest;have hargs:args = #[v0]:=by cases args;simp_all
 subst hargs;obtain⟨rfl,rfl⟩:=trodVars_none hV;obtain⟨ad,len,cap,g,cl,km,mm,lim,a,b,c,e,rfl,hI⟩:=b0V (hval 0 48 v0 rfl rfl) h0
 have hH:∀(n:Nm)(o:Ob),Go.Sx.look [(0,(⟨false,23, .ints .i64 (2*len) g,0⟩:Ob))] n=some o->n<1/\o.rw=false/\o.c.bd (·< 1)/\W4 W (λn=>if n=0 then a0X ad cap else none) o (if n=0 then a0X ad cap else none):=by
  intro n o hn
  have:n=0/\o=⟨false,23, .ints .i64 (2*len) g,0⟩:=by
   rw[g8]at hn;split at hn
   ·rename_i h;exact⟨h.symm,by simpa using hn.symm⟩
   ·cases hn
  obtain⟨rfl,rfl⟩:=this;exact⟨by decide,rfl,λi _=>trivial,b4r hI⟩
 have e1:=b7n (len:=len) (n:=0) (ρ:=λn:Nm=>if n=0 then a0X ad cap else none) rfl hI
 have main:Calls Tryz.prog 4 #[.agg #[.slice ad len cap, .bool cl, .int .i64 km, .int .i64 mm, .int .i64 lim, .int .i64 a, .int .i64 b, .int .i64 c, .int .i64 e]] W λen w'=>en=.returned (.bool true)/\Below W.heap.size W w':=by
  cases cl with
  | true =>
   have key:=a3n (k:=1) (args:=[.agg [.slcc 0 len, .tt, .int .i64 km, .int .i64 mm, .int .i64 lim, .int .i64 a, .int .i64 b, .int .i64 c, .int .i64 e]]) (H:=[(0,⟨false,23, .ints .i64 (2*len) g,0⟩)]) (ρ:=λn=>if n=0 then a0X ad cap else none) (W:=W)
    (a8c Tryz.Sx.lawSrT () b0B) Tryz.func4 (by kernel_rfl) (by kernel_rfl) hH (by simp[bdL,SV.bd]) rfl ⟨rfl,trivial⟩ rfl
   have e2:(p8 (λn=>if n=0 then a0X ad cap else none) [.agg [.slcc 0 len, .tt, .int .i64 km, .int .i64 mm, .int .i64 lim, .int .i64 a, .int .i64 b, .int .i64 c, .int .i64 e]]).toArray = #[.agg #[.slice ad len cap, .bool true, .int .i64 km, .int .i64 mm, .int .i64 lim, .int .i64 a, .int .i64 b, .int .i64 c, .int .i64 e]]:=by
    rw[<-e1];rfl
   rw[e2]at key;exact key
  | false =>
   have key:=a3n (k:=1) (args:=[.agg [.slcc 0 len, .ff, .int .i64 km, .int .i64 mm, .int .i64 lim, .int .i64 a, .int .i64 b, .int .i64 c, .int .i64 e]]) (H:=[(0,⟨false,23, .ints .i64 (2*len) g,0⟩)]) (ρ:=λn=>if n=0 then a0X ad cap else none) (W:=W)
    (a8c Tryz.Sx.lawSrF () b0d) Tryz.func4 (by kernel_rfl) (by kernel_rfl) hH (by simp[bdL,SV.bd]) rfl ⟨rfl,trivial⟩ rfl
   have e2:(p8 (λn=>if n=0 then a0X ad cap else none) [.agg [.slcc 0 len, .ff, .int .i64 km, .int .i64 mm, .int .i64 lim, .int .i64 a, .int .i64 b, .int .i64 c, .int .i64 e]]).toArray = #[.agg #[.slice ad len cap, .bool false, .int .i64 km, .int .i64 mm, .int .i64 lim, .int .i64 a, .int .i64 b, .int .i64 c, .int .i64 e]]:=by
    rw[<-e1];rfl
   rw[e2]at key;exact key
 refine main.mono λen W' ⟨he,hw⟩=>?_
 subst he;exact⟨_,rfl,b4F Tryz.laidOut hW' hw (bt:=4) Tryz.underlying4 rfl rfl rfl rfl rfl (by kernel_rfl)⟩
theorem search_holds:Rows.FnGeoSearchSaid :=
 OpenClaim.holds_of_wide 4 Tryz.f4 rfl rfl rfl rfl rfl rfl rfl ⟨rfl,rfl,rfl,rfl,rfl⟩ rfl rfl rfl rfl rfl (by kernel_rfl) Tryz.func4 (by kernel_rfl)
  (of_decide_eq_true (by kernel_rfl)) (by unfold Func.isWrapper;first|(rw[if_pos (by decide +kernel)];kernel_rfl)|(rw[if_neg (by decide +kernel)];exact⟨rfl,rfl⟩))
  (λos started H enc _=>a7b os started H enc)
#print axioms search_holds
end Go.Proofs.YtfhkmkhcofodmaaGreat
