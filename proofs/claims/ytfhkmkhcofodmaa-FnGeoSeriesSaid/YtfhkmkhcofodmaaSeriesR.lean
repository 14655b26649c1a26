/- FnGeoSeries: a line, or a ring, has its points and the segments between them, a rectangle around them, and whether it is empty, valid, clockwise and convex is so by definition, with whatever index: the law returns true at every input and leaves its input as it was; no conditions. -/
import Derived.Test.YtfhkmkhcofodmaaRows
import Derived.Test.YtfhkmkhcofodmaaM8
namespace Go.Proofs.Ytfhkmkhcofodmaa
open Go Go.Sx Go.RowKit Go.ChangeShapes Go.WideShapes Go.ChangeAt Go.Joins
set_option maxRecDepth 100000
theorem Try.own:ownKnob Try.prog.godebug=none:=by kernel_rfl
theorem Try.laidOut:laidOutB Try.prog=true:=by kernel_rfl
theorem open_bool{P:Program}{W:World}{r:Reach}{b0 t:Nat}{v:Value}(ht:P.underlying t=some .bool)(hv:Value.okWide P W r b0 t v):∃ b:Bool,v=.bool b:=by
 unfold Value.okWide at hv;rw[ht]at hv;simp only at hv;unfold Cell.okWide at hv;rw[ht]at hv;simp only at hv;unfold Cell.ok at hv;rw[ht]at hv;cases v <;> simp only at hv
 exact⟨_,rfl⟩
theorem open_i{W:World}{r:Reach}{b0:Nat}{v:Value}(hv:Value.okWide Try.prog W r b0 2 v):∃ n:Int,v=.int .i64 n:=by
 refine int_cell (b0:=b0) (r:=r) (W:=W) Try.underlying2 ?_;unfold Value.okWide at hv;rw[Try.underlying2]at hv;exact hv
theorem series_lifted(os:Os)(started:os.Started)(H:Type)(enc:TypeId×Value->H) :
  ReturnsInHanded {} Try.checked os 3 .any (Rows.fnGeoSeriesSpec.pre6 enc Try.prog Try.f3 Rows.fnGeoSeriesRow.domain false) (Rows.fnGeoSeriesSpec.post enc Try.prog Try.f3 false true false false):=by
 refine returnsInHanded_of_change (C:=Try.checked) Try.own started (by kernel_rfl) Try.func3
  (ChangeSpec.witness6 (enc:=enc) (C:=Try.checked) false ⟨#[],#[.slice none 0 0, .bool false, .int .i64 0, .int .i64 0],[]⟩ 8 (by kernel_rfl) (by kernel_rfl) (by kernel_rfl) (by kernel_rfl)) ?_
 intro W base args ds gs before hval0 hW hcnd _;have hval:∀(j:Nat) t v,Try.f3.params[j]? = some t->args[j]? = some v->Value.okWide Try.prog W .any base t v:=hval0;have hW':=hW;obtain⟨p,q,hA0,hV,rfl,hfz,hnd⟩:=hW;have hA:DataW.TrodAll enc Try.prog W 0 (λ_=>true) true Try.f3.params.toList args.toList ds p:=hA0;rw[Try.params3]at hA hval;obtain⟨v0,v1,v2,v3,d0,d1,d2,d3,p0,p1,p2,p3,rfl,rfl,rfl,h0,h1,h2,h3⟩:=trodAll_four hA;obtain⟨rfl,rfl⟩:=trodVars_none hV
 obtain⟨ad,len,cap,g,rfl,hcap,hI⟩:=open_pts Try.underlying22 Try.underlying29 (by kernel_rfl) rfl rfl (by kernel_rfl) (by kernel_rfl) Try.underlying2 Try.underlying2 (hval 0 22 v0 rfl rfl) h0;obtain⟨cl,rfl⟩:=open_bool Try.underlying4 (hval 1 4 v1 rfl rfl);obtain⟨k,rfl⟩:=open_i (hval 2 2 v2 rfl rfl);obtain⟨m,rfl⟩:=open_i (hval 3 2 v3 rfl rfl)
 have hH:∀(n:Nm)(o:Ob),Go.Sx.look [(0,(⟨false,29, .ints .i64 (2*len) g,0⟩:Ob))] n=some o->n<1/\o.rw=false/\o.c.bd (·< 1)/\OSat W (λn=>if n=0 then rhoOf ad cap else none) o (if n=0 then rhoOf ad cap else none):=by
  intro n o hn
  have:n=0/\o=⟨false,29, .ints .i64 (2*len) g,0⟩:=by
   rw[look_cons]at hn;split at hn
   ·rename_i h;exact⟨h.symm,by simpa using hn.symm⟩
   ·cases hn
  obtain⟨rfl,rfl⟩:=this;exact⟨by decide,rfl,λi _=>trivial,osat_ints hI⟩
 have e1:=den_slcc (len:=len) (n:=0) (ρ:=λn:Nm=>if n=0 then rhoOf ad cap else none) rfl hI
 cases cl with
 | true =>
  have key:=calls_of_con (k:=1) (args:=[.slcc 0 len, .tt, .int .i64 k, .int .i64 m]) (H:=[(0,⟨false,29, .ints .i64 (2*len) g,0⟩)]) (ρ:=λn=>if n=0 then rhoOf ad cap else none) (W:=W)
   Try.Sx.lawSeT Try.func3 (by kernel_rfl) (by kernel_rfl) hH (by simp[bdL,SV.bd]) rfl ⟨rfl,trivial⟩ rfl
  have e:(denL (λn=>if n=0 then rhoOf ad cap else none) [.slcc 0 len, .tt, .int .i64 k, .int .i64 m]).toArray = #[.slice ad len cap, .bool true, .int .i64 k, .int .i64 m]:=by
   simp only[denL,e1];simp[SV.den]
  rw[e]at key;refine key.mono λe W' ⟨he,hw⟩=>?_
  subst he;exact⟨_,rfl,post_true Try.laidOut hW' hw (bt:=4) Try.underlying4 rfl rfl rfl rfl rfl (by kernel_rfl)⟩
 | false =>
  have key:=calls_of_con (k:=1) (args:=[.slcc 0 len, .ff, .int .i64 k, .int .i64 m]) (H:=[(0,⟨false,29, .ints .i64 (2*len) g,0⟩)]) (ρ:=λn=>if n=0 then rhoOf ad cap else none) (W:=W)
   Try.Sx.lawSeF Try.func3 (by kernel_rfl) (by kernel_rfl) hH (by simp[bdL,SV.bd]) rfl ⟨rfl,trivial⟩ rfl
  have e:(denL (λn=>if n=0 then rhoOf ad cap else none) [.slcc 0 len, .ff, .int .i64 k, .int .i64 m]).toArray = #[.slice ad len cap, .bool false, .int .i64 k, .int .i64 m]:=by
   simp only[denL,e1];simp[SV.den]
  rw[e]at key;refine key.mono λe W' ⟨he,hw⟩=>?_
  subst he;exact⟨_,rfl,post_true Try.laidOut hW' hw (bt:=4) Try.underlying4 rfl rfl rfl rfl rfl (by kernel_rfl)⟩
theorem series_holds:Rows.FnGeoSeriesSaid :=
 OpenClaim.holds_of_wide 3 Try.f3 rfl rfl rfl rfl rfl rfl rfl ⟨rfl,rfl,rfl,rfl,rfl⟩ rfl rfl rfl rfl rfl (by kernel_rfl) Try.func3 (by kernel_rfl)
  (of_decide_eq_true (by kernel_rfl)) (by unfold Func.isWrapper;first|(rw[if_pos (by decide +kernel)];kernel_rfl)|(rw[if_neg (by decide +kernel)];exact⟨rfl,rfl⟩))
  (λos started H enc _=>series_lifted os started H enc)
#print axioms series_holds
end Go.Proofs.Ytfhkmkhcofodmaa
