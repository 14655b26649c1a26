/- FnGeoLineRect: a rectangle contains a line that stands in it, a line a rectangle without width or height that stands on one of its segments, and they meet if they have a point in common, with whatever index: the law returns true at every input and leaves its input as it was; no conditions. -/
import Derived.Test.YtfhkmkhcofodmaaGreatRows
import Derived.Test.YtfhkmkhcofodmaaGreatM9
namespace Go.Proofs.YtfhkmkhcofodmaaGreat
open Go Go.Sx Go.RowKit Go.ChangeShapes Go.WideShapes Go.ChangeAt Go.Joins
set_option maxRecDepth 100000
theorem Tryz.own:ownKnob Tryz.prog.godebug=none:=by kernel_rfl
theorem Tryz.laidOut:laidOutB Tryz.prog=true:=by kernel_rfl
theorem c0B{W:World}{r:Reach}{b0:Nat}{v:Value}(hv:Value.okWide Tryz.prog W r b0 24 v):∃ a b c d:Int,v=.agg #[.int .i64 a, .int .i64 b, .int .i64 c, .int .i64 d]:=by
 obtain⟨l,h1,rfl⟩:=b5h (n:=4) (.inr ⟨_,_,Tryz.underlying24⟩) (show Tryz.prog.cellTypes Tryz.prog.depth 24=some [2,2,2,2] by kernel_rfl) (by intro u hu;simp at hu;subst hu;exact Tryz.underlying2) (by kernel_rfl) hv;obtain⟨a,b,c,d,rfl⟩:=c8k h1;exact⟨a,b,c,d,rfl⟩
theorem c4e{W:World}{r:Reach}{b0:Nat}{v:Value}(hv:Value.okWide Tryz.prog W r b0 2 v):∃ n:Int,v=.int .i64 n:=by
 refine b0G (b0:=b0) (r:=r) (W:=W) Tryz.underlying2 ?_;unfold Value.okWide at hv;rw[Tryz.underlying2]at hv;exact hv
theorem b4V(os:Os)(started:os.Started)(H:Type)(enc:TypeId×Value->H) :
  ReturnsInHanded {} Tryz.checked os 6 .any (Rows.fnGeoLineRectSpec.pre6 enc Tryz.prog Tryz.f6 Rows.fnGeoLineRectRow.domain false) (Rows.fnGeoLineRectSpec.post enc Tryz.prog Tryz.f6 false true false false):=by
 refine returnsInHanded_of_change (C:=Tryz.checked) Tryz.own started (by kernel_rfl) Tryz.func6
  (ChangeSpec.witness6 (enc:=enc) (C:=Tryz.checked) false ⟨#[],#[.agg #[.int .i64 0, .int .i64 0, .int .i64 0, .int .i64 0], .slice none 0 0, .int .i64 0],[]⟩ 8 (by kernel_rfl) (by kernel_rfl) (by kernel_rfl) (by kernel_rfl)) ?_
 intro W base args ds gs before hval0 hW hcnd _;have hval:∀(j:Nat) t v,Tryz.f6.params[j]? = some t->args[j]? = some v->Value.okWide Tryz.prog W .any base t v:=hval0;have hW':=hW;obtain⟨p,q,hA0,hV,rfl,hfz,hnd⟩:=hW;have hA:DataW.TrodAll enc Tryz.prog W 0 (λ_=>true) true Tryz.f6.params.toList args.toList ds p:=hA0;rw[Tryz.params6]at hA hval;obtain⟨v0,v1,v2,d0,d1,d2,p0,p1,p2,rfl,rfl,rfl,h0,h1,h2⟩:=trodAll_three hA;obtain⟨rfl,rfl⟩:=trodVars_none hV;obtain⟨a,b,c,d,rfl⟩:=c0B (hval 0 24 v0 rfl rfl)
 obtain⟨ad,len,cap,g,rfl,hcap,hI⟩:=b8Q Tryz.underlying25 Tryz.underlying23 (by kernel_rfl) rfl rfl (by kernel_rfl) (by kernel_rfl) Tryz.underlying2 Tryz.underlying2 (hval 1 25 v1 rfl rfl) h1;obtain⟨k,rfl⟩:=c4e (hval 2 2 v2 rfl rfl)
 have key:=a9u (k:=1) (args:=[.agg [.int .i64 a, .int .i64 b, .int .i64 c, .int .i64 d], .slcc 0 len, .int .i64 k]) (H:=[(0,⟨false,23, .ints .i64 (2*len) g,0⟩)]) (ρ:=λn=>if n=0 then a4D ad cap else none) (W:=W)
  Tryz.Sx.lawLR Tryz.func6 (by kernel_rfl) (by kernel_rfl) (by
   intro n o hn
   have:n=0/\o=⟨false,23, .ints .i64 (2*len) g,0⟩:=by
    rw[b9]at hn;split at hn
    ·rename_i h;exact⟨h.symm,by simpa using hn.symm⟩
    ·cases hn
   obtain⟨rfl,rfl⟩:=this
   exact⟨by decide,rfl,λi _=>trivial,b5T hI⟩) (by simp[bdL,SV.bd]) rfl ⟨rfl,trivial⟩ rfl
 have e:(m9 (λn=>if n=0 then a4D ad cap else none) [.agg [.int .i64 a, .int .i64 b, .int .i64 c, .int .i64 d], .slcc 0 len, .int .i64 k]).toArray =
   #[.agg #[.int .i64 a, .int .i64 b, .int .i64 c, .int .i64 d], .slice ad len cap, .int .i64 k]:=by
  have e1:=b7P (len:=len) (n:=0) (ρ:=λn:Nm=>if n=0 then a4D ad cap else none) rfl hI;simp only[m9,e1];simp[m9,SV.den]
 rw[e]at key;refine key.mono λe W' ⟨he,hw⟩=>?_
 subst he;exact⟨_,rfl,b5P Tryz.laidOut hW' hw (bt:=4) Tryz.underlying4 rfl rfl rfl rfl rfl (by kernel_rfl)⟩
theorem lr_holds:Rows.FnGeoLineRectSaid :=
 OpenClaim.holds_of_wide 6 Tryz.f6 rfl rfl rfl rfl rfl rfl rfl ⟨rfl,rfl,rfl,rfl,rfl⟩ rfl rfl rfl rfl rfl (by kernel_rfl) Tryz.func6 (by kernel_rfl)
  (of_decide_eq_true (by kernel_rfl)) (by unfold Func.isWrapper;first|(rw[if_pos (by decide +kernel)];kernel_rfl)|(rw[if_neg (by decide +kernel)];exact⟨rfl,rfl⟩))
  (λos started H enc _=>b4V os started H enc)
#print axioms lr_holds
end Go.Proofs.YtfhkmkhcofodmaaGreat
