/- FnGeoPoint: a point is in a point, a rectangle, on a line, or not, with whatever index, as its place says: the law returns true at every input and leaves its input as it was; no conditions. -/
import Derived.Test.YtfhkmkhcofodmaaGreatRows
import Derived.Test.YtfhkmkhcofodmaaGreatM9
namespace Go.Proofs.YtfhkmkhcofodmaaGreat
open Go Go.Sx Go.RowKit Go.ChangeShapes Go.WideShapes Go.ChangeAt Go.Joins
set_option maxRecDepth 100000
theorem Tryz.own:ownKnob Tryz.prog.godebug=none:=by kernel_rfl
theorem Tryz.laidOut:laidOutB Tryz.prog=true:=by kernel_rfl
theorem a9c{H:Type}{enc:TypeId×Value->H}{P:Program}{w:World}{base:Nat}{spare:Nat->Bool}{held:Bool}{t t' t'' t3 t4:TypeId}{args:Array Value}{ds:List (DataW H)}{ps:List MemPlace}(h:DataW.TrodAll enc P w base spare held [t,t',t'',t3,t4] args.toList ds ps) :
  ∃ v v' v'' v3 v4 d d' d'' d3 d4 p p' p'' p3 p4,args = #[v,v',v'',v3,v4]/\ds=[d,d',d'',d3,d4]/\ps=p++p'++p''++p3++p4/\DataW.Trod enc P w base spare held t v d p/\DataW.Trod enc P w base spare held t' v' d' p'/\DataW.Trod enc P w base spare held t'' v'' d'' p''/\DataW.Trod enc P w base spare held t3 v3 d3 p3/\DataW.Trod enc P w base spare held t4 v4 d4 p4:=by
 obtain⟨v,vs,d,ds',p,q,hargs,rfl,rfl,hd,hrest⟩:=trodAll_cons h;obtain⟨v',vs',d',ds'',p',q',rfl,rfl,rfl,hd',hrest'⟩:=trodAll_cons hrest;obtain⟨v'',vs'',d'',ds''',p'',q'',rfl,rfl,rfl,hd'',hrest''⟩:=trodAll_cons hrest';obtain⟨v3,vs3,d3,ds3,p3,q3,rfl,rfl,rfl,hd3,hrest3⟩:=trodAll_cons hrest'';obtain⟨v4,vs4,d4,ds4,p4,q4,rfl,rfl,rfl,hd4,hrest4⟩:=trodAll_cons hrest3;obtain⟨rfl,rfl,rfl⟩:=trodAll_nil hrest4;exact⟨v,v',v'',v3,v4,d,d',d'',d3,d4,p,p',p'',p3,p4,by cases args;simp_all,rfl,by simp,hd,hd',hd'',hd3,hd4⟩
theorem c0f{W:World}{r:Reach}{b0:Nat}{v:Value}(hv:Value.okWide Tryz.prog W r b0 24 v):∃ a b c d:Int,v=.agg #[.int .i64 a, .int .i64 b, .int .i64 c, .int .i64 d]:=by
 obtain⟨l,h1,rfl⟩:=a7K (n:=4) (.inr ⟨_,_,Tryz.underlying24⟩) (show Tryz.prog.cellTypes Tryz.prog.depth 24=some [2,2,2,2] by kernel_rfl) (by intro u hu;simp at hu;subst hu;exact Tryz.underlying2) (by kernel_rfl) hv;obtain⟨a,b,c,d,rfl⟩:=c8m h1;exact⟨a,b,c,d,rfl⟩
theorem b7a{W:World}{r:Reach}{b0:Nat}{v:Value}(hv:Value.okWide Tryz.prog W r b0 23 v):∃ a b:Int,v=.agg #[.int .i64 a, .int .i64 b]:=by
 obtain⟨l,h1,rfl⟩:=a7K (n:=2) (.inl ⟨_,Tryz.underlying23⟩) (show Tryz.prog.cellTypes Tryz.prog.depth 23=some [2,2] by kernel_rfl) (by intro u hu;simp at hu;subst hu;exact Tryz.underlying2) (by kernel_rfl) hv;obtain⟨a,b,rfl⟩:=c5g h1;exact⟨a,b,rfl⟩
theorem c4A{W:World}{r:Reach}{b0:Nat}{v:Value}(hv:Value.okWide Tryz.prog W r b0 2 v):∃ n:Int,v=.int .i64 n:=by
 refine b1t (b0:=b0) (r:=r) (W:=W) Tryz.underlying2 ?_;unfold Value.okWide at hv;rw[Tryz.underlying2]at hv;exact hv
theorem b4T(os:Os)(started:os.Started)(H:Type)(enc:TypeId×Value->H) :
  ReturnsInHanded {} Tryz.checked os 5 .any (Rows.fnGeoPointSpec.pre6 enc Tryz.prog Tryz.f5 Rows.fnGeoPointRow.domain false) (Rows.fnGeoPointSpec.post enc Tryz.prog Tryz.f5 false true false false):=by
 refine returnsInHanded_of_change (C:=Tryz.checked) Tryz.own started (by kernel_rfl) Tryz.func5
  (ChangeSpec.witness6 (enc:=enc) (C:=Tryz.checked) false ⟨#[],#[.agg #[.int .i64 0, .int .i64 0], .agg #[.int .i64 0, .int .i64 0], .agg #[.int .i64 0, .int .i64 0, .int .i64 0, .int .i64 0], .slice none 0 0, .int .i64 0],[]⟩ 8 (by kernel_rfl) (by kernel_rfl) (by kernel_rfl) (by kernel_rfl)) ?_
 intro W base args ds gs before hval0 hW hcnd _;have hval:∀(j:Nat) t v,Tryz.f5.params[j]? = some t->args[j]? = some v->Value.okWide Tryz.prog W .any base t v:=hval0;have hW':=hW;obtain⟨p,q,hA0,hV,rfl,hfz,hnd⟩:=hW;have hA:DataW.TrodAll enc Tryz.prog W 0 (λ_=>true) true Tryz.f5.params.toList args.toList ds p:=hA0;rw[Tryz.params5]at hA hval;obtain⟨v0,v1,v2,v3,v4,d0,d1,d2,d3,d4,p0,p1,p2,p3,p4,rfl,rfl,rfl,h0,h1,h2,h3,h4⟩:=a9c hA;obtain⟨rfl,rfl⟩:=trodVars_none hV;obtain⟨x,y,rfl⟩:=b7a (hval 0 23 v0 rfl rfl);obtain⟨e,f,rfl⟩:=b7a (hval 1 23 v1 rfl rfl)
 obtain⟨a,b,c,d,rfl⟩:=c0f (hval 2 24 v2 rfl rfl);obtain⟨ad,len,cap,g,rfl,hcap,hI⟩:=b7f Tryz.underlying25 Tryz.underlying23 (by kernel_rfl) rfl rfl (by kernel_rfl) (by kernel_rfl) Tryz.underlying2 Tryz.underlying2 (hval 3 25 v3 rfl rfl) h3;obtain⟨k,rfl⟩:=c4A (hval 4 2 v4 rfl rfl)
 have key:=a9O (k:=1) (args:=[.agg [.int .i64 x, .int .i64 y], .agg [.int .i64 e, .int .i64 f], .agg [.int .i64 a, .int .i64 b, .int .i64 c, .int .i64 d], .slcc 0 len, .int .i64 k]) (H:=[(0,⟨false,23, .ints .i64 (2*len) g,0⟩)]) (ρ:=λn=>if n=0 then a4y ad cap else none) (W:=W)
  Tryz.Sx.lawPt Tryz.func5 (by kernel_rfl) (by kernel_rfl) (by
   intro n o hn
   have:n=0/\o=⟨false,23, .ints .i64 (2*len) g,0⟩:=by
    rw[g9]at hn;split at hn
    ·rename_i h;exact⟨h.symm,by simpa using hn.symm⟩
    ·cases hn
   obtain⟨rfl,rfl⟩:=this
   exact⟨by decide,rfl,λi _=>trivial,b5p hI⟩) (by simp[bdL,SV.bd]) rfl ⟨rfl,trivial⟩ rfl
 have eA:(q8 (λn=>if n=0 then a4y ad cap else none) [.agg [.int .i64 x, .int .i64 y], .agg [.int .i64 e, .int .i64 f], .agg [.int .i64 a, .int .i64 b, .int .i64 c, .int .i64 d], .slcc 0 len, .int .i64 k]).toArray =
   #[.agg #[.int .i64 x, .int .i64 y], .agg #[.int .i64 e, .int .i64 f], .agg #[.int .i64 a, .int .i64 b, .int .i64 c, .int .i64 d], .slice ad len cap, .int .i64 k]:=by
  have e1:=b6n (len:=len) (n:=0) (ρ:=λn:Nm=>if n=0 then a4y ad cap else none) rfl hI;simp only[q8,e1];simp[q8,SV.den]
 rw[eA]at key;refine key.mono λen W' ⟨hen,hw⟩=>?_
 subst hen;exact⟨_,rfl,b5I Tryz.laidOut hW' hw (bt:=4) Tryz.underlying4 rfl rfl rfl rfl rfl (by kernel_rfl)⟩
theorem pt_holds:Rows.FnGeoPointSaid :=
 OpenClaim.holds_of_wide 5 Tryz.f5 rfl rfl rfl rfl rfl rfl rfl ⟨rfl,rfl,rfl,rfl,rfl⟩ rfl rfl rfl rfl rfl (by kernel_rfl) Tryz.func5 (by kernel_rfl)
  (of_decide_eq_true (by kernel_rfl)) (by unfold Func.isWrapper;first|(rw[if_pos (by decide +kernel)];kernel_rfl)|(rw[if_neg (by decide +kernel)];exact⟨rfl,rfl⟩))
  (λos started H enc _=>b4T os started H enc)
#print axioms pt_holds
end Go.Proofs.YtfhkmkhcofodmaaGreat
