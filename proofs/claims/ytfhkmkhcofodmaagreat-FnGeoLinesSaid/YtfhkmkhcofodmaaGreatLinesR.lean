/- FnGeoLines: two lines meet, with whatever index, just if two of their segments have a point in common, and one contains a segment that stands on one of its own: the law returns true at every input and leaves its input as it was; no conditions. -/
import Derived.Test.YtfhkmkhcofodmaaGreatRows
import Derived.Test.YtfhkmkhcofodmaaGreatM9
namespace Go.Proofs.YtfhkmkhcofodmaaGreat
open Go Go.Sx Go.RowKit Go.ChangeShapes Go.WideShapes Go.ChangeAt Go.Joins
set_option maxRecDepth 100000
theorem Tryz.own:ownKnob Tryz.prog.godebug=none:=by kernel_rfl
theorem Tryz.laidOut:laidOutB Tryz.prog=true:=by kernel_rfl
theorem c3o{W:World}{r:Reach}{b0:Nat}{v:Value}(hv:Value.okWide Tryz.prog W r b0 2 v):∃ n:Int,v=.int .i64 n:=by
 refine b6S (b0:=b0) (r:=r) (W:=W) Tryz.underlying2 ?_;unfold Value.okWide at hv;rw[Tryz.underlying2]at hv;exact hv
theorem b5Q(os:Os)(started:os.Started)(H:Type)(enc:TypeId×Value->H) :
  ReturnsInHanded {} Tryz.checked os 7 .any (Rows.fnGeoLinesSpec.pre6 enc Tryz.prog Tryz.f7 Rows.fnGeoLinesRow.domain false) (Rows.fnGeoLinesSpec.post enc Tryz.prog Tryz.f7 false true false false):=by
 refine returnsInHanded_of_change (C:=Tryz.checked) Tryz.own started (by kernel_rfl) Tryz.func7
  (ChangeSpec.witness6 (enc:=enc) (C:=Tryz.checked) false ⟨#[],#[.slice none 0 0, .slice none 0 0, .int .i64 0],[]⟩ 8 (by kernel_rfl) (by kernel_rfl) (by kernel_rfl) (by kernel_rfl)) ?_
 intro W base args ds gs before hval0 hW hcnd _;have hval:∀(j:Nat) t v,Tryz.f7.params[j]? = some t->args[j]? = some v->Value.okWide Tryz.prog W .any base t v:=hval0;have hW':=hW;obtain⟨p,q,hA0,hV,rfl,hfz,hnd⟩:=hW;have hA:DataW.TrodAll enc Tryz.prog W 0 (λ_=>true) true Tryz.f7.params.toList args.toList ds p:=hA0;rw[Tryz.params7]at hA hval;obtain⟨v0,v1,v2,d0,d1,d2,p0,p1,p2,rfl,rfl,rfl,h0,h1,h2⟩:=trodAll_three hA;obtain⟨rfl,rfl⟩:=trodVars_none hV
 obtain⟨ad0,len0,cap0,g0,rfl,hcap0,hI0⟩:=b1G Tryz.underlying25 Tryz.underlying23 (by kernel_rfl) rfl rfl (by kernel_rfl) (by kernel_rfl) Tryz.underlying2 Tryz.underlying2 (hval 0 25 v0 rfl rfl) h0;obtain⟨ad1,len1,cap1,g1,rfl,hcap1,hI1⟩:=b1G Tryz.underlying25 Tryz.underlying23 (by kernel_rfl) rfl rfl (by kernel_rfl) (by kernel_rfl) Tryz.underlying2 Tryz.underlying2 (hval 1 25 v1 rfl rfl) h1;obtain⟨i2,rfl⟩:=c3o (hval 2 2 v2 rfl rfl)
 have key:=b0C (k:=2) (args:=[.slcc 0 len0, .slcc 1 len1, .int .i64 i2]) (H:=[(0,⟨false,23, .ints .i64 (2*len0) g0,0⟩),(1,⟨false,23, .ints .i64 (2*len1) g1,0⟩)]) (ρ:=λn=>if n=0 then a0K ad0 cap0 else if n=1 then a0K ad1 cap1 else none) (W:=W)
  Tryz.Sx.lawLn Tryz.func7 (by kernel_rfl) (by kernel_rfl) (by
   intro n o hn
   have:n=0/\o=⟨false,23, .ints .i64 (2*len0) g0,0⟩∨n=1/\o=⟨false,23, .ints .i64 (2*len1) g1,0⟩:=by
    rw[g9]at hn;split at hn
    ·rename_i h;exact .inl ⟨h.symm,by simpa using hn.symm⟩
    rw[g9]at hn;split at hn
    ·rename_i h;exact .inr (⟨h.symm,by simpa using hn.symm⟩)
    cases hn
   rcases this with⟨rfl,rfl⟩|⟨rfl,rfl⟩
   ·exact⟨by decide,rfl,λi _=>trivial,a8H hI0⟩
   ·exact⟨by decide,rfl,λi _=>trivial,a8H hI1⟩
   ) (by simp[bdL,SV.bd]) rfl ⟨rfl,rfl,trivial⟩ rfl
 have e:(q8 (λn=>if n=0 then a0K ad0 cap0 else if n=1 then a0K ad1 cap1 else none) [.slcc 0 len0, .slcc 1 len1, .int .i64 i2]).toArray =
   #[.slice ad0 len0 cap0, .slice ad1 len1 cap1, .int .i64 i2]:=by
  have e0:=b1R (len:=len0) (n:=0) (ρ:=λn:Nm=>if n=0 then a0K ad0 cap0 else if n=1 then a0K ad1 cap1 else none) rfl hI0;have e1:=b1R (len:=len1) (n:=1) (ρ:=λn:Nm=>if n=0 then a0K ad0 cap0 else if n=1 then a0K ad1 cap1 else none) rfl hI1;simp only[q8,e0,e1];simp[SV.den]
 rw[e]at key;refine key.mono λe W' ⟨he,hw⟩=>?_
 subst he;exact⟨_,rfl,b5z Tryz.laidOut hW' hw (bt:=4) Tryz.underlying4 rfl rfl rfl rfl rfl (by kernel_rfl)⟩
theorem ln_holds:Rows.FnGeoLinesSaid :=
 OpenClaim.holds_of_wide 7 Tryz.f7 rfl rfl rfl rfl rfl rfl rfl ⟨rfl,rfl,rfl,rfl,rfl⟩ rfl rfl rfl rfl rfl (by kernel_rfl) Tryz.func7 (by kernel_rfl)
  (of_decide_eq_true (by kernel_rfl)) (by unfold Func.isWrapper;first|(rw[if_pos (by decide +kernel)];kernel_rfl)|(rw[if_neg (by decide +kernel)];exact⟨rfl,rfl⟩))
  (λos started H enc _=>b5Q os started H enc)
#print axioms ln_holds
end Go.Proofs.YtfhkmkhcofodmaaGreat
