/- FnPolySelf: what a polygon and a line, with whatever index, say of themselves (what is around them, whether they are empty, and valid) is so by definition: the law returns true at every input and leaves its input as it was; no conditions. -/
import Derived.Test.YtfhkmkhcofodmaaGreatRows
import Derived.Test.YtfhkmkhcofodmaaGreatM9
namespace Go.Proofs.YtfhkmkhcofodmaaGreat
open Go Go.Sx Go.RowKit Go.ChangeShapes Go.WideShapes Go.ChangeAt Go.Joins
set_option maxRecDepth 100000
theorem Tryz.own:ownKnob Tryz.prog.godebug=none:=by kernel_rfl
theorem Tryz.laidOut:laidOutB Tryz.prog=true:=by kernel_rfl
theorem b8j{W:World}{r:Reach}{b0:Nat}{v:Value}(hv:Value.okWide Tryz.prog W r b0 2 v):∃ n:Int,v=.int .i64 n:=by
 refine b5I (b0:=b0) (r:=r) (W:=W) Tryz.underlying2 ?_;unfold Value.okWide at hv;rw[Tryz.underlying2]at hv;exact hv
theorem c2O{k:Nat}{hl:Nat->Nat}(hk:k<=4):Tryz.Sx.hab k (hL k hl 0) (hL k hl 1) (hL k hl 2) (hL k hl 3):=by
 unfold Tryz.Sx.hab hL;refine⟨hk,λh=>if_neg (by omega),λh=>if_neg (by omega),λh=>if_neg (by omega),λh=>if_neg (by omega)⟩
theorem b3w{K a b:Nat}(ha:a<K)(hb:b<K){l k:Nat}:(SV.agg [.slcc a l, .slcc b k]).bd (·< K):=⟨ha,hb,trivial⟩
theorem b3C{K a l:Nat}(h:a<K):(SV.slcc a l).bd (·< K):=h
theorem c3m{K k a b c d:Nat}{w x y z:Nat}(ha:a<K)(hb:b<K)(hc:c<K)(hd:d<K):(b8.upto k [.slcc a w, .slcc b x, .slcc c y, .slcc d z]).bd (·< K):=by
 intro i _
 match i with
 | 0=>exact ha
 | 1=>exact hb
 | 2=>exact hc
 | 3=>exact hd
 | i+4=>trivial
theorem b0p(os:Os)(started:os.Started)(H:Type)(enc:TypeId×Value->H) :
  ReturnsInHanded {} Tryz.checked os 15 .any (Rows.fnPolySelfSpec.pre6 enc Tryz.prog Tryz.f15 Rows.fnPolySelfRow.domain false) (Rows.fnPolySelfSpec.post enc Tryz.prog Tryz.f15 false true false false):=by
 refine returnsInHanded_of_change (C:=Tryz.checked) Tryz.own started (by kernel_rfl) Tryz.func15
  (ChangeSpec.witness6 (enc:=enc) (C:=Tryz.checked) false ⟨#[],#[.agg #[.slice none 0 0, .slice none 0 0], .slice none 0 0, .int .i64 0, .int .i64 0],[]⟩ 8 (by kernel_rfl) (by kernel_rfl) (by kernel_rfl) (by kernel_rfl)) ?_
 intro W base args ds gs before hval0 hW hcnd _;have hval:∀(j:Nat) t v,Tryz.f15.params[j]? = some t->args[j]? = some v->Value.okWide Tryz.prog W .any base t v:=hval0;have hW':=hW;obtain⟨p,q,hA0,hV,rfl,hfz,hnd⟩:=hW;have hA:DataW.TrodAll enc Tryz.prog W 0 (λ_=>true) true Tryz.f15.params.toList args.toList ds p:=hA0;rw[Tryz.params15]at hA hval;obtain⟨v0,v1,v2,v3,d0,d1,d2,d3,p0,p1,p2,p3,rfl,rfl,rfl,h0,h1,h2,h3⟩:=trodAll_four hA;obtain⟨rfl,rfl⟩:=trodVars_none hV
 obtain⟨ad,len,cap,g,ah,k,kcap,ha,hl,hc,hg,rfl,hI,hH⟩:=b5k Tryz.underlying70 (by kernel_rfl) (by kernel_rfl) rfl rfl rfl rfl Tryz.underlying68 (by kernel_rfl) (by kernel_rfl) Tryz.underlying26 Tryz.underlying28 (by kernel_rfl) rfl rfl (by kernel_rfl) (by kernel_rfl) Tryz.underlying2 Tryz.underlying2 (hval 0 70 v0 rfl rfl) h0;obtain⟨al1,ll1,capl1,gl1,rfl,_,hIl1⟩:=b5T Tryz.underlying26 Tryz.underlying28 (by kernel_rfl) rfl rfl (by kernel_rfl) (by kernel_rfl) Tryz.underlying2 Tryz.underlying2 (hval 1 26 v1 rfl rfl) h1;obtain⟨i2,rfl⟩:=b8j (hval 2 2 v2 rfl rfl)
 obtain⟨i3,rfl⟩:=b8j (hval 3 2 v3 rfl rfl)
 have main:Calls Tryz.prog 15 #[.agg #[.slice ad len cap, .slice ah k kcap], .slice al1 ll1 capl1, .int .i64 i2, .int .i64 i3] W λen w'=>en=.returned (.bool true)/\Below W.heap.size W w':=by
  have dens:∀(ρ:Rho)(a b m1:Nm),ρ a=N8 ad cap->ρ b=N8 ah kcap->ρ m1=N8 al1 capl1->
    (w5 ρ [.agg [.slcc a len, .slcc b k], .slcc m1 ll1, .int .i64 i2, .int .i64 i3]).toArray = #[.agg #[.slice ad len cap, .slice ah k kcap], .slice al1 ll1 capl1, .int .i64 i2, .int .i64 i3]:=by
   intro ρ a b m1 ea eb em1;show #[Value.agg #[_,_],_,_,_]=_;rw[<-a6L (len:=len) ea hI,<-hH.den eb,<-a6L (len:=ll1) em1 hIl1];rfl
  by_cases hk:4<k
  ·rw[<-dens (c6K [N8 ad cap,N8 ah kcap,N8 al1 capl1]) 0 1 2 rfl rfl rfl]
   exact a3L (k:=3) (H:=[(0,⟨false,28, .ints .i64 (2*len) g,0⟩),(1,⟨false,26, .gen k λi=>.sla (ha i) (hl i) (hc i),0⟩),(2,⟨false,28, .ints .i64 (2*ll1) gl1,0⟩)])
    Tryz.Sx.lawSelG Tryz.func15 (by kernel_rfl) (by kernel_rfl)
    (HK.cons (by decide) rfl (λ_ _=>trivial) (a0k hI) (HK.cons (by decide) rfl (λ_ _=>trivial) hH.gen (HK.cons (by decide) rfl (λ_ _=>trivial) (a0k hIl1) HK.nil)))
    ⟨b3w (by decide) (by decide),b3C (by decide),trivial,trivial,trivial⟩ rfl ⟨rfl,rfl,⟨hk,rfl⟩,λ_ _=>rfl⟩ rfl
  have hk4:k<=4:=by omega
  let ρ:=c6K [N8 ad cap,N8 ah kcap,hR k ha hc 0,hR k ha hc 1,hR k ha hc 2,hR k ha hc 3,N8 al1 capl1]
  have hr:∀ i:Nat,i<4->ρ (1+1+i)=hR k ha hc i:=by
   intro i hi;have:i=0∨i=1∨i=2∨i=3:=by omega
   rcases this with rfl|rfl|rfl|rfl <;> rfl
  rw[<-dens ρ 0 1 6 rfl rfl rfl]
  exact a3L (k:=7) (H:=[(0,⟨false,28, .ints .i64 (2*len) g,0⟩),(1,⟨false,26, .upto k [.slcc 2 (hL k hl 0), .slcc 3 (hL k hl 1), .slcc 4 (hL k hl 2), .slcc 5 (hL k hl 3)],0⟩),(2,⟨false,28, .ints .i64 (2*hL k hl 0) (hg 0),0⟩),(3,⟨false,28, .ints .i64 (2*hL k hl 1) (hg 1),0⟩),(4,⟨false,28, .ints .i64 (2*hL k hl 2) (hg 2),0⟩),(5,⟨false,28, .ints .i64 (2*hL k hl 3) (hg 3),0⟩),(6,⟨false,28, .ints .i64 (2*ll1) gl1,0⟩)])
   Tryz.Sx.lawSel Tryz.func15 (by kernel_rfl) (by kernel_rfl)
   (HK.cons (by decide) rfl (λ_ _=>trivial) (a0k hI) (HK.cons (by decide) rfl (c3m (by decide) (by decide) (by decide) (by decide)) (hH.upto (b:=1) hk4 hr)
    (HK.cons (by decide) rfl (λ_ _=>trivial) (hH.hole4 0) (HK.cons (by decide) rfl (λ_ _=>trivial) (hH.hole4 1) (HK.cons (by decide) rfl (λ_ _=>trivial) (hH.hole4 2) (HK.cons (by decide) rfl (λ_ _=>trivial) (hH.hole4 3) (HK.cons (by decide) rfl (λ_ _=>trivial) (a0k hIl1) HK.nil)))))))
   ⟨b3w (by decide) (by decide),b3C (by decide),trivial,trivial,trivial⟩ rfl ⟨rfl,rfl,rfl,rfl,rfl,rfl,rfl,c2O hk4⟩ rfl
 refine main.mono λe W' ⟨he,hw⟩=>?_
 subst he;exact⟨_,rfl,b4X Tryz.laidOut hW' hw (bt:=4) Tryz.underlying4 rfl rfl rfl rfl rfl (by kernel_rfl)⟩
theorem self_holds:Rows.FnPolySelfSaid :=
 OpenClaim.holds_of_wide 15 Tryz.f15 rfl rfl rfl rfl rfl rfl rfl ⟨rfl,rfl,rfl,rfl,rfl⟩ rfl rfl rfl rfl rfl (by kernel_rfl) Tryz.func15 (by kernel_rfl)
  (of_decide_eq_true (by kernel_rfl)) (by unfold Func.isWrapper;first|(rw[if_pos (by decide +kernel)];kernel_rfl)|(rw[if_neg (by decide +kernel)];exact⟨rfl,rfl⟩))
  (λos started H enc _=>b0p os started H enc)
#print axioms self_holds
end Go.Proofs.YtfhkmkhcofodmaaGreat
