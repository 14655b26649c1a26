/- FnGeoSegment: what a segment says of a point and of another segment is so by definition: the law returns true at every input and leaves its input as it was; no conditions. -/
import Derived.Test.YtcjhgngdhdcpeaaSeg3
import Derived.Test.YtcjhgngdhdcpeaaRow2
import Derived.Test.YtcjhgngdhdcpeaaRows
namespace Go.Proofs.Ytcjhgngdhdcpeaa
open Go Go.Sx Go.RowKit Go.ChangeShapes Go.WideShapes Go.ChangeAt Go.Joins
set_option maxRecDepth 100000

theorem Try.own : ownKnob Try.prog.godebug = none := by kernel_rfl
theorem Try.laidOut : laidOutB Try.prog = true := by kernel_rfl

theorem open_p2 {W : World} {r : Reach} {b0 : Nat} {v : Value} (hv : Value.okWide Try.prog W r b0 23 v) : ∃ x y : Int, v = .agg #[.int .i64 x, .int .i64 y] := by
  obtain ⟨l, h1, rfl⟩ := open_ints (n := 2) (.inl ⟨_, Try.underlying23⟩) (show Try.prog.cellTypes Try.prog.depth 23 = some [2, 2] by kernel_rfl) (by intro u hu; simp at hu; subst hu; exact Try.underlying2) (by kernel_rfl) hv
  obtain ⟨a, b, rfl⟩ := list2 h1
  exact ⟨a, b, rfl⟩
theorem seg_lifted (os : Os) (started : os.Started) (H : Type) (enc : TypeId × Value → H) :
    ReturnsInHanded {} Try.checked os 5 .any (Rows.fnGeoSegmentSpec.pre6 enc Try.prog Try.f5 Rows.fnGeoSegmentRow.domain false) (Rows.fnGeoSegmentSpec.post enc Try.prog Try.f5 false true false false) := by
  refine returnsInHanded_of_change (C := Try.checked) Try.own started (by kernel_rfl) Try.func5
    (ChangeSpec.witness6 (enc := enc) (C := Try.checked) false ⟨#[], #[.agg #[.int .i64 0, .int .i64 0], .agg #[.int .i64 0, .int .i64 0], .agg #[.int .i64 0, .int .i64 0], .agg #[.int .i64 0, .int .i64 0]], []⟩ 8 (by kernel_rfl) (by kernel_rfl) (by kernel_rfl) (by kernel_rfl)) ?_
  intro W base args ds gs before hval0 hW hcnd _
  have hval : ∀ (j : Nat) t v, Try.f5.params[j]? = some t → args[j]? = some v → Value.okWide Try.prog W .any base t v := hval0
  have hW' := hW
  obtain ⟨p, q, hA0, hV, rfl, hfz, hnd⟩ := hW
  have hA : DataW.TrodAll enc Try.prog W 0 (fun _ => true) true Try.f5.params.toList args.toList ds p := hA0
  rw [Try.params5] at hA hval
  obtain ⟨v0, v1, v2, v3, d0, d1, d2, d3, p0, p1, p2, p3, rfl, rfl, rfl, h0, h1, h2, h3⟩ := trodAll_four hA
  obtain ⟨rfl, rfl⟩ := trodVars_none hV
  obtain ⟨a1, a2, rfl⟩ := open_p2 (hval 0 23 v0 rfl rfl)
  obtain ⟨b1, b2, rfl⟩ := open_p2 (hval 1 23 v1 rfl rfl)
  obtain ⟨c1, c2, rfl⟩ := open_p2 (hval 2 23 v2 rfl rfl)
  obtain ⟨e1, e2, rfl⟩ := open_p2 (hval 3 23 v3 rfl rfl)
  refine (calls_of_pure Try.Sx.lawSeg Try.func5 (by kernel_rfl) (by kernel_rfl) (args := [.agg [.int .i64 a1, .int .i64 a2], .agg [.int .i64 b1, .int .i64 b2], .agg [.int .i64 c1, .int .i64 c2], .agg [.int .i64 e1, .int .i64 e2]]) rfl trivial (fun _ => none) W).mono fun e W' ⟨he, hw⟩ => ?_
  subst he
  exact ⟨_, rfl, post_true Try.laidOut hW' hw (bt := 4) Try.underlying4 rfl rfl rfl rfl rfl (by kernel_rfl)⟩

theorem seg_holds : Rows.FnGeoSegmentSaid :=
  OpenClaim.holds_of_wide 5 Try.f5 rfl rfl rfl rfl rfl rfl rfl ⟨rfl, rfl, rfl, rfl, rfl⟩ rfl rfl rfl rfl rfl (by kernel_rfl) Try.func5 (by kernel_rfl)
    (of_decide_eq_true (by kernel_rfl)) (by unfold Func.isWrapper; first | (rw [if_pos (by decide +kernel)]; kernel_rfl) | (rw [if_neg (by decide +kernel)]; exact ⟨rfl, rfl⟩))
    (fun os started H enc _ => seg_lifted os started H enc)
#print axioms seg_holds
end Go.Proofs.Ytcjhgngdhdcpeaa
