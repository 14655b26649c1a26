/- FnGeoRect: what a rectangle says of a point, of another rectangle and of itself is so by definition: the law returns true at every input and leaves its input as it was; no conditions. -/
import Derived.Test.YtcjhgngdhdcpeaaRect3
import Derived.Test.YtcjhgngdhdcpeaaRow2
import Derived.Test.YtcjhgngdhdcpeaaRows
namespace Go.Proofs.Ytcjhgngdhdcpeaa
open Go Go.Sx Go.RowKit Go.ChangeShapes Go.WideShapes Go.ChangeAt Go.Joins
set_option maxRecDepth 100000

theorem Try.own : ownKnob Try.prog.godebug = none := by kernel_rfl
theorem Try.laidOut : laidOutB Try.prog = true := by kernel_rfl

theorem open_p2 {W : World} {r : Reach} {b0 : Nat} {v : Value} (hv : Value.okWide Try.prog W r b0 23 v) : ∃ x y : Int, v = .agg #[.int .i64 x, .int .i64 y] := by
  obtain ⟨l, h1, rfl⟩ := open_ints (n := 2) (.inl ⟨_, Try.underlying23⟩) (show Try.prog.cellTypes Try.prog.depth 23 = some [2, 2] by kernel_rfl) (by intro u hu; simp at hu; subst hu; exact Try.underlying2) (by kernel_rfl) hv
  obtain ⟨a, b, rfl⟩ := list2 h1
  exact ⟨a, b, rfl⟩
theorem open_r4 {W : World} {r : Reach} {b0 : Nat} {v : Value} (hv : Value.okWide Try.prog W r b0 33 v) : ∃ a b c d : Int, v = .agg #[.int .i64 a, .int .i64 b, .int .i64 c, .int .i64 d] := by
  obtain ⟨l, h1, rfl⟩ := open_ints (n := 4) (.inr ⟨_, _, Try.underlying33⟩) (show Try.prog.cellTypes Try.prog.depth 33 = some [2, 2, 2, 2] by kernel_rfl) (by intro u hu; simp at hu; subst hu; exact Try.underlying2) (by kernel_rfl) hv
  obtain ⟨a, b, c, d, rfl⟩ := list4 h1
  exact ⟨a, b, c, d, rfl⟩

theorem rect_lifted (os : Os) (started : os.Started) (H : Type) (enc : TypeId × Value → H) :
    ReturnsInHanded {} Try.checked os 4 .any (Rows.fnGeoRectSpec.pre6 enc Try.prog Try.f4 Rows.fnGeoRectRow.domain false) (Rows.fnGeoRectSpec.post enc Try.prog Try.f4 false true false false) := by
  refine returnsInHanded_of_change (C := Try.checked) Try.own started (by kernel_rfl) Try.func4
    (ChangeSpec.witness6 (enc := enc) (C := Try.checked) false ⟨#[], #[.agg #[.int .i64 0, .int .i64 0, .int .i64 0, .int .i64 0], .agg #[.int .i64 0, .int .i64 0, .int .i64 0, .int .i64 0], .agg #[.int .i64 0, .int .i64 0]], []⟩ 8 (by kernel_rfl) (by kernel_rfl) (by kernel_rfl) (by kernel_rfl)) ?_
  intro W base args ds gs before hval0 hW hcnd _
  have hval : ∀ (j : Nat) t v, Try.f4.params[j]? = some t → args[j]? = some v → Value.okWide Try.prog W .any base t v := hval0
  have hW' := hW
  obtain ⟨p, q, hA0, hV, rfl, hfz, hnd⟩ := hW
  have hA : DataW.TrodAll enc Try.prog W 0 (fun _ => true) true Try.f4.params.toList args.toList ds p := hA0
  rw [Try.params4] at hA hval
  obtain ⟨v0, v1, v2, d0, d1, d2, p0, p1, p2, rfl, rfl, rfl, h0, h1, h2⟩ := trodAll_three hA
  obtain ⟨rfl, rfl⟩ := trodVars_none hV
  obtain ⟨a, b, c, d, rfl⟩ := open_r4 (hval 0 33 v0 rfl rfl)
  obtain ⟨a', b', c', d', rfl⟩ := open_r4 (hval 1 33 v1 rfl rfl)
  obtain ⟨x, y, rfl⟩ := open_p2 (hval 2 23 v2 rfl rfl)
  refine (calls_of_pure Try.Sx.lawRect Try.func4 (by kernel_rfl) (by kernel_rfl) (args := [.agg [.int .i64 a, .int .i64 b, .int .i64 c, .int .i64 d], .agg [.int .i64 a', .int .i64 b', .int .i64 c', .int .i64 d'], .agg [.int .i64 x, .int .i64 y]]) rfl trivial (fun _ => none) W).mono fun e W' ⟨he, hw⟩ => ?_
  subst he
  exact ⟨_, rfl, post_true Try.laidOut hW' hw (bt := 4) Try.underlying4 rfl rfl rfl rfl rfl (by kernel_rfl)⟩

theorem rect_holds : Rows.FnGeoRectSaid :=
  OpenClaim.holds_of_wide 4 Try.f4 rfl rfl rfl rfl rfl rfl rfl ⟨rfl, rfl, rfl, rfl, rfl⟩ rfl rfl rfl rfl rfl (by kernel_rfl) Try.func4 (by kernel_rfl)
    (of_decide_eq_true (by kernel_rfl)) (by unfold Func.isWrapper; first | (rw [if_pos (by decide +kernel)]; kernel_rfl) | (rw [if_neg (by decide +kernel)]; exact ⟨rfl, rfl⟩))
    (fun os started H enc _ => rect_lifted os started H enc)
#print axioms rect_holds
end Go.Proofs.Ytcjhgngdhdcpeaa
