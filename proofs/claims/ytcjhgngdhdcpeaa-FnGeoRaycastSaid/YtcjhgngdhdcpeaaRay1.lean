import Derived.Test.YtcjhgngdhdcpeaaGeo3
import Derived.Test.YtcjhgngdhdcpeaaRow1
import Derived.Test.YtcjhgngdhdcpeaaRows
namespace Go.Proofs.Ytcjhgngdhdcpeaa
open Go Go.Sx Go.RowKit Go.ChangeShapes Go.WideShapes Go.ChangeAt Go.Joins
set_option maxRecDepth 100000

theorem Try.own : ownKnob Try.prog.godebug = none := by kernel_rfl
theorem Try.laidOut : laidOutB Try.prog = true := by kernel_rfl

def i64ok (n : Int) : Prop := -9223372036854775808 ≤ n ∧ n < 9223372036854775808
theorem wf64 {n : Int} (h : (Lit.int .i64 n).wf = true) : i64ok n := by
  simp only [Lit.wf, Bool.and_eq_true, decide_eq_true_eq] at h
  have e1 : IntKind.i64.min = -9223372036854775808 := by decide
  have e2 : IntKind.i64.max = 9223372036854775807 := by decide
  rw [e1, e2] at h
  unfold i64ok; omega

theorem open_p {H : Type} {enc : TypeId × Value → H} {W : World} {base b0 : Nat} {sp : Nat → Bool} {hd : Bool} {v : Value} {d : DataW H} {p : List MemPlace}
    (hv : Value.okWide Try.prog W .any b0 23 v) (h : DataW.Trod enc Try.prog W base sp hd 23 v d p) : ∃ x y : Int, v = .agg #[.int .i64 x, .int .i64 y] ∧ i64ok x ∧ i64ok y := by
  obtain ⟨c0, c1, y0, y1, m, rfl, rfl, rfl, hy0, hy1⟩ := open_agg2 Try.underlying23 (by kernel_rfl) (show Try.prog.cellsOf 23 = 2 by kernel_rfl) hv h
  obtain ⟨a, e0, rfl, wa⟩ := DataW.trod_int (show Try.prog.underlying 2 = some (.int .i64) from Try.underlying2) hy0
  obtain ⟨b, e1, rfl, wb⟩ := DataW.trod_int (show Try.prog.underlying 2 = some (.int .i64) from Try.underlying2) hy1
  simp at e0 e1
  subst e0 e1
  refine ⟨a, b, rfl, ?_, ?_⟩
  · exact wf64 wa
  · exact wf64 wb

theorem ray_lifted (os : Os) (started : os.Started) (H : Type) (enc : TypeId × Value → H) :
    ReturnsInHanded {} Try.checked os 3 .any (Rows.fnGeoRaycastSpec.pre6 enc Try.prog Try.f3 Rows.fnGeoRaycastRow.domain false) (Rows.fnGeoRaycastSpec.post enc Try.prog Try.f3 false true false false) := by
  refine returnsInHanded_of_change (C := Try.checked) Try.own started (by kernel_rfl) Try.func3
    (ChangeSpec.witness6 (enc := enc) (C := Try.checked) false ⟨#[], #[.agg #[.int .i64 0, .int .i64 0], .agg #[.int .i64 0, .int .i64 0], .agg #[.int .i64 0, .int .i64 0]], []⟩ 8 (by kernel_rfl) (by kernel_rfl) (by kernel_rfl) (by kernel_rfl)) ?_
  intro W base args ds gs before hval0 hW hcnd _
  have hval : ∀ (j : Nat) t v, Try.f3.params[j]? = some t → args[j]? = some v → Value.okWide Try.prog W .any base t v := hval0
  have hW' := hW
  obtain ⟨p, q, hA0, hV, rfl, hfz, hnd⟩ := hW
  have hA : DataW.TrodAll enc Try.prog W 0 (fun _ => true) true Try.f3.params.toList args.toList ds p := hA0
  rw [Try.params3] at hA hval
  obtain ⟨v0, v1, v2, d0, d1, d2, p0, p1, p2, rfl, rfl, rfl, h0, h1, h2⟩ := trodAll_three hA
  obtain ⟨rfl, rfl⟩ := trodVars_none hV
  obtain ⟨ax, ay, rfl, wa, wb⟩ := open_p (hval 0 23 v0 rfl rfl) h0
  obtain ⟨bx, by', rfl, wc, wd⟩ := open_p (hval 1 23 v1 rfl rfl) h1
  obtain ⟨px, py, rfl, we, wf⟩ := open_p (hval 2 23 v2 rfl rfl) h2
  refine (calls_of_pure Try.Sx.law Try.func3 (by kernel_rfl) (by kernel_rfl) (args := [.agg [.int .i64 ax, .int .i64 ay], .agg [.int .i64 bx, .int .i64 by'], .agg [.int .i64 px, .int .i64 py]]) rfl trivial (fun _ => none) W).mono fun e W' ⟨he, hw⟩ => ?_
  subst he
  exact ⟨_, rfl, post_true Try.laidOut hW' hw (bt := 4) Try.underlying4 rfl rfl rfl rfl rfl (by kernel_rfl)⟩

theorem ray_holds : Rows.FnGeoRaycastSaid :=
  OpenClaim.holds_of_wide 3 Try.f3 rfl rfl rfl rfl rfl rfl rfl ⟨rfl, rfl, rfl, rfl, rfl⟩ rfl rfl rfl rfl rfl (by kernel_rfl) Try.func3 (by kernel_rfl)
    (of_decide_eq_true (by kernel_rfl)) (by unfold Func.isWrapper; first | (rw [if_pos (by decide +kernel)]; kernel_rfl) | (rw [if_neg (by decide +kernel)]; exact ⟨rfl, rfl⟩))
    (fun os started H enc _ => ray_lifted os started H enc)
#print axioms ray_holds
end Go.Proofs.Ytcjhgngdhdcpeaa
