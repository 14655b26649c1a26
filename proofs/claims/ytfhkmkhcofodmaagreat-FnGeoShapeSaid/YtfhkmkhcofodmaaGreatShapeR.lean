/- FnGeoShape: a point, a rectangle and a line say what is around them, whether they are empty, and valid, and moved, each of their points is: the law returns true at every input and leaves its input as it was; no conditions. -/
import Derived.Test.YtfhkmkhcofodmaaGreatRows
import Derived.Test.YtfhkmkhcofodmaaGreatM5
namespace Go.Proofs.YtfhkmkhcofodmaaGreat
open Go Go.Sx Go.RowKit Go.ChangeShapes Go.WideShapes Go.ChangeAt Go.Joins
set_option maxRecDepth 100000

theorem Tryz.own : ownKnob Tryz.prog.godebug = none := by kernel_rfl
theorem Tryz.laidOut : laidOutB Tryz.prog = true := by kernel_rfl

theorem open_r4 {W : World} {r : Reach} {b0 : Nat} {v : Value} (hv : Value.okWide Tryz.prog W r b0 24 v) : ∃ a b c d : Int, v = .agg #[.int .i64 a, .int .i64 b, .int .i64 c, .int .i64 d] := by
  obtain ⟨l, h1, rfl⟩ := open_ints (n := 4) (.inr ⟨_, _, Tryz.underlying24⟩) (show Tryz.prog.cellTypes Tryz.prog.depth 24 = some [2, 2, 2, 2] by kernel_rfl) (by intro u hu; simp at hu; subst hu; exact Tryz.underlying2) (by kernel_rfl) hv
  obtain ⟨a, b, c, d, rfl⟩ := list4 h1
  exact ⟨a, b, c, d, rfl⟩
theorem open_i {W : World} {r : Reach} {b0 : Nat} {v : Value} (hv : Value.okWide Tryz.prog W r b0 2 v) : ∃ n : Int, v = .int .i64 n := by
  refine int_cell (b0 := b0) (r := r) (W := W) Tryz.underlying2 ?_
  unfold Value.okWide at hv
  rw [Tryz.underlying2] at hv
  exact hv

theorem shape_lifted (os : Os) (started : os.Started) (H : Type) (enc : TypeId × Value → H) :
    ReturnsInHanded {} Tryz.checked os 3 .any (Rows.fnGeoShapeSpec.pre6 enc Tryz.prog Tryz.f3 Rows.fnGeoShapeRow.domain false) (Rows.fnGeoShapeSpec.post enc Tryz.prog Tryz.f3 false true false false) := by
  refine returnsInHanded_of_change (C := Tryz.checked) Tryz.own started (by kernel_rfl) Tryz.func3
    (ChangeSpec.witness6 (enc := enc) (C := Tryz.checked) false ⟨#[], #[.agg #[.int .i64 0, .int .i64 0, .int .i64 0, .int .i64 0], .slice none 0 0, .int .i64 0, .int .i64 0], []⟩ 8 (by kernel_rfl) (by kernel_rfl) (by kernel_rfl) (by kernel_rfl)) ?_
  intro W base args ds gs before hval0 hW hcnd _
  have hval : ∀ (j : Nat) t v, Tryz.f3.params[j]? = some t → args[j]? = some v → Value.okWide Tryz.prog W .any base t v := hval0
  have hW' := hW
  obtain ⟨p, q, hA0, hV, rfl, hfz, hnd⟩ := hW
  have hA : DataW.TrodAll enc Tryz.prog W 0 (fun _ => true) true Tryz.f3.params.toList args.toList ds p := hA0
  rw [Tryz.params3] at hA hval
  obtain ⟨v0, v1, v2, v3, d0, d1, d2, d3, p0, p1, p2, p3, rfl, rfl, rfl, h0, h1, h2, h3⟩ := trodAll_four hA
  obtain ⟨rfl, rfl⟩ := trodVars_none hV
  obtain ⟨a, b, c, d, rfl⟩ := open_r4 (hval 0 24 v0 rfl rfl)
  obtain ⟨ad, len, cap, g, rfl, hcap, hI⟩ := open_pts Tryz.underlying25 Tryz.underlying23 (by kernel_rfl) rfl rfl (by kernel_rfl) (by kernel_rfl) Tryz.underlying2 Tryz.underlying2 (hval 1 25 v1 rfl rfl) h1
  obtain ⟨dx, rfl⟩ := open_i (hval 2 2 v2 rfl rfl)
  obtain ⟨dy, rfl⟩ := open_i (hval 3 2 v3 rfl rfl)
  have key := calls_of_con (k := 1) (args := [.agg [.int .i64 a, .int .i64 b, .int .i64 c, .int .i64 d], .slcc 0 len, .int .i64 dx, .int .i64 dy]) (H := [(0, ⟨false, 23, .ints .i64 (2 * len) g, 0⟩)]) (ρ := fun n => if n = 0 then rhoOf ad cap else none) (W := W)
    Tryz.Sx.lawShape Tryz.func3 (by kernel_rfl) (by kernel_rfl) (by
      intro n o hn
      have : n = 0 ∧ o = ⟨false, 23, .ints .i64 (2 * len) g, 0⟩ := by
        rw [look_cons] at hn
        split at hn
        · rename_i h; exact ⟨h.symm, by simpa using hn.symm⟩
        · cases hn
      obtain ⟨rfl, rfl⟩ := this
      exact ⟨by decide, rfl, fun i _ => trivial, osat_ints hI⟩) (by simp [bdL, SV.bd]) rfl ⟨rfl, trivial⟩ rfl
  have e : (denL (fun n => if n = 0 then rhoOf ad cap else none) [.agg [.int .i64 a, .int .i64 b, .int .i64 c, .int .i64 d], .slcc 0 len, .int .i64 dx, .int .i64 dy]).toArray =
      #[.agg #[.int .i64 a, .int .i64 b, .int .i64 c, .int .i64 d], .slice ad len cap, .int .i64 dx, .int .i64 dy] := by
    have e1 := den_slcc (len := len) (n := 0) (ρ := fun n : Nm => if n = 0 then rhoOf ad cap else none) rfl hI
    simp only [denL, e1]
    simp [denL, SV.den]
  rw [e] at key
  refine key.mono fun e W' ⟨he, hw⟩ => ?_
  subst he
  exact ⟨_, rfl, post_true Tryz.laidOut hW' hw (bt := 4) Tryz.underlying4 rfl rfl rfl rfl rfl (by kernel_rfl)⟩

theorem shape_holds : Rows.FnGeoShapeSaid :=
  OpenClaim.holds_of_wide 3 Tryz.f3 rfl rfl rfl rfl rfl rfl rfl ⟨rfl, rfl, rfl, rfl, rfl⟩ rfl rfl rfl rfl rfl (by kernel_rfl) Tryz.func3 (by kernel_rfl)
    (of_decide_eq_true (by kernel_rfl)) (by unfold Func.isWrapper; first | (rw [if_pos (by decide +kernel)]; kernel_rfl) | (rw [if_neg (by decide +kernel)]; exact ⟨rfl, rfl⟩))
    (fun os started H enc _ => shape_lifted os started H enc)
#print axioms shape_holds
end Go.Proofs.YtfhkmkhcofodmaaGreat
