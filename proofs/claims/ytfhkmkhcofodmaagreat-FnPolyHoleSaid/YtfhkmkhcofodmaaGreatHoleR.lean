/- FnPolyHole: a convex hole takes away what lies within it, and nothing else: the law returns true at every input and leaves its input as it was; no conditions. -/
import Derived.Test.YtfhkmkhcofodmaaGreatRows
import Derived.Test.YtfhkmkhcofodmaaGreatM9
namespace Go.Proofs.YtfhkmkhcofodmaaGreat
open Go Go.Sx Go.RowKit Go.ChangeShapes Go.WideShapes Go.ChangeAt Go.Joins
set_option maxRecDepth 100000
theorem Tryz.own : ownKnob Tryz.prog.godebug = none := by kernel_rfl
theorem Tryz.laidOut : laidOutB Tryz.prog = true := by kernel_rfl
theorem hole_lifted (os : Os) (started : os.Started) (H : Type) (enc : TypeId × Value → H) :
   ReturnsInHanded {} Tryz.checked os 12 .any (Rows.fnPolyHoleSpec.pre6 enc Tryz.prog Tryz.f12 Rows.fnPolyHoleRow.domain false) (Rows.fnPolyHoleSpec.post enc Tryz.prog Tryz.f12 false true false false) := by
 refine returnsInHanded_of_change (C := Tryz.checked) Tryz.own started (by kernel_rfl) Tryz.func12
   (ChangeSpec.witness6 (enc := enc) (C := Tryz.checked) false ⟨#[], #[.slice none 0 0, .slice none 0 0, .slice none 0 0, .slice none 0 0], []⟩ 8 (by kernel_rfl) (by kernel_rfl) (by kernel_rfl) (by kernel_rfl)) ?_
 intro W base args ds gs before hval0 hW hcnd _
 have hval : ∀ (j : Nat) t v, Tryz.f12.params[j]? = some t → args[j]? = some v → Value.okWide Tryz.prog W .any base t v := hval0
 have hW' := hW
 obtain ⟨p, q, hA0, hV, rfl, hfz, hnd⟩ := hW
 have hA : DataW.TrodAll enc Tryz.prog W 0 (fun _ => true) true Tryz.f12.params.toList args.toList ds p := hA0
 rw [Tryz.params12] at hA hval
 obtain ⟨v0, v1, v2, v3, d0, d1, d2, d3, p0, p1, p2, p3, rfl, rfl, rfl, h0, h1, h2, h3⟩ := trodAll_four hA
 obtain ⟨rfl, rfl⟩ := trodVars_none hV
 obtain ⟨ad0, len0, cap0, g0, rfl, hcap0, hI0⟩ := open_pts Tryz.underlying26 Tryz.underlying28 (by kernel_rfl) rfl rfl (by kernel_rfl) (by kernel_rfl) Tryz.underlying2 Tryz.underlying2 (hval 0 26 v0 rfl rfl) h0
 obtain ⟨ad1, len1, cap1, g1, rfl, hcap1, hI1⟩ := open_pts Tryz.underlying26 Tryz.underlying28 (by kernel_rfl) rfl rfl (by kernel_rfl) (by kernel_rfl) Tryz.underlying2 Tryz.underlying2 (hval 1 26 v1 rfl rfl) h1
 obtain ⟨ad2, len2, cap2, g2, rfl, hcap2, hI2⟩ := open_pts Tryz.underlying26 Tryz.underlying28 (by kernel_rfl) rfl rfl (by kernel_rfl) (by kernel_rfl) Tryz.underlying2 Tryz.underlying2 (hval 2 26 v2 rfl rfl) h2
 obtain ⟨ad3, len3, cap3, g3, rfl, hcap3, hI3⟩ := open_pts Tryz.underlying26 Tryz.underlying28 (by kernel_rfl) rfl rfl (by kernel_rfl) (by kernel_rfl) Tryz.underlying2 Tryz.underlying2 (hval 3 26 v3 rfl rfl) h3
 have key := calls_of_con (k := 4) (args := [.slcc 0 len0, .slcc 1 len1, .slcc 2 len2, .slcc 3 len3]) (H := [(0, ⟨false, 28, .ints .i64 (2 * len0) g0, 0⟩), (1, ⟨false, 28, .ints .i64 (2 * len1) g1, 0⟩), (2, ⟨false, 28, .ints .i64 (2 * len2) g2, 0⟩), (3, ⟨false, 28, .ints .i64 (2 * len3) g3, 0⟩)]) (ρ := fun n => if n = 0 then rhoOf ad0 cap0 else if n = 1 then rhoOf ad1 cap1 else if n = 2 then rhoOf ad2 cap2 else if n = 3 then rhoOf ad3 cap3 else none) (W := W)
   Tryz.Sx.lawHole Tryz.func12 (by kernel_rfl) (by kernel_rfl) (by
     intro n o hn
     have : n = 0 ∧ o = ⟨false, 28, .ints .i64 (2 * len0) g0, 0⟩ ∨ n = 1 ∧ o = ⟨false, 28, .ints .i64 (2 * len1) g1, 0⟩ ∨ n = 2 ∧ o = ⟨false, 28, .ints .i64 (2 * len2) g2, 0⟩ ∨ n = 3 ∧ o = ⟨false, 28, .ints .i64 (2 * len3) g3, 0⟩ := by
       rw [look_cons] at hn
       split at hn
       · rename_i h; exact .inl ⟨h.symm, by simpa using hn.symm⟩
       rw [look_cons] at hn
       split at hn
       · rename_i h; exact .inr (.inl ⟨h.symm, by simpa using hn.symm⟩)
       rw [look_cons] at hn
       split at hn
       · rename_i h; exact .inr (.inr (.inl ⟨h.symm, by simpa using hn.symm⟩))
       rw [look_cons] at hn
       split at hn
       · rename_i h; exact .inr (.inr (.inr (⟨h.symm, by simpa using hn.symm⟩)))
       cases hn
     rcases this with ⟨rfl, rfl⟩ | ⟨rfl, rfl⟩ | ⟨rfl, rfl⟩ | ⟨rfl, rfl⟩
     · exact ⟨by decide, rfl, fun i _ => trivial, osat_ints hI0⟩
     · exact ⟨by decide, rfl, fun i _ => trivial, osat_ints hI1⟩
     · exact ⟨by decide, rfl, fun i _ => trivial, osat_ints hI2⟩
     · exact ⟨by decide, rfl, fun i _ => trivial, osat_ints hI3⟩
     ) (by simp [bdL, SV.bd]) rfl ⟨rfl, rfl, rfl, rfl, trivial⟩ rfl
 have e : (denL (fun n => if n = 0 then rhoOf ad0 cap0 else if n = 1 then rhoOf ad1 cap1 else if n = 2 then rhoOf ad2 cap2 else if n = 3 then rhoOf ad3 cap3 else none) [.slcc 0 len0, .slcc 1 len1, .slcc 2 len2, .slcc 3 len3]).toArray =
     #[.slice ad0 len0 cap0, .slice ad1 len1 cap1, .slice ad2 len2 cap2, .slice ad3 len3 cap3] := by
   have e0 := den_slcc (len := len0) (n := 0) (ρ := fun n : Nm => if n = 0 then rhoOf ad0 cap0 else if n = 1 then rhoOf ad1 cap1 else if n = 2 then rhoOf ad2 cap2 else if n = 3 then rhoOf ad3 cap3 else none) rfl hI0
   have e1 := den_slcc (len := len1) (n := 1) (ρ := fun n : Nm => if n = 0 then rhoOf ad0 cap0 else if n = 1 then rhoOf ad1 cap1 else if n = 2 then rhoOf ad2 cap2 else if n = 3 then rhoOf ad3 cap3 else none) rfl hI1
   have e2 := den_slcc (len := len2) (n := 2) (ρ := fun n : Nm => if n = 0 then rhoOf ad0 cap0 else if n = 1 then rhoOf ad1 cap1 else if n = 2 then rhoOf ad2 cap2 else if n = 3 then rhoOf ad3 cap3 else none) rfl hI2
   have e3 := den_slcc (len := len3) (n := 3) (ρ := fun n : Nm => if n = 0 then rhoOf ad0 cap0 else if n = 1 then rhoOf ad1 cap1 else if n = 2 then rhoOf ad2 cap2 else if n = 3 then rhoOf ad3 cap3 else none) rfl hI3
   simp only [denL, e0, e1, e2, e3]
 rw [e] at key
 refine key.mono fun e W' ⟨he, hw⟩ => ?_
 subst he
 exact ⟨_, rfl, post_true Tryz.laidOut hW' hw (bt := 4) Tryz.underlying4 rfl rfl rfl rfl rfl (by kernel_rfl)⟩
theorem hole_holds : Rows.FnPolyHoleSaid :=
 OpenClaim.holds_of_wide 12 Tryz.f12 rfl rfl rfl rfl rfl rfl rfl ⟨rfl, rfl, rfl, rfl, rfl⟩ rfl rfl rfl rfl rfl (by kernel_rfl) Tryz.func12 (by kernel_rfl)
   (of_decide_eq_true (by kernel_rfl)) (by unfold Func.isWrapper; first | (rw [if_pos (by decide +kernel)]; kernel_rfl) | (rw [if_neg (by decide +kernel)]; exact ⟨rfl, rfl⟩))
   (fun os started H enc _ => hole_lifted os started H enc)
#print axioms hole_holds
end Go.Proofs.YtfhkmkhcofodmaaGreat
