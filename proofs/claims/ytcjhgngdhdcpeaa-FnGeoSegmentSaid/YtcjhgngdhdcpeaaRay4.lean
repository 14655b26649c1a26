/- Segment.Raycast: behind the loop; whole. -/
import Derived.Test.YtcjhgngdhdcpeaaRay3
import Derived.Test.YtcjhgngdhdcpeaaFl8
namespace Go.Proofs.Try.Sx
open Go Go.Sx Go.Proofs Go.Fl Go.Geo
set_option maxRecDepth 100000

/-- The height of the ray: the point's own, between the ends' heights; or a little above, where it was one of those. -/
def Ray (q : Nat) (p2 a2 b2 : Int) : Prop := (FI q p2 ∧ p2 ≠ a2 ∧ p2 ≠ b2) ∨ (Near q p2 ∧ (p2 = a2 ∨ p2 = b2))

theorem Ray.lt {q y : Nat} {p2 a2 b2 m : Int} (h : Ray q p2 a2 b2) (hy : FI y m) : fLt .f64 q y = decide (p2 < m) := by
  rcases h with ⟨h, _⟩ | ⟨h, _⟩
  · exact flt_I h hy
  · exact near_lt h hy
theorem Ray.gt {q y : Nat} {p2 a2 b2 m : Int} (h : Ray q p2 a2 b2) (hy : FI y m) (hm : m = a2 ∨ m = b2) : fGt .f64 q y = decide (m ≤ p2) := by
  rcases h with ⟨h, h1, h2⟩ | ⟨h, _⟩
  · rw [fgt_I h hy]; exact decide_eq_decide.2 (by omega)
  · exact near_gt h hy

theorem right_of {a1 a2 b1 b2 p1 p2 : Int} (f : (a2 < b2 ∧ a2 ≤ p2 ∧ p2 < b2) ∨ (b2 < a2 ∧ b2 ≤ p2 ∧ p2 < a2)) (h1 : a1 ≤ p1) (h2 : b1 ≤ p1) : ¬ Lft a1 a2 b1 b2 p1 p2 := by
  intro h
  unfold Lft at h
  rcases f with ⟨f1, f2, f3⟩ | ⟨f1, f2, f3⟩
  · have := cross_right f2 f3 h1 h2; omega
  · have := cross_right f2 f3 h2 h1; omega

theorem left_of {a1 a2 b1 b2 p1 p2 : Int} (hn : ¬ On a1 a2 b1 b2 p1 p2) (f : (a2 < b2 ∧ a2 ≤ p2 ∧ p2 < b2) ∨ (b2 < a2 ∧ b2 ≤ p2 ∧ p2 < a2)) (h1 : p1 ≤ a1) (h2 : p1 ≤ b1) : Lft a1 a2 b1 b2 p1 p2 := by
  unfold Lft
  rcases f with ⟨f1, f2, f3⟩ | ⟨f1, f2, f3⟩
  · have := cross_left f2 f3 h1 h2
    have := not_On_line hn f2 f3
    omega
  · have := cross_left f2 f3 h2 h1
    have := not_On_line (fun h => hn (On_swap.1 h)) f2 f3
    omega

theorem cut9 {ax ay bx by' px q : Nat} {a1 a2 b1 b2 p1 p2 : Int} (hn : ¬ On a1 a2 b1 b2 p1 p2) (hl : ¬ Lft a1 a2 b1 b2 p1 p2) : Wp Try.prog 0 c10 (SR px q ax ay bx by') (KK a1 a2 b1 b2 p1 p2) := by
  refine Wp.run gR ?_
  exact ⟨decide_eq_false (fun hh => hl hh.2), decide_eq_false hn, trivial⟩

section
variable {ax ay bx by' px py q : Nat} {a1 a2 b1 b2 p1 p2 : Int} (H : Pts ax ay bx by' px py a1 a2 b1 b2 p1 p2) (R : Ray q p2 a2 b2) (hn : ¬ On a1 a2 b1 b2 p1 p2)
include H R hn

set_option maxHeartbeats 4000000 in
theorem cut6 (h : (a2 < b2 ∧ a2 ≤ p2 ∧ p2 < b2) ∨ (b2 < a2 ∧ b2 ≤ p2 ∧ p2 < a2) → Wp Try.prog 0 c8 (SR px q ax ay bx by') (KK a1 a2 b1 b2 p1 p2)) :
    Wp Try.prog 0 c7 (SR px q ax ay bx by') (KK a1 a2 b1 b2 p1 p2) := by
  refine Wp.keep _ (Wp.run gR ?_) h
  clear h
  have e1 := flt_I H.ay H.by'
  have e2 := R.lt H.ay
  have e3 := R.gt H.by' (.inr rfl)
  have e4 := R.lt H.by'
  have e5 := R.gt H.ay (.inl rfl)
  repeat' (first | (intro h) | (refine And.intro ?_ ?_))
  all_goals try simp only [e1, e2, e3, e4, e5, decide_eq_true_eq, decide_eq_false_iff_not] at *
  all_goals first
    | exact trivial
    | exact ⟨rfl, rfl, rfl, rfl, rfl⟩
    | omega
    | exact decide_eq_false hn
    | exact decide_eq_false (fun hh => by unfold Lft at hh; omega)

set_option maxHeartbeats 4000000 in
theorem cut7 (f : (a2 < b2 ∧ a2 ≤ p2 ∧ p2 < b2) ∨ (b2 < a2 ∧ b2 ≤ p2 ∧ p2 < a2)) (h : (a1 < p1 ∧ p1 < b1) ∨ (b1 < p1 ∧ p1 < a1) → Wp Try.prog 0 c9 (SR px q ax ay bx by') (KK a1 a2 b1 b2 p1 p2)) :
    Wp Try.prog 0 c8 (SR px q ax ay bx by') (KK a1 a2 b1 b2 p1 p2) := by
  refine Wp.keep _ (Wp.run gR ?_) h
  clear h
  have _hR := R
  have r1 := right_of (a1 := a1) (b1 := b1) (p1 := p1) f
  have r2 := left_of hn f
  have e1 := fgt_I H.ax H.bx
  have e2 := fge_I H.px H.ax
  have e3 := fle_I H.px H.bx
  have e4 := fge_I H.px H.bx
  have e5 := fle_I H.px H.ax
  clear f
  repeat' (first | (intro h) | (refine And.intro ?_ ?_))
  all_goals try simp only [e1, e2, e3, e4, e5, decide_eq_true_eq, decide_eq_false_iff_not] at *
  all_goals first
    | exact trivial
    | exact ⟨rfl, rfl, rfl, rfl, rfl⟩
    | omega
    | exact decide_eq_false hn
    | exact decide_eq_true ⟨hn, r2 (by omega) (by omega)⟩
    | exact decide_eq_false (fun hh => r1 (by omega) (by omega) hh.2)

set_option maxHeartbeats 4000000 in
theorem cut8 (f : (a2 < b2 ∧ a2 ≤ p2 ∧ p2 < b2) ∨ (b2 < a2 ∧ b2 ≤ p2 ∧ p2 < a2)) (g : (a1 < p1 ∧ p1 < b1) ∨ (b1 < p1 ∧ p1 < a1)) (h : ¬ Lft a1 a2 b1 b2 p1 p2 → Wp Try.prog 0 c10 (SR px q ax ay bx by') (KK a1 a2 b1 b2 p1 p2)) :
    Wp Try.prog 0 c9 (SR px q ax ay bx by') (KK a1 a2 b1 b2 p1 p2) := by
  refine Wp.keep _ (Wp.run gR ?_) h
  clear h
  have e1 := flt_I H.ay H.by'
  refine And.intro ?_ ?_
  · intro h
    rw [e1] at h
    have h := of_decide_eq_true h
    have f : a2 ≤ p2 ∧ p2 < b2 := by omega
    obtain ⟨s1, s2, s3, s4, key⟩ := slope H.ax H.ay H.bx H.by' H.px H.ha1 H.ha2 H.hb1 H.hb2 H.hp1 H.hp2 f g (q := q) (by
      rcases R with ⟨h1, h2, h3⟩ | ⟨h1, h2⟩
      · exact .inl ⟨h1, h2⟩
      · exact .inr ⟨h1, by omega⟩)
    have hl : 0 ≤ cross a1 a2 b1 b2 p1 p2 ↔ Lft a1 a2 b1 b2 p1 p2 := by
      have := not_On_line hn f.1 f.2
      unfold Lft; omega
    refine And.intro s1 (And.intro s2 ?_)
    intro r hr
    refine And.intro s3 (And.intro s4 ?_)
    intro w hw
    have hk := key r w hr hw
    refine And.intro ?_ ?_
    · intro h'
      rw [hk] at h'
      exact ⟨decide_eq_true ⟨hn, hl.1 (of_decide_eq_true h')⟩, decide_eq_false hn, trivial⟩
    · intro h'
      rw [hk] at h'
      refine And.intro (fun hh => of_decide_eq_false h' (hl.2 hh)) ?_
      exact ⟨rfl, rfl, rfl, rfl, rfl⟩
  · intro h
    rw [e1] at h
    have h := of_decide_eq_false h
    have f : b2 < a2 ∧ b2 ≤ p2 ∧ p2 < a2 := by omega
    obtain ⟨s1, s2, s3, s4, key⟩ := slope H.bx H.by' H.ax H.ay H.px H.hb1 H.hb2 H.ha1 H.ha2 H.hp1 H.hp2 f.2 (by omega) (q := q) (by
      rcases R with ⟨h1, h2, h3⟩ | ⟨h1, h2⟩
      · exact .inl ⟨h1, h3⟩
      · exact .inr ⟨h1, by omega⟩)
    have hl : 0 ≤ cross b1 b2 a1 a2 p1 p2 ↔ Lft a1 a2 b1 b2 p1 p2 := by
      have := not_On_line (fun h => hn (On_swap.1 h)) f.2.1 f.2.2
      unfold Lft; omega
    refine And.intro s1 (And.intro s2 ?_)
    intro r hr
    refine And.intro s3 (And.intro s4 ?_)
    intro w hw
    have hk := key r w hr hw
    refine And.intro ?_ ?_
    · intro h'
      rw [hk] at h'
      exact ⟨decide_eq_true ⟨hn, hl.1 (of_decide_eq_true h')⟩, decide_eq_false hn, trivial⟩
    · intro h'
      rw [hk] at h'
      refine And.intro (fun hh => of_decide_eq_false h' (hl.2 hh)) ?_
      exact ⟨rfl, rfl, rfl, rfl, rfl⟩

theorem behind : Wp Try.prog 0 c7 (SR px q ax ay bx by') (KK a1 a2 b1 b2 p1 p2) :=
  cut6 H R hn fun f => cut7 H R hn f fun g => cut8 H R hn f g fun hl => cut9 hn hl

end

theorem whole {ax ay bx by' px py : Nat} {a1 a2 b1 b2 p1 p2 : Int} (H : Pts ax ay bx by' px py a1 a2 b1 b2 p1 p2) : Wp Try.prog 0 c0 (init 302 [.agg [.flt .f64 ax, .flt .f64 ay, .flt .f64 bx, .flt .f64 by'], .agg [.flt .f64 px, .flt .f64 py]] [] 0) (KK a1 a2 b1 b2 p1 p2) :=
  start _ _ _ _ _ _ _ _ (cut1 H fun f1 => cut2 H f1 fun f2 => cut3 H f1 f2 fun f3 => cut4 H f1 f2 f3 fun hn =>
    cut5 H (fun h => behind H (.inl ⟨H.py, h⟩) hn) (fun h => behind H (.inr ⟨near_nxt H.py H.hp2, h⟩) hn))

end Go.Proofs.Try.Sx
