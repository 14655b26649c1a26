/- Parts of a proof, in order: what each says stands at its head. No conditions. -/
import Derived.DeepKeys
import Derived.KernelRfl
import Derived.Test.YtfhkmkhcofodmaaGreatFM3
import Derived.Test.YtfhkmkhcofodmaaGreatFM2
namespace Go.Proofs.Tryz.Sx
open Go Go.Sx Go.Proofs Go.Fl Go.Geo
set_option maxRecDepth 100000
theorem Refines.rfl' {S : St} : Refines 0 S S := ⟨Nat.zero_le _, fun _ _ ρ _ _ h => ⟨ρ, h, fun _ _ => rfl⟩⟩
section
variable {ax ay bx by' px py : Nat} {a1 a2 b1 b2 p1 p2 : Int} (H : Pts ax ay bx by' px py a1 a2 b1 b2 p1 p2)
include H
def LI (ax ay bx by' px py : Nat) : Bool → St
 | false => SR px py ax ay bx by'
 | true => SR px (nxt py) ax ay bx by'
def Lμ : Bool → Nat
 | false => 1
 | true => 0
set_option maxHeartbeats 4000000 in
theorem cut5 (hA : p2 ≠ a2 ∧ p2 ≠ b2 → Wp Tryz.prog 0 c7 (SR px py ax ay bx by') (KK a1 a2 b1 b2 p1 p2)) (hB : p2 = a2 ∨ p2 = b2 → Wp Tryz.prog 0 c7 (SR px (nxt py) ax ay bx by') (KK a1 a2 b1 b2 p1 p2)) :
   Wp Tryz.prog 0 c6 (SR px py ax ay bx by') (KK a1 a2 b1 b2 p1 p2) := by
 refine Wp.seq (K1 := fun e S' => match e with
   | .normal => ((p2 ≠ a2 ∧ p2 ≠ b2) ∧ Refines 0 S' (SR px py ax ay bx by')) ∨ ((p2 = a2 ∨ p2 = b2) ∧ Refines 0 S' (SR px (nxt py) ax ay bx by'))
   | _ => False) ?_ (fun S' h' => by
     rcases h' with ⟨h1, h2⟩ | ⟨h1, h2⟩
     · exact Wp.refines h2 (hA h1)
     · exact Wp.refines h2 (hB h1)) (fun _ _ h => h.elim) (fun _ h => h.elim)
 clear hA hB
 have e1 := feq_I H.py H.ay
 have e2 := feq_I H.py H.by'
 have hn := near_nxt H.py H.hp2
 have e3 := near_eq hn H.ay
 have e4 := near_eq hn H.by'
 have hf := H.py.1
 have hl := (nxt_spec H.py H.hp2).1
 refine Wp.block (Wp.loop (ι := { i : Bool // i = true → (p2 = a2 ∨ p2 = b2) }) (fun i => LI ax ay bx by' px py i.1) (fun i => Lμ i.1) ⟨false, by intro h; cases h⟩ Refines.rfl' ?_)
 rintro ⟨i, hi⟩
 cases i with
 | false =>
   refine Wp.run gR ?_
   refine And.intro ?_ ?_
   · intro h
     rw [e1] at h
     refine And.intro rfl (And.intro ⟨rfl, hf, hl⟩ (And.intro (by kernel_rfl) ?_))
     refine ⟨⟨true, fun _ => .inl (of_decide_eq_true h)⟩, show 0 < 1 by decide, Refines.by_names [] ⟨rfl, rfl, rfl, rfl, ?_, ?_⟩⟩
     · exact ⟨⟨rfl, trivial, rfl⟩, ⟨rfl, trivial, rfl⟩, ⟨rfl, trivial, rfl⟩, ⟨rfl, trivial, rfl⟩, trivial⟩
     · exact ⟨⟨rfl, rfl, rfl, rfl, trivial, trivial, trivial⟩, ⟨rfl, rfl, rfl, rfl, rfl, rfl, trivial⟩, ⟨rfl, rfl, rfl, rfl, rfl, rfl, trivial⟩, ⟨rfl, rfl, rfl, rfl, rfl, rfl, trivial⟩, trivial⟩
   · intro h
     rw [e1] at h
     refine And.intro ?_ ?_
     · intro h'
       rw [e2] at h'
       refine And.intro rfl (And.intro ⟨rfl, hf, hl⟩ (And.intro (by kernel_rfl) ?_))
       refine ⟨⟨true, fun _ => .inr (of_decide_eq_true h')⟩, show 0 < 1 by decide, Refines.by_names [] ⟨rfl, rfl, rfl, rfl, ?_, ?_⟩⟩
       · exact ⟨⟨rfl, trivial, rfl⟩, ⟨rfl, trivial, rfl⟩, ⟨rfl, trivial, rfl⟩, ⟨rfl, trivial, rfl⟩, trivial⟩
       · exact ⟨⟨rfl, rfl, rfl, rfl, trivial, trivial, trivial⟩, ⟨rfl, rfl, rfl, rfl, rfl, rfl, trivial⟩, ⟨rfl, rfl, rfl, rfl, rfl, rfl, trivial⟩, ⟨rfl, rfl, rfl, rfl, rfl, rfl, trivial⟩, trivial⟩
     · intro h'
       rw [e2] at h'
       refine Or.inl ⟨⟨of_decide_eq_false h, of_decide_eq_false h'⟩, Refines.by_names [] ⟨rfl, rfl, rfl, rfl, ?_, ?_⟩⟩
       · exact ⟨⟨rfl, trivial, rfl⟩, ⟨rfl, trivial, rfl⟩, ⟨rfl, trivial, rfl⟩, ⟨rfl, trivial, rfl⟩, trivial⟩
       · exact ⟨⟨rfl, rfl, rfl, rfl, trivial, trivial, trivial⟩, ⟨rfl, rfl, rfl, rfl, rfl, rfl, trivial⟩, ⟨rfl, rfl, rfl, rfl, rfl, rfl, trivial⟩, ⟨rfl, rfl, rfl, rfl, rfl, rfl, trivial⟩, trivial⟩
 | true =>
   have hi := hi rfl
   refine Wp.run gR ?_
   refine And.intro ?_ ?_
   · intro h
     rw [e3] at h; cases h
   · intro h
     refine And.intro ?_ ?_
     · intro h'
       rw [e4] at h'; cases h'
     · intro h'
       refine Or.inr ⟨hi, Refines.by_names [] ⟨rfl, rfl, rfl, rfl, ?_, ?_⟩⟩
       · exact ⟨⟨rfl, trivial, rfl⟩, ⟨rfl, trivial, rfl⟩, ⟨rfl, trivial, rfl⟩, ⟨rfl, trivial, rfl⟩, trivial⟩
       · exact ⟨⟨rfl, rfl, rfl, rfl, trivial, trivial, trivial⟩, ⟨rfl, rfl, rfl, rfl, rfl, rfl, trivial⟩, ⟨rfl, rfl, rfl, rfl, rfl, rfl, trivial⟩, ⟨rfl, rfl, rfl, rfl, rfl, rfl, trivial⟩, trivial⟩
end
end Go.Proofs.Tryz.Sx

namespace Go.Fl
open Ieee Go.Sx Go.Geo
theorem small_lt {k : Nat} (hk : k ≤ 1047) : 2 ^ k < 2 ^ (U1 - 25) := (Nat.pow_lt_pow_iff_right (by decide)).2 (by have : U1 = 1074 := rfl; omega)
theorem slope {lx ly ux uy px q : Nat} {l1 l2 u1 u2 p1 p2 : Int} (h1 : FI lx l1) (h2 : FI ly l2) (h3 : FI ux u1) (h4 : FI uy u2) (h5 : FI px p1)
   (b1 : l1.natAbs ≤ 2 ^ 22) (b2 : l2.natAbs ≤ 2 ^ 22) (b3 : u1.natAbs ≤ 2 ^ 22) (b4 : u2.natAbs ≤ 2 ^ 22) (b5 : p1.natAbs ≤ 2 ^ 22) (b6 : p2.natAbs ≤ 2 ^ 22)
   (hy : l2 ≤ p2 ∧ p2 < u2) (hx : (l1 < p1 ∧ p1 < u1) ∨ (u1 < p1 ∧ p1 < l1)) (hq : (FI q p2 ∧ p2 ≠ l2) ∨ (Near q p2 ∧ p2 = l2)) :
   fok .sub .f64 q ly ∧ fok .sub .f64 px lx ∧ fok .sub .f64 uy ly ∧ fok .sub .f64 ux lx ∧
   ∀ r w, QuoRel .f64 (fop .sub .f64 q ly) (fop .sub .f64 px lx) r → QuoRel .f64 (fop .sub .f64 uy ly) (fop .sub .f64 ux lx) w → fGe .f64 r w = decide (0 ≤ cross l1 l2 u1 u2 p1 p2) := by
 obtain ⟨s2, d2⟩ := sub_I h5 h1 b5 b1
 obtain ⟨s3, d3⟩ := sub_I h4 h2 b4 b2
 obtain ⟨s4, d4⟩ := sub_I h3 h1 b3 b1
 have hcross : cross l1 l2 u1 u2 p1 p2 = (p2 - l2) * (u1 - l1) - (u2 - l2) * (p1 - l1) := by
   unfold cross; rw [Int.mul_comm (u1 - l1)]
 have hnum : u2 - l2 ≠ 0 := by omega
 have hd1 : p1 - l1 ≠ 0 := by omega
 have hd2 : u1 - l1 ≠ 0 := by omega
 rcases hq with ⟨hq, hne⟩ | ⟨hq, heq⟩
 · obtain ⟨s1, d1⟩ := sub_I hq h2 b6 b2
   refine ⟨s1, s2, s3, s4, fun r w hr hw => ?_⟩
   obtain ⟨g1, g2⟩ := quo_fin hr d1 d2 hd1 (by omega) (by omega)
   obtain ⟨g3, g4⟩ := quo_fin hw d3 d4 hd2 (by omega) (by omega)
   rw [fge_V g1 g3]
   have hpos : 0 < (u1 - l1) * (p1 - l1) := by
     rcases hx with hx | hx
     · exact Int.mul_pos (by omega) (by omega)
     · exact Int.mul_pos_of_neg_of_neg (by omega) (by omega)
   refine decide_eq_decide.2 ?_
   rw [QV_le_iff g4 g2 hpos ?_ ?_, hcross]
   · omega
   · have := Nat.mul_le_mul (show (u2 - l2).natAbs ≤ 2 ^ 23 by omega) (show (p1 - l1).natAbs ≤ 2 ^ 23 by omega)
     omega
   · have := Nat.mul_le_mul (show (p2 - l2).natAbs ≤ 2 ^ 23 by omega) (show (u1 - l1).natAbs ≤ 2 ^ 23 by omega)
     omega
 · obtain ⟨hf, k, hk, hv⟩ := hq
   subst heq
   obtain ⟨n, n1, n2, n3, n4⟩ := sub_near hf hv hk h2
   have hn : floatBits .sub .f64 q ly = some n := n1
   have s1 : fok .sub .f64 q ly := by unfold fok; rw [hn]; rfl
   have e1 : fop .sub .f64 q ly = n := by unfold fop; rw [hn]; rfl
   refine ⟨s1, s2, s3, s4, fun r w hr hw => ?_⟩
   rw [e1] at hr
   obtain ⟨r', m1, m2, m3, m4, m5⟩ := div_little n2 n3 n4 (by omega) d2 hd1
   have hrr : r = r' := by
     have : floatBits .quo .f64 n (fop .sub .f64 px lx) = some r' := m1
     unfold QuoRel at hr
     rw [this] at hr
     exact hr
   subst hrr
   obtain ⟨g3, g4⟩ := quo_fin hw d3 d4 hd2 (by omega) (by omega)
   obtain ⟨q1, q2⟩ := QV_large g4 hnum (show (u1 - l1).natAbs ≤ 2 ^ 24 by omega)
   have hs : 2 ^ (k + 1 + 1) < 2 ^ (U1 - 25) := small_lt (by omega)
   rw [fge_V m2 g3]
   refine decide_eq_decide.2 ?_
   have hn0 : decide (u2 - p2 < 0) = false := decide_eq_false (by omega)
   rw [hn0, Bool.false_xor] at q2
   rw [hcross, Int.sub_self, Int.zero_mul]
   generalize 2 ^ (k + 1 + 1) = t at *
   generalize 2 ^ (U1 - 25) = u at *
   rcases hx with hx | hx
   · have hneg : ¬ V w < 0 := by rw [q2]; simp; omega
     have := m3 (by omega)
     have hm : 0 < (u2 - p2) * (p1 - l1) := Int.mul_pos (by omega) (by omega)
     omega
   · have hneg : V w < 0 := by rw [q2]; simp; omega
     have := m4 (by omega)
     have hm : (u2 - p2) * (p1 - l1) < 0 := Int.mul_neg_of_pos_of_neg (by omega) (by omega)
     omega
end Go.Fl

namespace Go.Proofs.Tryz.Sx
open Go Go.Sx Go.Proofs Go.Fl Go.Geo
set_option maxRecDepth 100000
def Ray (q : Nat) (p2 a2 b2 : Int) : Prop := (FI q p2 ∧ p2 ≠ a2 ∧ p2 ≠ b2) ∨ (Near q p2 ∧ (p2 = a2 ∨ p2 = b2))
theorem Ray.lt {q y : Nat} {p2 a2 b2 m : Int} (h : Ray q p2 a2 b2) (hy : FI y m) : fLt .f64 q y = decide (p2 < m) := by
 rcases h with ⟨h, _⟩ | ⟨h, _⟩
 · exact flt_I h hy
 · exact near_lt h hy
theorem Ray.gt {q y : Nat} {p2 a2 b2 m : Int} (h : Ray q p2 a2 b2) (hy : FI y m) (hm : m = a2 ∨ m = b2) : fGt .f64 q y = decide (m ≤ p2) := by
 rcases h with ⟨h, h1, h2⟩ | ⟨h, _⟩
 · rw [fgt_I h hy]; exact decide_eq_decide.2 (by omega)
 · exact near_gt h hy
theorem right_of {a1 a2 b1 b2 p1 p2 : Int} (f : (a2 < b2 ∧ a2 ≤ p2 ∧ p2 < b2) ∨ (b2 < a2 ∧ b2 ≤ p2 ∧ p2 < a2)) (h1 : a1 ≤ p1) (h2 : b1 ≤ p1) : ¬ Lft a1 a2 b1 b2 p1 p2 := by
 intro h
 unfold Lft at h
 rcases f with ⟨f1, f2, f3⟩ | ⟨f1, f2, f3⟩
 · have := cross_right f2 f3 h1 h2; omega
 · have := cross_right f2 f3 h2 h1; omega
theorem left_of {a1 a2 b1 b2 p1 p2 : Int} (hn : ¬ On a1 a2 b1 b2 p1 p2) (f : (a2 < b2 ∧ a2 ≤ p2 ∧ p2 < b2) ∨ (b2 < a2 ∧ b2 ≤ p2 ∧ p2 < a2)) (h1 : p1 ≤ a1) (h2 : p1 ≤ b1) : Lft a1 a2 b1 b2 p1 p2 := by
 unfold Lft
 rcases f with ⟨f1, f2, f3⟩ | ⟨f1, f2, f3⟩
 · have := cross_left f2 f3 h1 h2
   have := not_On_line hn f2 f3
   omega
 · have := cross_left f2 f3 h2 h1
   have := not_On_line (fun h => hn (On_swap.1 h)) f2 f3
   omega
theorem cut9 {ax ay bx by' px q : Nat} {a1 a2 b1 b2 p1 p2 : Int} (hn : ¬ On a1 a2 b1 b2 p1 p2) (hl : ¬ Lft a1 a2 b1 b2 p1 p2) : Wp Tryz.prog 0 c10 (SR px q ax ay bx by') (KK a1 a2 b1 b2 p1 p2) := by
 refine Wp.run gR ?_
 exact ⟨decide_eq_false (fun hh => hl hh.2), decide_eq_false hn, trivial⟩
section
variable {ax ay bx by' px py q : Nat} {a1 a2 b1 b2 p1 p2 : Int} (H : Pts ax ay bx by' px py a1 a2 b1 b2 p1 p2) (R : Ray q p2 a2 b2) (hn : ¬ On a1 a2 b1 b2 p1 p2)
include H R hn
set_option maxHeartbeats 4000000 in
theorem cut6 (h : (a2 < b2 ∧ a2 ≤ p2 ∧ p2 < b2) ∨ (b2 < a2 ∧ b2 ≤ p2 ∧ p2 < a2) → Wp Tryz.prog 0 c8 (SR px q ax ay bx by') (KK a1 a2 b1 b2 p1 p2)) :
   Wp Tryz.prog 0 c7 (SR px q ax ay bx by') (KK a1 a2 b1 b2 p1 p2) := by
 refine Wp.keep _ (Wp.run gR ?_) h
 clear h
 have e1 := flt_I H.ay H.by'
 have e2 := R.lt H.ay
 have e3 := R.gt H.by' (.inr rfl)
 have e4 := R.lt H.by'
 have e5 := R.gt H.ay (.inl rfl)
 repeat' (first | (intro h) | (refine And.intro ?_ ?_))
 all_goals try simp only [e1, e2, e3, e4, e5, decide_eq_true_eq, decide_eq_false_iff_not] at *
 all_goals first
   | exact trivial
   | exact ⟨rfl, rfl, rfl, rfl, rfl⟩
   | omega
   | exact decide_eq_false hn
   | exact decide_eq_false (fun hh => by unfold Lft at hh; omega)
set_option maxHeartbeats 4000000 in
theorem cut7 (f : (a2 < b2 ∧ a2 ≤ p2 ∧ p2 < b2) ∨ (b2 < a2 ∧ b2 ≤ p2 ∧ p2 < a2)) (h : (a1 < p1 ∧ p1 < b1) ∨ (b1 < p1 ∧ p1 < a1) → Wp Tryz.prog 0 c9 (SR px q ax ay bx by') (KK a1 a2 b1 b2 p1 p2)) :
   Wp Tryz.prog 0 c8 (SR px q ax ay bx by') (KK a1 a2 b1 b2 p1 p2) := by
 refine Wp.keep _ (Wp.run gR ?_) h
 clear h
 have _hR := R
 have r1 := right_of (a1 := a1) (b1 := b1) (p1 := p1) f
 have r2 := left_of hn f
 have e1 := fgt_I H.ax H.bx
 have e2 := fge_I H.px H.ax
 have e3 := fle_I H.px H.bx
 have e4 := fge_I H.px H.bx
 have e5 := fle_I H.px H.ax
 clear f
 repeat' (first | (intro h) | (refine And.intro ?_ ?_))
 all_goals try simp only [e1, e2, e3, e4, e5, decide_eq_true_eq, decide_eq_false_iff_not] at *
 all_goals first
   | exact trivial
   | exact ⟨rfl, rfl, rfl, rfl, rfl⟩
   | omega
   | exact decide_eq_false hn
   | exact decide_eq_true ⟨hn, r2 (by omega) (by omega)⟩
   | exact decide_eq_false (fun hh => r1 (by omega) (by omega) hh.2)
set_option maxHeartbeats 4000000 in
theorem cut8 (f : (a2 < b2 ∧ a2 ≤ p2 ∧ p2 < b2) ∨ (b2 < a2 ∧ b2 ≤ p2 ∧ p2 < a2)) (g : (a1 < p1 ∧ p1 < b1) ∨ (b1 < p1 ∧ p1 < a1)) (h : ¬ Lft a1 a2 b1 b2 p1 p2 → Wp Tryz.prog 0 c10 (SR px q ax ay bx by') (KK a1 a2 b1 b2 p1 p2)) :
   Wp Tryz.prog 0 c9 (SR px q ax ay bx by') (KK a1 a2 b1 b2 p1 p2) := by
 refine Wp.keep _ (Wp.run gR ?_) h
 clear h
 have e1 := flt_I H.ay H.by'
 refine And.intro ?_ ?_
 · intro h
   rw [e1] at h
   have h := of_decide_eq_true h
   have f : a2 ≤ p2 ∧ p2 < b2 := by omega
   obtain ⟨s1, s2, s3, s4, key⟩ := slope H.ax H.ay H.bx H.by' H.px H.ha1 H.ha2 H.hb1 H.hb2 H.hp1 H.hp2 f g (q := q) (by
     rcases R with ⟨h1, h2, h3⟩ | ⟨h1, h2⟩
     · exact .inl ⟨h1, h2⟩
     · exact .inr ⟨h1, by omega⟩)
   have hl : 0 ≤ cross a1 a2 b1 b2 p1 p2 ↔ Lft a1 a2 b1 b2 p1 p2 := by
     have := not_On_line hn f.1 f.2
     unfold Lft; omega
   refine And.intro s1 (And.intro s2 ?_)
   intro r hr
   refine And.intro s3 (And.intro s4 ?_)
   intro w hw
   have hk := key r w hr hw
   refine And.intro ?_ ?_
   · intro h'
     rw [hk] at h'
     exact ⟨decide_eq_true ⟨hn, hl.1 (of_decide_eq_true h')⟩, decide_eq_false hn, trivial⟩
   · intro h'
     rw [hk] at h'
     refine And.intro (fun hh => of_decide_eq_false h' (hl.2 hh)) ?_
     exact ⟨rfl, rfl, rfl, rfl, rfl⟩
 · intro h
   rw [e1] at h
   have h := of_decide_eq_false h
   have f : b2 < a2 ∧ b2 ≤ p2 ∧ p2 < a2 := by omega
   obtain ⟨s1, s2, s3, s4, key⟩ := slope H.bx H.by' H.ax H.ay H.px H.hb1 H.hb2 H.ha1 H.ha2 H.hp1 H.hp2 f.2 (by omega) (q := q) (by
     rcases R with ⟨h1, h2, h3⟩ | ⟨h1, h2⟩
     · exact .inl ⟨h1, h3⟩
     · exact .inr ⟨h1, by omega⟩)
   have hl : 0 ≤ cross b1 b2 a1 a2 p1 p2 ↔ Lft a1 a2 b1 b2 p1 p2 := by
     have := not_On_line (fun h => hn (On_swap.1 h)) f.2.1 f.2.2
     unfold Lft; omega
   refine And.intro s1 (And.intro s2 ?_)
   intro r hr
   refine And.intro s3 (And.intro s4 ?_)
   intro w hw
   have hk := key r w hr hw
   refine And.intro ?_ ?_
   · intro h'
     rw [hk] at h'
     exact ⟨decide_eq_true ⟨hn, hl.1 (of_decide_eq_true h')⟩, decide_eq_false hn, trivial⟩
   · intro h'
     rw [hk] at h'
     refine And.intro (fun hh => of_decide_eq_false h' (hl.2 hh)) ?_
     exact ⟨rfl, rfl, rfl, rfl, rfl⟩
theorem behind : Wp Tryz.prog 0 c7 (SR px q ax ay bx by') (KK a1 a2 b1 b2 p1 p2) :=
 cut6 H R hn fun f => cut7 H R hn f fun g => cut8 H R hn f g fun hl => cut9 hn hl
end
theorem whole {ax ay bx by' px py : Nat} {a1 a2 b1 b2 p1 p2 : Int} (H : Pts ax ay bx by' px py a1 a2 b1 b2 p1 p2) : Wp Tryz.prog 0 c0 (init 302 [.agg [.flt .f64 ax, .flt .f64 ay, .flt .f64 bx, .flt .f64 by'], .agg [.flt .f64 px, .flt .f64 py]] [] 0) (KK a1 a2 b1 b2 p1 p2) :=
 start _ _ _ _ _ _ _ _ (cut1 H fun f1 => cut2 H f1 fun f2 => cut3 H f1 f2 fun f3 => cut4 H f1 f2 f3 fun hn =>
   cut5 H (fun h => behind H (.inl ⟨H.py, h⟩) hn) (fun h => behind H (.inr ⟨near_nxt H.py H.hp2, h⟩) hn))
end Go.Proofs.Tryz.Sx

namespace Go.Sx
open Go.RowKit
def okFlag (b : Bool) (p : Prop) : Prop :=
 match b with
 | true => p
 | false => False
theorem okFlag_iff {b : Bool} {p : Prop} (h : okFlag b p) : b = true ∧ p := by
 cases b
 · exact h.elim
 · exact ⟨rfl, h⟩
def slotsP (σ : Sig) (sl : Slots) (N : Nat) : Slots → Prop
 | [] => True
 | (t, v') :: r => match slot sl t with
   | some v => okFlag (v'.und N) (eqvR σ v v' ∧ slotsP σ sl N r)
   | none => False
def Cont.undP (N : Nat) : Cont → Prop
 | .cells l => okFlag (undL N l) True
 | .ints _ _ _ => True
 | .flts _ _ _ => True
 | .gen n f => ∀ i, i < n → (f i).und N = true
 | .upto _ l => okFlag (undL N l) True
def heapP (σ : Sig) (H : Heap) (N : Nat) : Heap → Prop
 | [] => True
 | (n, o') :: r => okFlag (Nat.blt n N) (o'.c.undP N ∧ (match σ n with
   | some m => match look H m with
     | some o => obR σ o o'
     | none => False
   | none => o'.c.size = 0) ∧ heapP σ H N r)
theorem slotsP_spec {σ : Sig} {sl : Slots} {N : Nat} : ∀ {s : Slots}, slotsP σ sl N s → slotsR σ sl N s
 | [], _ => trivial
 | (t, v') :: r, h => by
   unfold slotsP at h
   unfold slotsR
   split at h
   · rename_i v hv
     obtain ⟨h1, h2, h3⟩ := okFlag_iff h
     refine ⟨?_, slotsP_spec h3⟩
     rw [hv]
     exact ⟨h1, h2⟩
   · exact h.elim
theorem Cont.undP_spec {N : Nat} {c : Cont} (h : c.undP N) : c.und N := by
 cases c with
 | cells l => exact (okFlag_iff h).1
 | ints k n g => trivial
 | flts k n g => trivial
 | gen n f => exact h
 | upto n l => exact (okFlag_iff h).1
theorem heapP_spec {σ : Sig} {H : Heap} {N : Nat} : ∀ {s : Heap}, heapP σ H N s → heapR σ H N s
 | [], _ => trivial
 | (n, o') :: r, h => by
   unfold heapP at h
   unfold heapR
   obtain ⟨h1, h2, h3, h4⟩ := okFlag_iff h
   exact ⟨⟨h1, Cont.undP_spec h2, h3⟩, heapP_spec h4⟩
def fitsP (N0 : Nat) (S S' : St) : Prop :=
 okFlag (Nat.ble N0 S'.N && (fixN N0 (autoSig N0 S S') && (Nat.beq S'.nt S.nt && distN (images (sigAt (autoSig N0 S S')) S'.H))))
   (slotsP (sigAt (autoSig N0 S S')) S.sl S'.N S'.sl ∧ heapP (sigAt (autoSig N0 S S')) S.H S'.N S'.H)
theorem fitsP_spec {N0 : Nat} {S S' : St} (h : fitsP N0 S S') : Refines N0 S S' := by
 obtain ⟨h1, h2, h3⟩ := okFlag_iff h
 simp only [Bool.and_eq_true] at h1
 obtain ⟨h4, h5, h6, h7⟩ := h1
 exact Refines.auto ⟨h4, h5, Nat.eq_of_beq_eq_true h6, h7, slotsP_spec h2, heapP_spec h3⟩
structure Fam where
 ι : Type
 I : ι → St
 inv : ι → Prop
 μ : ι → Nat
abbrev Ann := List (Nat × Fam)
def ann : Ann → Nat → Option Fam
 | [], _ => none
 | (m, v) :: r, n => match Nat.beq m n with
   | true => some v
   | false => ann r n
def firstReg : Code → Option Nat
 | .region id _ _ => some id
 | .seq x y => match firstReg x with
   | some i => some i
   | none => firstReg y
 | .block _ x => firstReg x
 | .loop x => firstReg x
 | _ => none
def annAt (A : Ann) (c : Code) : Option Fam :=
 match firstReg c with
 | some i => ann A i
 | none => none
structure LFam where
 f : Fam
 cuts : f.ι → Ann
instance : Coe Fam LFam := ⟨fun f => ⟨f, fun _ => []⟩⟩
inductive LA where
 | fam (f : LFam)
 | unr (l : List Fam)
 | alt (l : List LFam)
 | unrD (f : St → List Fam)
 | iter (n : Nat)
instance : Coe LFam LA := ⟨.fam⟩
instance : Coe Fam LA := ⟨fun f => .fam f⟩
abbrev LAnn := List (Nat × LA)
def lann : LAnn → Nat → Option LA
 | [], _ => none
 | (m, v) :: r, n => match Nat.beq m n with
   | true => some v
   | false => lann r n
def lannAt (A : LAnn) (c : Code) : Option LA :=
 match firstReg c with
 | some i => lann A i
 | none => none
def joinA : Ann → Ann → Ann
 | [], B => B
 | x :: r, B => x :: joinA r B
def unrIn (N0 : Nat) (S : St) : List Fam → Prop
 | [] => False
 | J :: _ => ∃ i, J.inv i ∧ fitsP N0 S (J.I i)
def unrP (N0 : Nat) (run : St → (Xt → St → Prop) → Prop) (K : Xt → St → Prop) : List Fam → Prop
 | [] => True
 | J :: r => (∀ i, J.inv i → run (J.I i) (fun e S' => match e with
   | .normal => unrIn N0 S' r
   | e => K e S')) ∧ unrP N0 run K r
def iterP (run : St → (Xt → St → Prop) → Prop) (K : Xt → St → Prop) : Nat → St → Prop
 | 0, _ => False
 | n + 1, S => run S (fun e S' => match e with
   | .normal => iterP run K n S'
   | e => K e S')
def famP (N0 : Nat) (run : Ann → St → (Xt → St → Prop) → Prop) (S : St) (K : Xt → St → Prop) (J : LFam) : Prop :=
 (∃ i, J.f.inv i ∧ fitsP N0 S (J.f.I i)) ∧ ∀ i, J.f.inv i → run (J.cuts i) (J.f.I i) (fun e S' => match e with
   | .normal => ∃ i', J.f.inv i' ∧ J.f.μ i' < J.f.μ i ∧ fitsP N0 S' (J.f.I i')
   | e => K e S')
def altP (N0 : Nat) (run : Ann → St → (Xt → St → Prop) → Prop) (S : St) (K : Xt → St → Prop) : List LFam → Prop
 | [] => False
 | J :: r => famP N0 run S K J ∨ altP N0 run S K r
def runB (G : Ctx) (N0 : Nat) (A : LAnn) : Code → Ann → St → (Xt → St → Prop) → Prop
 | .skip, _, S, K => K .normal S
 | .region _ ops draw, _, S, K => match draw with
   | false => runOps G ops.toList ops.toList S (K .normal)
   | true => expl G ops.toList S (K .normal) 20 []
 | .seq x y, B, S, K => match annAt B y with
   | none => runB G N0 A x B S (fun e S' => match e with
     | .normal => runB G N0 A y B S' K
     | e => K e S')
   | some J => runB G N0 A x B S (fun e S' => match e with
     | .normal => ∃ j, J.inv j ∧ fitsP N0 S' (J.I j)
     | e => K e S') ∧ ∀ j, J.inv j → runB G N0 A y B (J.I j) K
 | .cond c x y, B, S, K => match opr S.sl c with
   | some .tt => runB G N0 A x B S K
   | some .ff => runB G N0 A y B S K
   | some (.bool b) => (b = true → runB G N0 A x B S K) ∧ (b = false → runB G N0 A y B S K)
   | _ => False
 | .block id x, B, S, K => runB G N0 A x B S (fun e S' => match e with
   | .exit j => match Nat.beq j id with
     | true => K .normal S'
     | false => K (.exit j) S'
   | e => K e S')
 | .exit id, _, S, K => K (.exit id) S
 | .ret, _, S, K => K .ret S
 | .loop x, B, S, K => match lannAt A x with
   | none => match annAt B x with
     | none => False
     | some J => famP N0 (fun B' S' K' => runB G N0 A x (joinA B' B) S' K') S K ⟨J, fun _ => []⟩
   | some (.unr l) => unrIn N0 S l ∧ unrP N0 (fun S' K' => runB G N0 A x B S' K') K l
   | some (.unrD f) => unrIn N0 S (f S) ∧ unrP N0 (fun S' K' => runB G N0 A x B S' K') K (f S)
   | some (.iter n) => iterP (fun S' K' => runB G N0 A x B S' K') K n S
   | some (.fam J) => famP N0 (fun B' S' K' => runB G N0 A x (joinA B' B) S' K') S K J
   | some (.alt l) => altP N0 (fun B' S' K' => runB G N0 A x (joinA B' B) S' K') S K l
 | _, _, _, _ => False
def runA (G : Ctx) (N0 : Nat) (A : LAnn) (B : Ann) (c : Code) (S : St) (K : Xt → St → Prop) : Prop := runB G N0 A c B S K
section
variable {P : Program} {G : Ctx}
theorem Wp.refines' {N0 : Nat} {S S1 : St} {K : Xt → St → Prop} {c : Code} (hr : Refines N0 S S1) (h : Wp P N0 c S1 K) : Wp P N0 c S K := by
 intro W0 Fr ρ0 ρ a w Q hS hN hρ hK
 obtain ⟨ρ', h1, h2⟩ := hr.2 W0 Fr ρ a w hS
 exact h W0 Fr ρ0 ρ' a w Q h1 hr.1 (fun n hn => (h2 n hn).trans (hρ n hn)) hK
theorem Wp.iter {N0 : Nat} {x : Code} {K : Xt → St → Prop} {run : St → (Xt → St → Prop) → Prop} (hrun : ∀ S K, run S K → Wp P N0 x S K) (n : Nat) (S : St) (h : iterP run K n S) : Wp P N0 (.loop x) S K := by
 intro W0 Fr ρ0 ρ a w Q hS hN hρ hK
 refine wp_loop_ghost (fun i a w => ∃ S1 ρ', Sat W0 Fr S1 ρ' a w ∧ N0 ≤ S1.N ∧ (∀ n, n < N0 → ρ' n = ρ0 n) ∧ iterP run K i S1) (fun i => i) ?_ (i0 := n) ⟨S, ρ, hS, hN, hρ, h⟩
 rintro i a1 w1 ⟨S1, ρ1, hS1, hN1, hρ1, hi⟩
 cases i with
 | zero => exact (hi : False).elim
 | succ i =>
   refine hrun S1 _ hi W0 Fr ρ0 ρ1 a1 w1 _ hS1 hN1 hρ1 fun e S' ρ' a' w' h' hS' hN' hρ' => ?_
   cases e with
   | normal => exact ⟨i, ⟨S', ρ', hS', hN', hρ', h'⟩, Nat.lt_succ_self i⟩
   | exit id => exact hK (.exit id) S' ρ' a' w' h' hS' hN' hρ'
   | ret => exact hK .ret S' ρ' a' w' h' hS' hN' hρ'
theorem runB_sound (hG : CtxOk P G) {N0 : Nat} {A : LAnn} : ∀ (c : Code) {B : Ann} {S : St} {K : Xt → St → Prop}, runB G N0 A c B S K → Wp P N0 c S K := by
 intro c
 induction c with
 | skip => intro B S K h; exact Wp.run hG h
 | region id ops draw => intro B S K h; exact Wp.run hG h
 | seq x y ihx ihy =>
   intro B S K h
   unfold runB at h
   split at h
   · exact Wp.seq (ihx h) (fun S' h' => ihy h') (fun _ _ h => h) (fun _ h => h)
   · rename_i J hJ
     obtain ⟨h1, h2⟩ := h
     refine Wp.seq (ihx h1) (fun S' h' => ?_) (fun _ _ h => h) (fun _ h => h)
     obtain ⟨j, hj, hf⟩ := h'
     exact Wp.refines' (fitsP_spec hf) (ihy (h2 j hj))
 | cond c x y ihx ihy =>
   intro B S K h W0 Fr ρ0 ρ a w Q hS hN hρ hK
   unfold runB at h
   split at h
   · rename_i hv
     exact wp_cond_true (by simpa [SV.den] using (opr_sat hS.s hv).1) (ihx h W0 Fr ρ0 ρ a w Q hS hN hρ hK)
   · rename_i hv
     exact wp_cond_false (by simpa [SV.den] using (opr_sat hS.s hv).1) (ihy h W0 Fr ρ0 ρ a w Q hS hN hρ hK)
   · rename_i b hv
     have hb := (opr_sat hS.s hv).1
     simp only [SV.den] at hb
     exact wp_cond_split hb (fun e => ihx (h.1 e) W0 Fr ρ0 ρ a w Q hS hN hρ hK) (fun e => ihy (h.2 e) W0 Fr ρ0 ρ a w Q hS hN hρ hK)
   · exact h.elim
 | block id x ih =>
   intro B S K h
   exact Wp.block (ih h)
 | exit id => intro B S K h; exact Wp.run hG h
 | ret => intro B S K h; exact Wp.run hG h
 | loop x ih =>
   intro B S K h
   have hfam : ∀ J : LFam, famP N0 (fun B' S' K' => runB G N0 A x (joinA B' B) S' K') S K J → Wp P N0 (.loop x) S K := by
     intro J h
     obtain ⟨⟨i0, h0, hf⟩, hr⟩ := h
     refine Wp.loop (ι := { i : J.f.ι // J.f.inv i }) (fun i => J.f.I i.1) (fun i => J.f.μ i.1) ⟨i0, h0⟩ (fitsP_spec hf) fun i => ?_
     refine Wp.mono (ih (hr i.1 i.2)) fun e S' h' => ?_
     cases e with
     | normal =>
       obtain ⟨i', h1, h2, h3⟩ := h'
       exact ⟨⟨i', h1⟩, h2, fitsP_spec h3⟩
     | exit id => exact h'
     | ret => exact h'
   have hunr : ∀ l : List Fam, (unrIn N0 S l ∧ unrP N0 (fun S' K' => runB G N0 A x B S' K') K l) → Wp P N0 (.loop x) S K := by
     intro l h
     obtain ⟨h0, h1⟩ := h
     have key : ∀ (l : List Fam), unrP N0 (fun S' K' => runB G N0 A x B S' K') K l → ∀ (k : Nat) (J : Fam), l[k]? = some J → ∀ i, J.inv i → Wp P N0 x (J.I i) (fun e S' => match e with
         | .normal => ∃ J' : Fam, l[k + 1]? = some J' ∧ ∃ i', J'.inv i' ∧ fitsP N0 S' (J'.I i')
         | e => K e S') := by
       intro l
       induction l with
       | nil => intro _ k J hk; simp at hk
       | cons J0 r ihl =>
         intro hu k J hk i hi
         obtain ⟨hu1, hu2⟩ := hu
         cases k with
         | zero =>
           simp only [List.getElem?_cons_zero, Option.some.injEq] at hk
           subst hk
           refine Wp.mono (ih (hu1 i hi)) fun e S' h' => ?_
           cases e with
           | normal =>
             cases r with
             | nil => exact (h' : False).elim
             | cons J1 r1 => exact ⟨J1, rfl, h'⟩
           | exit id => exact h'
           | ret => exact h'
         | succ k =>
           simp only [List.getElem?_cons_succ] at hk
           refine Wp.mono (ihl hu2 k J hk i hi) fun e S' h' => ?_
           cases e with
           | normal =>
             obtain ⟨J', h2, h3⟩ := h'
             exact ⟨J', by simpa using h2, h3⟩
           | exit id => exact h'
           | ret => exact h'
     cases l with
     | nil => exact (h0 : False).elim
     | cons J0 r =>
       obtain ⟨i0, hi0, hf⟩ := h0
       refine Wp.loop (ι := { q : (Σ k : Fin (J0 :: r).length, ((J0 :: r).get k).ι) // ((J0 :: r).get q.1).inv q.2 }) (fun q => ((J0 :: r).get q.1.1).I q.1.2) (fun q => (J0 :: r).length - q.1.1.val) ⟨⟨⟨0, Nat.succ_pos _⟩, i0⟩, hi0⟩ (fitsP_spec hf) fun q => ?_
       obtain ⟨⟨⟨k, hk⟩, i⟩, hi⟩ := q
       refine Wp.mono (key _ h1 k _ (List.getElem?_eq_getElem hk) i hi) fun e S' h' => ?_
       cases e with
       | normal =>
         obtain ⟨J', h2, i', h3, h4⟩ := h'
         obtain ⟨hlt, h5⟩ := List.getElem?_eq_some_iff.1 h2
         subst h5
         exact ⟨⟨⟨⟨k + 1, hlt⟩, i'⟩, h3⟩, by show (J0 :: r).length - (k + 1) < (J0 :: r).length - k; omega, fitsP_spec h4⟩
       | exit id => exact h'
       | ret => exact h'
   unfold runB at h
   split at h
   · split at h
     · exact h.elim
     · rename_i J hJ
       exact hfam ⟨J, fun _ => []⟩ h
   · rename_i l hl
     exact hunr l h
   · rename_i f hf
     exact hunr (f S) h
   · rename_i n hn
     exact Wp.iter (fun S K => ih) n S h
   · rename_i J hJ
     exact hfam J h
   · rename_i l hl
     have : ∀ l : List LFam, altP N0 (fun B' S' K' => runB G N0 A x (joinA B' B) S' K') S K l → Wp P N0 (.loop x) S K := by
       intro l
       induction l with
       | nil => intro h; exact (h : False).elim
       | cons J r ihl =>
         intro h
         rcases h with h | h
         · exact hfam J h
         · exact ihl h
     exact this l h
 | _ => intro B S K h; exact (h : False).elim
theorem runA_sound (hG : CtxOk P G) {N0 : Nat} {A : LAnn} {B : Ann} (c : Code) {S : St} {K : Xt → St → Prop} (h : runA G N0 A B c S K) : Wp P N0 c S K := runB_sound hG c h
end
def postP (k : Nat) (hc : HC) (S : St) (v : SV) : Prop :=
 okFlag (hc.val.und (k + 12) && distN (images (tauSig k (autoTau k hc S v)) (hc.wr ++ hc.news)))
   (eqvR (tauSig k (autoTau k hc S v)) v hc.val ∧ heapP (tauSig k (autoTau k hc S v)) S.H (k + 12) (hc.wr ++ hc.news))
theorem postP_spec {k : Nat} {hc : HC} {S : St} {v : SV} (h : postP k hc S v) : ∃ tau, PostOk k hc S v tau := by
 obtain ⟨h1, h2, h3⟩ := okFlag_iff h
 simp only [Bool.and_eq_true] at h1
 exact ⟨_, h2, h1.1, heapP_spec h3, h1.2⟩
theorem endK_mono {T : Tys} {rs : List ResultVar} {K K' : St → SV → Prop} (h : ∀ S v, K S v → K' S v) {e : Xt} {S : St} (hk : endK T rs K e S) : endK T rs K' e S := by
 have key : retK T rs K S → retK T rs K' S := by
   intro hr
   unfold retK at hr ⊢
   split at hr
   · rename_i vs p hvs
     cases p with
     | none => exact h _ _ hr
     | some p => exact ⟨hr.1, h _ _ hr.2⟩
   · exact hr.elim
 cases e with
 | normal => exact key hk
 | ret => exact key hk
 | exit id => exact hk.elim
theorem body_codeOf {fn : Func} (hb : fn.body.isNone = false) : fn.body = some (codeOf fn) := by
 unfold codeOf
 cases h : fn.body with
 | none => rw [h] at hb; cases hb
 | some c => rfl
theorem pure_of_vc {P : Program} {G : Ctx} (hG : CtxOk P G) {f : Nat} {fn : Func} (hf : P.funcs[f]? = some fn) (hb : fn.body.isNone = false) (hnm : (fn.name == "runtime.NumGoroutine") = false) {F : PF}
   (h : ∀ args v p, F args = some (v, p) → okP p → (v.closed && (closedL args && Nat.ble args.length fn.ntmps)) = true ∧
     ∃ A B, runA G 0 A B (codeOf fn) (init fn.ntmps args [] 0) (endK G.E.T fn.results.toList fun _ v' => eqv v' v)) : PureOk P f F :=
 pure_of_wp hG hf (body_codeOf hb) hnm fun args v p hF hp => by
   obtain ⟨h1, A, B, h2⟩ := h args v p hF hp
   simp only [Bool.and_eq_true] at h1
   exact ⟨h1.1, h1.2.1, h1.2.2, runA_sound hG _ h2⟩
def preP (σ : Sig) (N : Nat) : Nat → List (Nm × Ob) → Heap → Prop
 | _, [], [] => True
 | i, (_, o) :: r, (j, o') :: r' => okFlag (Nat.beq i j) (o'.c.undP N ∧ obR σ o o' ∧ preP σ N (i + 1) r r')
 | _, _, _ => False
theorem preP_spec {σ : Sig} {N : Nat} : ∀ {i : Nat} {r : List (Nm × Ob)} {h : Heap}, preP σ N i r h → preR σ N i r h
 | _, [], [], _ => trivial
 | i, (_, o) :: r, (j, o') :: r', h => by
   obtain ⟨h1, h2, h3, h4⟩ := okFlag_iff h
   exact ⟨h1, Cont.undP_spec h2, h3, preP_spec h4⟩
 | _, [], _ :: _, h => h.elim
 | _, _ :: _, [], h => h.elim
def callP (fn : Func) (args : List SV) (acc : List (Nm × Ob)) (hc : HC) : Prop :=
 okFlag (undL acc.length hc.args && (Nat.ble hc.args.length fn.ntmps && (keysLt acc.length hc.heap hc.wr && (keysGe acc.length hc.news && rwIn hc.wr hc.heap))))
   (eqvRL (sgSig (fsts acc)) args hc.args ∧ preP (sgSig (fsts acc)) acc.length 0 acc hc.heap)
theorem con_of_vc {P : Program} {G : Ctx} (hG : CtxOk P G) {f : Nat} {fn : Func} (hf : P.funcs[f]? = some fn) (hb : fn.body.isNone = false) (hnm : (fn.name == "runtime.NumGoroutine") = false) {C : List SV → RdM}
   (h : ∀ args, (C args).All (fun acc hc => okP hc.obl → callP fn args acc hc ∧
     ∃ A B, runA G acc.length A B (codeOf fn) (init fn.ntmps hc.args hc.heap acc.length) (endK G.E.T fn.results.toList fun S v => postP acc.length hc S v)) []) : ConOk P f (conR C) :=
 conR_okW hG hf (body_codeOf hb) hnm fun args => (h args).imp fun acc hc hk ho => by
   obtain ⟨h1, A, B, h2⟩ := hk ho
   obtain ⟨h3, h4, h5⟩ := okFlag_iff h1
   simp only [Bool.and_eq_true] at h3
   exact ⟨h4, h3.1, h3.2.1, preP_spec h5, h3.2.2.1, h3.2.2.2.1, h3.2.2.2.2, Wp.mono (runA_sound hG _ h2) fun e S' hk' => endK_mono (fun _ _ => postP_spec) hk'⟩
theorem okFlag_mk {b : Bool} {p : Prop} (h : b = true) (hp : p) : okFlag b p := by subst h; exact hp
theorem toB_eqvR {σ : Sig} {v : SV} {b : Bool} (h : v.toB = some b) : eqvR σ v (.bool b) := by
 cases v <;> simp_all [SV.toB, eqvR]
end Go.Sx

namespace Go.Sx
open Go.RowKit
section
variable {P : Program}
theorem hasK_len : ∀ {n : List Bool} {xs : List SV}, hasK n xs = true → xs.length = n.length
 | [], [], _ => rfl
 | [], _ :: _, h => by simp [hasK] at h
 | _ :: _, [], h => by simp [hasK] at h
 | k :: ks, v :: r, h => by
   unfold hasK at h
   split at h
   · simp only [Bool.and_eq_true] at h
     simp [hasK_len h.2]
   · simp only [Bool.and_eq_true] at h
     simp [hasK_len h.2]
   · cases h
theorem hasK_append : ∀ {n m : List Bool} {xs : List SV}, hasK (n ++ m) xs = true → ∃ a b, xs = a ++ b ∧ hasK n a = true ∧ hasK m b = true
 | [], m, xs, h => ⟨[], xs, rfl, rfl, h⟩
 | k :: n, m, [], h => by simp [hasK] at h
 | k :: n, m, v :: r, h => by
   unfold hasK at h
   simp only [List.cons_append] at h
   split at h
   · simp only [Bool.and_eq_true] at h
     obtain ⟨a, b, rfl, h1, h2⟩ := hasK_append h.2
     exact ⟨_ :: a, b, rfl, by simp [hasK, h.1, h1], h2⟩
   · simp only [Bool.and_eq_true] at h
     obtain ⟨a, b, rfl, h1, h2⟩ := hasK_append h.2
     refine ⟨_ :: a, b, rfl, ?_, h2⟩
     have := h.1
     simp at this
     simp [hasK, this, h1]
   · cases h
theorem lEq_append : ∀ {a b ys : List SV} {r : Bool}, lEq (a ++ b) ys = some r → ∃ c d r0 r1, ys = c ++ d ∧ lEq a c = some r0 ∧ lEq b d = some r1 ∧ r = (r0 && r1)
 | [], b, ys, r, h => ⟨[], ys, true, r, rfl, by simp [lEq], h, by simp⟩
 | x :: a, b, ys, r, h => by
   obtain ⟨y, ys', b0, b1, rfl, h1, h2, rfl⟩ := lEq_cons h
   obtain ⟨c, d, r0, r1, rfl, h3, h4, rfl⟩ := lEq_append h2
   exact ⟨y :: c, d, b0 && r0, r1, rfl, by simp [lEq, h1, h3], h4, by simp [Bool.and_assoc]⟩
theorem lEq_len : ∀ {a c : List SV} {r : Bool}, lEq a c = some r → c.length = a.length
 | [], c, r, h => by obtain ⟨rfl, _⟩ := lEq_nil h; rfl
 | x :: a, c, r, h => by
   obtain ⟨y, ys', b0, b1, rfl, h1, h2, rfl⟩ := lEq_cons h
   simp [lEq_len h2]
theorem getN_mid : ∀ (x pre post : List SV), Cont.getN (.cells (pre ++ x ++ post)) pre.length x.length = some x
 | [], _, _ => by simp [Cont.getN]
 | v :: x, pre, post => by
   simp only [List.length_cons, Cont.getN, Cont.get, getL_eq]
   have h1 : (pre ++ v :: x ++ post)[pre.length]? = some v := by simp
   rw [h1]
   have h2 := getN_mid x (pre ++ [v]) post
   simp only [List.length_append, List.length_cons, List.length_nil, Nat.zero_add, List.append_assoc, List.cons_append, List.nil_append] at h2
   simp only [List.append_assoc, List.cons_append]
   rw [h2]
theorem part_mid {T : Tys} (hT : TysOk P T) {e : Nat} {te : TI} (ht : ty T e = some te) (ha : te.isAgg = true) {pre x post : List SV} (hs : te.size = x.length) (ρ : Rho) (w : World) :
   (part e (denL ρ (pre ++ x ++ post)).toArray pre.length).run P w = .ok (.agg (denL ρ x).toArray) w := by
 have := (evPart_sound (U := fun _ => True) hT (cs := pre ++ x ++ post) (by rw [bdL_iff]; exact fun v _ => SV.bd_all v) (e := e) (o := pre.length) (v := .agg x)
   (by simp only [evPart, ht, ha, cut, hs]; rw [getN_mid]) ρ w).1
 simpa [SV.den] using this
theorem fe_array2 {T : Tys} (hT : TysOk P T) {t e : Nat} {te : TI} {n : List Bool} {D : Nat} (hu : P.underlying t = some (.array 2 e)) (ht : ty T e = some te) (ha : te.isAgg = true) (hs : te.size = n.length)
   (he : FE P e n D) : FE P t (n ++ n) (D + 1) := by
 intro d xs ys b hx h ρ w
 obtain ⟨a, c, rfl, h1, h2⟩ := hasK_append hx
 obtain ⟨a', c', r0, r1, rfl, h3, h4, rfl⟩ := lEq_append h
 obtain ⟨i, hi, hsz, _⟩ := (hT e te ht).run_info
 have hc : P.cellsOf e = te.size := by simp [Program.cellsOf, hi, hsz]
 have la := hasK_len h1
 have lc := hasK_len h2
 have la' := lEq_len h3
 have lc' := lEq_len h4
 rw [show d + (D + 1) = (d + D) + 1 from rfl, run_equalIn_array w (d + D) _ _ hu hi, hc]
 have p0 := part_mid hT ht ha (pre := []) (x := a) (post := c) (by omega) ρ w
 have p1 := part_mid hT ht ha (pre := []) (x := a') (post := c') (by omega) ρ w
 have p2 := part_mid hT ht ha (pre := a) (x := c) (post := []) (by omega) ρ w
 have p3 := part_mid hT ht ha (pre := a') (x := c') (post := []) (by omega) ρ w
 simp only [List.nil_append, List.append_nil, List.length_nil] at p0 p1 p2 p3
 rw [show a.length = te.size by omega] at p2
 rw [show a'.length = te.size by omega] at p3
 have hr : List.range 2 = [0, 1] := rfl
 simp only [hr, Op.eqItems, Sem.run_bind, Nat.zero_mul, p0, p1, Result.andThen_ok, he d a a' r0 h1 h3 ρ w]
 cases r0
 · simp
 · simp only [Bool.not_true, Bool.false_eq_true, if_false, Sem.run_bind, Nat.one_mul, p2, p3, Result.andThen_ok, he d c c' r1 h2 h4 ρ w]
   cases r1 <;> simp
end
end Go.Sx

namespace Go.Proofs.Tryz.Sx
open Go Go.Sx Go.Proofs
set_option maxRecDepth 100000
def G0 : Ctx := ⟨⟨tys, []⟩, []⟩
theorem g0 : CtxOk Tryz.prog G0 := ⟨⟨tysOk, FlatsOk.nil⟩, GamOk.nil, by kernel_rfl⟩
theorem more_two {i : Nat} {g : Nat → Int} {x y : Int} (hx : x = g (2 * i)) (hy : y = g (2 * i + 1)) : ∀ j, j < 2 * (i + 1) → more (2 * i) g [x, y] 0 j = g j := by
 intro j hj
 subst hx hy
 unfold more
 split
 · rfl
 · have : j = 2 * i ∨ j = 2 * i + 1 := by omega
   rcases this with rfl | rfl <;> simp
end Go.Proofs.Tryz.Sx

namespace Go.Proofs.Tryz.Sx
open Go Go.Sx Go.Proofs Go.Fl Go.Geo
set_option maxRecDepth 100000
def small (n : Int) : Prop := -1048576 ≤ n ∧ n ≤ 1048576
instance (n : Int) : Decidable (small n) := by unfold small; infer_instance
def geoAll (m : Nat) (g : Nat → Int) : Bool := decide (∀ i, i < m → small (g i))
def isGeoI (len : Nat) (g : Nat → Int) (i : Nat) : St :=
 ⟨30, [(5, .slcc 0 len), (6, .int .i64 len), (7, .int .i64 i)], [(0, ⟨false, 28, .ints .i64 (2 * len) g, 0⟩)], 1⟩
theorem isGeo_run (len : Nat) (g : Nat → Int) (hlen : len ≤ 1000000) (K : St → SV → Prop) (hK : ∀ S, K S (.bool (geoAll (2 * len) g))) (hK1 : geoAll (2 * len) g = true → ∀ S, K S .tt) (hK0 : geoAll (2 * len) g = false → ∀ S, K S .ff) :
 runC G0 1 (codeOf Tryz.f19) (init 30 [.slcc 0 len] [(0, ⟨false, 28, .ints .i64 (2 * len) g, 0⟩)] 1) (endK G0.E.T Tryz.f19.results.toList K) := by
 apply LoopOk.mk
 refine ⟨{ i : Nat // i ≤ len ∧ ∀ j, j < 2 * i → small (g j) }, fun i => isGeoI len g i.1, fun i => len - i.1, ⟨0, Nat.zero_le _, fun j hj => by omega⟩, ?_, ?_⟩
 · refine Refines.by_names [] ⟨rfl, rfl, rfl, rfl, ?_, ?_⟩
   · exact ⟨⟨rfl, trivial, rfl⟩, ⟨rfl, rfl⟩, ⟨rfl, rfl⟩, trivial⟩
   · exact ⟨⟨rfl, trivial, Nat.le_refl _, fun _ _ => rfl⟩, trivial⟩
 · rintro ⟨i, hi, hs⟩
   have bad : ∀ j, j < 2 * len → ¬ small (g j) → geoAll (2 * len) g = false := fun j hj hb => decide_eq_false (fun h => hb (h j hj))
   refine And.intro ?_ ?_
   · intro h
     have h : (i : Int) < len := of_decide_eq_true h
     have h0 : 0 + ((i : Int)).toNat * 2 = 2 * i := by omega
     refine And.intro (And.intro (And.intro (Int.natCast_nonneg _) h) (show 0 < 2 * len by omega)) ?_
     refine And.intro (show 0 + ((i : Int)).toNat * 2 + 2 ≤ 2 * len by omega) ?_
     have b0 := bad (2 * i) (by omega)
     have b1 := bad (2 * i + 1) (by omega)
     refine And.intro ?_ ?_
     · intro h1
       have h1 : g (0 + ((i : Int)).toNat * 2) < -1048576 := of_decide_eq_true h1
       rw [h0] at h1
       exact hK0 (b0 (fun hh => by unfold small at hh; omega)) _
     · intro h1
       have h1 : ¬ g (0 + ((i : Int)).toNat * 2) < -1048576 := of_decide_eq_false h1
       refine And.intro ?_ ?_
       · intro h2
         have h2 : 1048576 < g (0 + ((i : Int)).toNat * 2) := of_decide_eq_true h2
         rw [h0] at h2
         exact hK0 (b0 (fun hh => by unfold small at hh; omega)) _
       · intro h2
         have h2 : ¬ 1048576 < g (0 + ((i : Int)).toNat * 2) := of_decide_eq_false h2
         refine And.intro ?_ ?_
         · intro h3
           have h3 : g (0 + ((i : Int)).toNat * 2 + 1) < -1048576 := of_decide_eq_true h3
           rw [h0] at h3
           exact hK0 (b1 (fun hh => by unfold small at hh; omega)) _
         · intro h3
           have h3 : ¬ g (0 + ((i : Int)).toNat * 2 + 1) < -1048576 := of_decide_eq_false h3
           refine And.intro ?_ ?_
           · intro h4
             have h4 : 1048576 < g (0 + ((i : Int)).toNat * 2 + 1) := of_decide_eq_true h4
             rw [h0] at h4
             exact hK0 (b1 (fun hh => by unfold small at hh; omega)) _
           · intro h4
             have h4 : ¬ 1048576 < g (0 + ((i : Int)).toNat * 2 + 1) := of_decide_eq_false h4
             rw [h0] at h1 h2 h3 h4
             refine ⟨⟨i + 1, by omega, fun j hj => ?_⟩, by show len - (i + 1) < len - i; omega, Refines.by_names [] ⟨rfl, rfl, rfl, rfl, ?_, ?_⟩⟩
             · have : j < 2 * i ∨ j = 2 * i ∨ j = 2 * i + 1 := by omega
               rcases this with h | rfl | rfl
               · exact hs j h
               · unfold small; omega
               · unfold small; omega
             · refine ⟨⟨rfl, trivial, rfl⟩, ⟨rfl, rfl⟩, ⟨rfl, ?_⟩, trivial⟩
               show IntKind.i64.wrap ((i : Int) + 1) = ((i + 1 : Nat) : Int)
               rw [wrap64 (by omega) (by omega)]; omega
             · exact ⟨⟨rfl, trivial, Nat.le_refl _, fun _ _ => rfl⟩, trivial⟩
   · intro h
     have h : ¬ ((i : Int) < len) := of_decide_eq_false h
     have : i = len := by omega
     subst this
     exact hK1 (decide_eq_true hs) _
def isGeoC : List SV → RdM
 | [.slcc n len] => .read n fun o => match intsFrom .i64 o.c with
   | some (m, g) => .ret ⟨[.slcc 0 len], [(0, ⟨false, 28, .ints .i64 m g, 0⟩)], .bool (geoAll m g), [], [], some (m = 2 * len ∧ len ≤ 1000000)⟩
   | none => .fail
 | _ => .fail
theorem isGeo : ConOk Tryz.prog 19 (conR isGeoC) := by
 refine conR_ok g0 Tryz.func19 rfl (by kernel_rfl) fun args => ?_
 unfold isGeoC
 split
 · rename_i n len
   intro o
   show RdM.All _ (match intsFrom .i64 o.c with | some (m, g) => _ | none => _) _
   split
   · rename_i m g hm
     rintro ⟨h1, h2⟩
     subst h1
     refine ⟨?_, rfl, rfl, ?_, rfl, rfl, rfl, ?_⟩
     · exact ⟨⟨sameN_self, rfl⟩, trivial⟩
     · exact ⟨rfl, trivial, (contR_ints hm).1, trivial⟩
     · exact isGeo_run len g h2 _ (fun S => ⟨[], rfl, rfl, trivial, rfl⟩) (fun h S => ⟨[], h, rfl, trivial, rfl⟩) (fun h S => ⟨[], h, rfl, trivial, rfl⟩)
   · trivial
 · trivial
theorem mul_bound {x y : Int} {m n : Nat} (hx : x.natAbs ≤ m) (hy : y.natAbs ≤ n) : -((m * n : Nat) : Int) ≤ x * y ∧ x * y ≤ ((m * n : Nat) : Int) := by
 have := Nat.mul_le_mul hx hy
 rw [← Int.natAbs_mul] at this
 omega
def ptF : PF := fun
 | [.agg [.int .i64 x, .int .i64 y]] => some (.agg [.flt .f64 (ofI .f64 x), .flt .f64 (ofI .f64 y)], none)
 | _ => none
theorem pt : PureOk Tryz.prog 75 ptF := by
 refine pure_of_run g0 Tryz.func75 rfl (by kernel_rfl) ?_
 intro args v p h hp
 unfold ptF at h
 split at h
 · injection h with h; injection h with h1 h2; subst h1; subst h2
   refine ⟨rfl, rfl, rfl, ?_⟩
   exact ⟨rfl, rfl, trivial⟩
 · cases h
noncomputable def wh (x : Nat) : Int := V x / 2 ^ U1
theorem wh_FI {x : Nat} {n : Int} (h : FI x n) : wh x = n := by
 unfold wh
 rw [h.2]
 exact Int.mul_ediv_cancel _ (Int.ne_of_gt (pow_pos' U1))
noncomputable def rayF : PF := fun
 | [.agg [.flt .f64 ax, .flt .f64 ay, .flt .f64 bx, .flt .f64 by'], .agg [.flt .f64 px, .flt .f64 py]] =>
   some (.agg [.bool (decide (¬ On (wh ax) (wh ay) (wh bx) (wh by') (wh px) (wh py) ∧ Lft (wh ax) (wh ay) (wh bx) (wh by') (wh px) (wh py))), .bool (decide (On (wh ax) (wh ay) (wh bx) (wh by') (wh px) (wh py)))],
     some (Pts ax ay bx by' px py (wh ax) (wh ay) (wh bx) (wh by') (wh px) (wh py)))
 | _ => none
theorem ray : PureOk Tryz.prog 90 rayF := by
 refine pure_of_wp gR Tryz.func90 (c := c0) rfl (by kernel_rfl) ?_
 intro args v p h hp
 unfold rayF at h
 split at h
 · injection h with h; injection h with h1 h2; subst h1; subst h2
   exact ⟨rfl, rfl, rfl, whole hp⟩
 · cases h
theorem wh_of {n : Int} (h : small n) : wh (ofI .f64 n) = n := wh_FI (FI_ofInt (by unfold small at h; omega))
end Go.Proofs.Tryz.Sx

namespace Go.Fl
open Go.Sx Ieee
theorem zero_cut (neg : Bool) (n drop : Nat) : Toward.zero.cut neg n drop = n / 2 ^ drop := by
 unfold Toward.cut
 simp only [Nat.shiftLeft_eq, Nat.one_mul, Bool.toNat_false, Nat.add_zero]
 by_cases hd : drop ≤ n.log2 + 2
 · rw [Nat.min_eq_left hd]
 · rw [Nat.min_eq_right (by omega)]
   have h1 : n < 2 ^ (n.log2 + 1) := Nat.lt_log2_self
   have h2 : 2 ^ (n.log2 + 1) ≤ 2 ^ (n.log2 + 2) := Nat.pow_le_pow_right (by decide) (by omega)
   have h3 : 2 ^ (n.log2 + 2) ≤ 2 ^ drop := Nat.pow_le_pow_right (by decide) (by omega)
   rw [Nat.div_eq_of_lt (by omega), Nat.div_eq_of_lt (by omega)]
theorem signed_inj {s : Bool} {m u : Nat} {n : Int} (h : signed s m u = n * 2 ^ u) : signed s m 0 = n := by
 have e : signed s m u = signed s m 0 * 2 ^ u := by
   have := signed_add s m 0 u
   rw [Nat.zero_add] at this; exact this
 rw [e] at h
 exact Int.eq_of_mul_eq_mul_right (Int.ne_of_gt (pow_pos' u)) h
theorem toI_FI {x : Nat} {n : Int} (h : FI x n) (hn : n.natAbs < 2 ^ 63) : toIok .f64 x .i64 ∧ toI .f64 x .i64 = n := by
 have key : floatToIntVal .f64 x .i64 = some n := by
   obtain ⟨s, m, i, h1, h2, h3, _⟩ := read_fin h.1
   rw [h.2] at h3
   have hU : U1 = 1074 := rfl
   have hv : (Datum.number s m i).toInt .zero = some n := by
     unfold Datum.toInt Datum.integral
     simp only
     congr 1
     rw [zero_cut, Nat.shiftLeft_eq]
     by_cases hi : 0 ≤ i
     · have e1 : (-i).toNat = 0 := by omega
       rw [e1, Nat.pow_zero, Nat.div_one]
       apply signed_inj (u := U1)
       have e2 : (i + 1074).toNat = i.toNat + U1 := by rw [hU]; omega
       rw [e2] at h3
       rw [← h3, signed_mag, signed_mag, Nat.pow_add, Nat.mul_assoc]
     · have e1 : i.toNat = 0 := by omega
       rw [e1, Nat.pow_zero, Nat.mul_one]
       have hm : m = n.natAbs * 2 ^ (-i).toNat := by
         have := congrArg Int.natAbs h3
         rw [signed_mag] at this
         have e2 : U1 = (-i).toNat + (i + 1074).toNat := by rw [hU]; omega
         have h5 : m * 2 ^ (i + 1074).toNat = n.natAbs * 2 ^ U1 := by
           rw [Int.natAbs_mul] at this
           rw [natAbs_pow2] at this
           rw [← this]
           cases s
           · exact (Int.natAbs_natCast _).symm
           · exact ((Int.natAbs_neg _).trans (Int.natAbs_natCast _)).symm
         rw [e2, Nat.pow_add, ← Nat.mul_assoc] at h5
         exact Nat.eq_of_mul_eq_mul_right (Nat.two_pow_pos _) h5
       rw [hm, Nat.mul_div_cancel _ (Nat.two_pow_pos _)]
       rw [hm] at h3
       apply signed_inj (u := U1)
       rw [← h3, signed_mag, signed_mag]
       have e2 : U1 = (-i).toNat + (i + 1074).toNat := by rw [hU]; omega
       rw [e2, Nat.pow_add, ← Nat.mul_assoc]
   unfold floatToIntVal
   have hd : FloatKind.f64.decode x = .number s m i := h1
   rw [hd, hv]
   simp only
   rw [if_pos]
   have e1 : IntKind.i64.min = -9223372036854775808 := by decide
   have e2 : IntKind.i64.max = 9223372036854775807 := by decide
   rw [e1, e2]
   omega
 unfold toIok toI
 rw [key]
 exact ⟨rfl, rfl⟩
def U0 : Nat := 1000
theorem U0_lt : U0 + 1 ≤ U1 := by decide
theorem place_lo' {m : Nat} {i : Int} (hi : -1074 ≤ i) (hm : m < 2 ^ 53) (h : 2 ^ U0 ≤ m * 2 ^ (i + 1074).toNat) : -128 < i := by
 rcases Int.lt_or_le (-128) i with h1 | h1
 · exact h1
 · exfalso
   obtain ⟨c, hc⟩ : ∃ c : Nat, c = 946 := ⟨_, rfl⟩
   have hd : U0 = 1000 := rfl
   have h2 : (i + 1074).toNat ≤ c := by omega
   have h3 : m * 2 ^ (i + 1074).toNat < 2 ^ 53 * 2 ^ c := by
     apply Nat.lt_of_lt_of_le (Nat.mul_lt_mul_of_pos_right hm (Nat.two_pow_pos _))
     exact Nat.mul_le_mul_left _ (Nat.pow_le_pow_right (by decide) h2)
   rw [← Nat.pow_add] at h3
   have h4 : 2 ^ (53 + c) ≤ 2 ^ U0 := Nat.pow_le_pow_right (by decide) (by omega)
   exact absurd (Nat.lt_of_lt_of_le h3 h4) (Nat.not_lt.2 h)
theorem sign_of {s : Bool} {m u : Nat} {v : Int} (h : signed s m u = v) (hv : v ≠ 0) : s = decide (v < 0) := by
 rw [signed_mag] at h
 cases s
 · simp only [Bool.false_eq_true, if_false] at h
   exact (decide_eq_false (by omega)).symm
 · simp only [if_true] at h
   exact (decide_eq_true (by omega)).symm
theorem mag_of {s : Bool} {m u : Nat} {v : Int} (h : signed s m u = v) : m * 2 ^ u = v.natAbs := by
 rw [← h, signed_mag]
 cases s
 · exact (Int.natAbs_natCast _).symm
 · exact ((Int.natAbs_neg _).trans (Int.natAbs_natCast _)).symm
def Big (v : Int) : Prop := v = 0 ∨ 2 ^ U0 ≤ v.natAbs
theorem big_FI {x : Nat} {n : Int} (h : FI x n) : Big (V x) := by
 unfold Big
 by_cases hn : n = 0
 · left; rw [h.2, hn, Int.zero_mul]
 · right
   rw [h.2, Int.natAbs_mul, natAbs_pow2]
   have h1 : 1 * 2 ^ U1 ≤ n.natAbs * 2 ^ U1 := Nat.mul_le_mul_right _ (by omega)
   rw [Nat.one_mul] at h1
   exact Nat.le_trans (Nat.pow_le_pow_right (by decide) (Nat.le_of_succ_le U0_lt)) h1
theorem mul_read {x y : Nat} (hx : Fin x) (hy : Fin y) (bx : Big (V x)) (by' : Big (V y)) (h0 : V x ≠ 0) (h1 : V y ≠ 0) :
   ∃ mag place, double.mul x y = some (double.nearest (decide (V x < 0) ^^ decide (V y < 0)) mag place) ∧ mag ≠ 0 ∧ -1074 ≤ place ∧ mag * 2 ^ (place + 1074).toNat * 2 ^ U1 = (V x).natAbs * (V y).natAbs := by
 obtain ⟨s, m, i, r1, r2, r3, r4⟩ := read_fin hx
 obtain ⟨t, n, j, q1, q2, q3, q4⟩ := read_fin hy
 have hm := mag_of r3
 have hn := mag_of q3
 have hi := place_lo' r2 r4 (by rw [hm]; rcases bx with h | h; exact absurd h h0; exact h)
 have hj := place_lo' q2 q4 (by rw [hn]; rcases by' with h | h; exact absurd h h1; exact h)
 have hm0 : m ≠ 0 := fun e => by rw [e, Nat.zero_mul] at hm; omega
 have hn0 : n ≠ 0 := fun e => by rw [e, Nat.zero_mul] at hn; omega
 refine ⟨m * n, i + j, ?_, Nat.mul_ne_zero hm0 hn0, by omega, ?_⟩
 · unfold Format.mul
   rw [r1, q1, ← sign_of r3 h0, ← sign_of q3 h1]; rfl
 · have hU : U1 = 1074 := rfl
   have e1 : (i + 1074).toNat + (j + 1074).toNat = (i + j + 1074).toNat + U1 := by rw [hU]; omega
   calc (m * n * 2 ^ (i + j + 1074).toNat) * 2 ^ U1 = m * n * 2 ^ ((i + j + 1074).toNat + U1) := by rw [Nat.pow_add, Nat.mul_assoc]
     _ = m * n * 2 ^ ((i + 1074).toNat + (j + 1074).toNat) := by rw [e1]
     _ = (m * 2 ^ (i + 1074).toNat) * (n * 2 ^ (j + 1074).toNat) := by rw [Nat.pow_add]; ac_rfl
     _ = _ := by rw [hm, hn]
theorem mul_zero' {x y : Nat} (hx : Fin x) (hy : Fin y) (h : V x = 0 ∨ V y = 0) : ∃ r, double.mul x y = some r ∧ FI r 0 := by
 obtain ⟨s, m, i, r1, r2, r3, r4⟩ := read_fin hx
 obtain ⟨t, n, j, q1, q2, q3, q4⟩ := read_fin hy
 have hm := mag_of r3
 have hn := mag_of q3
 refine ⟨double.nearest (s ^^ t) (m * n) (i + j), by unfold Format.mul; rw [r1, q1]; rfl, ?_⟩
 have : m * n = 0 := by
   rcases h with h | h
   · rw [h] at hm
     rcases Nat.mul_eq_zero.1 hm with h8 | h8
     · rw [h8, Nat.zero_mul]
     · exact absurd h8 (Nat.ne_of_gt (Nat.two_pow_pos _))
   · rw [h] at hn
     rcases Nat.mul_eq_zero.1 hn with h8 | h8
     · rw [h8, Nat.mul_zero]
     · exact absurd h8 (Nat.ne_of_gt (Nat.two_pow_pos _))
 unfold Format.nearest
 rw [if_pos this]
 exact word_zero _
theorem one_FI : FI 4607182418800017408 1 := by
 have h := FI_ofInt (n := 1) (by decide)
 have e : FloatKind.f64.nearest 1 = 4607182418800017408 := by decide
 rw [e] at h; exact h
end Go.Fl

namespace Go.Proofs.Tryz.Sx
open Go Go.Sx Go.Proofs Go.Fl Go.Geo
set_option maxRecDepth 100000
def GP : Ctx := ⟨⟨tys, []⟩, [(75, pureCon ptF)]⟩
theorem gP : CtxOk Tryz.prog GP := ⟨⟨tysOk, FlatsOk.nil⟩, GamOk.cons (.pure pt) GamOk.nil, by kernel_rfl⟩
def mkRectF : PF := fun
 | [.agg [.int .i64 a, .int .i64 b, .int .i64 c, .int .i64 d]] => some (.agg [.flt .f64 (ofI .f64 a), .flt .f64 (ofI .f64 b), .flt .f64 (ofI .f64 c), .flt .f64 (ofI .f64 d)], none)
 | _ => none
theorem vc_mkRect (R : SV → Prop) (a b c d : Int) : runA GP 0 [] [] (codeOf Tryz.f68) (init Tryz.f68.ntmps [.agg [.int .i64 a, .int .i64 b, .int .i64 c, .int .i64 d]] [] 0) (endK GP.E.T Tryz.f68.results.toList fun _ v => R v) = (
(((0 : Int) ≤ 0 ∧ (0 : Int) < 2) ∧ True) ∧ (((0 : Int) ≤ 1 ∧ (1 : Int) < 2) ∧ True) ∧ true = true ∧ R (SV.agg [SV.flt .f64 (ofI .f64 a), SV.flt .f64 (ofI .f64 b), SV.flt .f64 (ofI .f64 c), SV.flt .f64
(ofI .f64 d)])) := by kernel_rfl
theorem mkRect : PureOk Tryz.prog 68 mkRectF := by
 refine pure_of_vc gP Tryz.func68 rfl (by kernel_rfl) ?_
 intro args v p h hp
 unfold mkRectF at h
 split at h
 · rename_i a b c d
   injection h with h; injection h with h1 h2; subst h1; subst h2
   clear hp
   refine ⟨rfl, _, _, (vc_mkRect _ a b c d).mpr ?_⟩
   simp [eqv, eqvL, fkEq_self]
 · cases h
def rHasF : PF := fun
 | [.agg [.flt .f64 a, .flt .f64 b, .flt .f64 c, .flt .f64 d], .agg [.flt .f64 x, .flt .f64 y]] => some (.bool (fGe .f64 x a && fLe .f64 x c && fGe .f64 y b && fLe .f64 y d), none)
 | _ => none
theorem vc_rHas (R : SV → Prop) (a b c d x y : Nat) : runA G0 0 [] [] (codeOf Tryz.f169) (init Tryz.f169.ntmps [.agg [.flt .f64 a, .flt .f64 b, .flt .f64 c, .flt .f64 d], .agg [.flt .f64 x, .flt .f64 y]] [] 0) (endK G0.E.T Tryz.f169.results.toList fun _ v => R v) = (
(fGe .f64 x a = true → (fLe .f64 x c = true → (fGe .f64 y b = true → R (SV.bool (fLe .f64 y d))) ∧ (fGe .f64 y b = false → R SV.ff)) ∧ (fLe .f64 x c = false → R SV.ff)) ∧ (fGe .f64 x a = false → R SV.ff)) := by kernel_rfl
theorem rHas : PureOk Tryz.prog 169 rHasF := by
 refine pure_of_vc g0 Tryz.func169 rfl (by kernel_rfl) ?_
 intro args v p h hp
 unfold rHasF at h
 split at h
 · rename_i a b c d x y
   injection h with h; injection h with h1 h2; subst h1; subst h2
   clear hp
   refine ⟨rfl, _, _, (vc_rHas _ a b c d x y).mpr ?_⟩
   simp only [eqv]
   grind
 · cases h
def rInF : PF := fun
 | [.agg [.flt .f64 a, .flt .f64 b, .flt .f64 c, .flt .f64 d], .agg [.flt .f64 p, .flt .f64 q, .flt .f64 r, .flt .f64 s]] => some (.bool (!(fLt .f64 p a) && !(fGt .f64 r c) && !(fLt .f64 q b) && !(fGt .f64 s d)), none)
 | _ => none
theorem vc_rIn (R : SV → Prop) (a b c d p q r s : Nat) : runA G0 0 [] [] (codeOf Tryz.f191) (init Tryz.f191.ntmps [.agg [.flt .f64 a, .flt .f64 b, .flt .f64 c, .flt .f64 d], .agg [.flt .f64 p, .flt .f64 q, .flt .f64 r, .flt .f64 s]] [] 0) (endK G0.E.T Tryz.f191.results.toList fun _ v => R v) = (
(fLt .f64 p a = true → R SV.ff) ∧ (fLt .f64 p a = false → (fGt .f64 r c = true → R SV.ff) ∧ (fGt .f64 r c = false → (fLt .f64 q b = true → R SV.ff) ∧ (fLt .f64 q b = false → (fGt .f64 s d = true → R SV.ff) ∧
(fGt .f64 s d = false → R SV.tt))))) := by kernel_rfl
theorem rIn : PureOk Tryz.prog 191 rInF := by
 refine pure_of_vc g0 Tryz.func191 rfl (by kernel_rfl) ?_
 intro args v p h hp
 unfold rInF at h
 split at h
 · rename_i a b c d p q r s
   injection h with h; injection h with h1 h2; subst h1; subst h2
   clear hp
   refine ⟨rfl, _, _, (vc_rIn _ a b c d p q r s).mpr ?_⟩
   simp only [eqv]
   grind
 · cases h
def rMeetF : PF := fun
 | [.agg [.flt .f64 a, .flt .f64 b, .flt .f64 c, .flt .f64 d], .agg [.flt .f64 p, .flt .f64 q, .flt .f64 r, .flt .f64 s]] => some (.bool (!(fGt .f64 b s) && !(fLt .f64 d q) && !(fGt .f64 a r) && !(fLt .f64 c p)), none)
 | _ => none
theorem vc_rMeet (R : SV → Prop) (a b c d p q r s : Nat) : runA G0 0 [] [] (codeOf Tryz.f175) (init Tryz.f175.ntmps [.agg [.flt .f64 a, .flt .f64 b, .flt .f64 c, .flt .f64 d], .agg [.flt .f64 p, .flt .f64 q, .flt .f64 r, .flt .f64 s]] [] 0) (endK G0.E.T Tryz.f175.results.toList fun _ v => R v) = (
(fGt .f64 b s = true → R SV.ff) ∧ (fGt .f64 b s = false → (fLt .f64 d q = true → R SV.ff) ∧ (fLt .f64 d q = false → (fGt .f64 a r = true → R SV.ff) ∧ (fGt .f64 a r = false → (fLt .f64 c p = true → R SV.ff) ∧
(fLt .f64 c p = false → R SV.tt))))) := by kernel_rfl
theorem rMeet : PureOk Tryz.prog 175 rMeetF := by
 refine pure_of_vc g0 Tryz.func175 rfl (by kernel_rfl) ?_
 intro args v p h hp
 unfold rMeetF at h
 split at h
 · rename_i a b c d p q r s
   injection h with h; injection h with h1 h2; subst h1; subst h2
   clear hp
   refine ⟨rfl, _, _, (vc_rMeet _ a b c d p q r s).mpr ?_⟩
   simp only [eqv]
   grind
 · cases h
def rEmptyF : PF := fun
 | [.agg [.flt .f64 _, .flt .f64 _, .flt .f64 _, .flt .f64 _]] => some (.ff, none)
 | _ => none
theorem vc_rEmpty (R : SV → Prop) (a b c d : Nat) : runA G0 0 [] [] (codeOf Tryz.f192) (init Tryz.f192.ntmps [.agg [.flt .f64 a, .flt .f64 b, .flt .f64 c, .flt .f64 d]] [] 0) (endK G0.E.T Tryz.f192.results.toList fun _ v => R v) = (
 R SV.ff) := by kernel_rfl
theorem rEmpty : PureOk Tryz.prog 192 rEmptyF := by
 refine pure_of_vc g0 Tryz.func192 rfl (by kernel_rfl) ?_
 intro args v p h hp
 unfold rEmptyF at h
 split at h
 · rename_i a b c d
   injection h with h; injection h with h1 h2; subst h1; subst h2
   clear hp
   refine ⟨rfl, _, _, (vc_rEmpty _ a b c d).mpr ?_⟩
   simp [eqv]
 · cases h
def rNumPF : PF := fun
 | [.agg [.flt .f64 _, .flt .f64 _, .flt .f64 _, .flt .f64 _]] => some (.int .i64 5, none)
 | _ => none
theorem vc_rNumP (R : SV → Prop) (a b c d : Nat) : runA G0 0 [] [] (codeOf Tryz.f196) (init Tryz.f196.ntmps [.agg [.flt .f64 a, .flt .f64 b, .flt .f64 c, .flt .f64 d]] [] 0) (endK G0.E.T Tryz.f196.results.toList fun _ v => R v) = (
 R (SV.int .i64 (5 : Int))) := by kernel_rfl
theorem rNumP : PureOk Tryz.prog 196 rNumPF := by
 refine pure_of_vc g0 Tryz.func196 rfl (by kernel_rfl) ?_
 intro args v p h hp
 unfold rNumPF at h
 split at h
 · rename_i a b c d
   injection h with h; injection h with h1 h2; subst h1; subst h2
   clear hp
   refine ⟨rfl, _, _, (vc_rNumP _ a b c d).mpr ?_⟩
   simp [eqv, kEq_self]
 · cases h
def pvalid (x y : Nat) : Bool := fGe .f64 x 13863909240395005952 && fLe .f64 x 4640537203540230144 && fGe .f64 y 13859405640767635456 && fLe .f64 y 4636033603912859648
def fromPF : PF := fun
 | [.agg [.flt .f64 x, .flt .f64 y]] => some (.agg [.int .i64 (toI .f64 x .i64), .int .i64 (toI .f64 y .i64)], some (toIok .f64 x .i64 ∧ toIok .f64 y .i64))
 | _ => none
theorem vc_fromP (R : SV → Prop) (x y : Nat) : runA G0 0 [] [] (codeOf Tryz.f80) (init Tryz.f80.ntmps [.agg [.flt .f64 x, .flt .f64 y]] [] 0) (endK G0.E.T Tryz.f80.results.toList fun _ v => R v) = (
 toIok .f64 x .i64 ∧ toIok .f64 y .i64 ∧ R (SV.agg [SV.int .i64 (toI .f64 x .i64), SV.int .i64 (toI .f64 y .i64)])) := by kernel_rfl
theorem fromP : PureOk Tryz.prog 80 fromPF := by
 refine pure_of_vc g0 Tryz.func80 rfl (by kernel_rfl) ?_
 intro args v p h hp
 unfold fromPF at h
 split at h
 · rename_i x y
   injection h with h; injection h with h1 h2; subst h1; subst h2
   have hp : toIok .f64 x .i64 ∧ toIok .f64 y .i64 := hp
   refine ⟨rfl, _, _, (vc_fromP _ x y).mpr ?_⟩
   exact ⟨hp.1, hp.2, rfl, rfl, trivial⟩
 · cases h
theorem flat31 : FlatEq Tryz.prog 28 [false, false] :=
 (fe_struct2 tysOk (t := 28) (e0 := 2) (e1 := 2) Tryz.underlying28 (by kernel_rfl) (by decide) (by decide) ⟨rfl, rfl⟩ ⟨rfl, rfl⟩ (by rfl) (by rfl) rfl rfl).flat (by kernel_rfl) (by decide)
theorem fe31 : FE Tryz.prog 28 [false, false] 2 :=
 fe_struct2 tysOk (t := 28) (e0 := 2) (e1 := 2) Tryz.underlying28 (by kernel_rfl) (by decide) (by decide) ⟨rfl, rfl⟩ ⟨rfl, rfl⟩ (by rfl) (by rfl) rfl rfl
theorem flat23 : FlatEq Tryz.prog 23 [false, false] :=
 (fe_struct2 tysOk (t := 23) (e0 := 2) (e1 := 2) Tryz.underlying23 (by kernel_rfl) (by decide) (by decide) ⟨rfl, rfl⟩ ⟨rfl, rfl⟩ (by rfl) (by rfl) rfl rfl).flat (by kernel_rfl) (by decide)
theorem flat34 : FlatEq Tryz.prog 29 [false, false, false, false] :=
 (fe_array2 tysOk (t := 29) (e := 28) Tryz.underlying29 (by rfl) rfl rfl fe31).flat (by kernel_rfl) (by decide)
def FL : Flats := [(28, [false, false]), (23, [false, false]), (29, [false, false, false, false])]
theorem flOk : FlatsOk Tryz.prog FL := FlatsOk.cons flat31 (FlatsOk.cons flat23 (FlatsOk.cons flat34 FlatsOk.nil))
def agree (m : Nat) (g h : Nat → Int) : Prop := ∀ j, j < m → g j = h j
instance (m : Nat) (g h : Nat → Int) : Decidable (agree m g h) := by unfold agree; infer_instance
def nx (len i : Nat) : Nat := if i + 1 = len then 0 else i + 1
def nx2 (len i : Nat) : Nat := if i + 1 = len then 1 else if i + 2 = len then 0 else i + 2
def la (g : Nat → Nat) (k : Nat) : Nat → Nat
 | 0 => 0
 | i + 1 => g (2 * i + k)
def lb (g : Nat → Nat) (len k : Nat) : Nat → Nat
 | 0 => 0
 | i + 1 => g (2 * nx len i + k)
def lc (g : Nat → Nat) (len k : Nat) : Nat → Nat
 | 0 => 0
 | i + 1 => g (2 * nx2 len i + k)
def loStep (i x y : Nat) : Nat := if i = 0 ∨ fLt .f64 x y = true then x else y
def hiStep (i x lo hi : Nat) : Nat := if i = 0 then x else if fLt .f64 x lo = true then hi else if fGt .f64 x hi = true then x else hi
def rlo (g : Nat → Nat) (k : Nat) : Nat → Nat
 | 0 => 0
 | i + 1 => loStep i (g (2 * i + k)) (rlo g k i)
def rhi (g : Nat → Nat) (k : Nat) : Nat → Nat
 | 0 => 0
 | i + 1 => hiStep i (g (2 * i + k)) (rlo g k i) (rhi g k i)
def cwStep (s ax ay bx by' : Nat) : Nat := fop .add .f64 s (fop .mul .f64 (fop .sub .f64 bx ax) (fop .add .f64 by' ay))
def cwF (g : Nat → Nat) (len : Nat) : Nat → Nat
 | 0 => 0
 | i + 1 => cwStep (cwF g len i) (g (2 * i)) (g (2 * i + 1)) (g (2 * nx len i)) (g (2 * nx len i + 1))
def zcF (g : Nat → Nat) (len i : Nat) : Nat :=
 fop .sub .f64 (fop .mul .f64 (fop .sub .f64 (g (2 * nx len i)) (g (2 * i))) (fop .sub .f64 (g (2 * nx2 len i + 1)) (g (2 * nx len i + 1))))
   (fop .mul .f64 (fop .sub .f64 (g (2 * nx len i + 1)) (g (2 * i + 1))) (fop .sub .f64 (g (2 * nx2 len i)) (g (2 * nx len i))))
def dStep (d : Int) (c : Bool) (z : Nat) : Int × Bool :=
 if c = true then (d, c) else if d = 0 then (if fLt .f64 z 0 = true then (-1, c) else if fGt .f64 z 0 = true then (1, c) else (d, c))
 else if fLt .f64 z 0 = true then (d, decide (d = 1)) else if fGt .f64 z 0 = true then (d, decide (d = -1)) else (d, c)
def dcF (g : Nat → Nat) (len : Nat) : Nat → Int × Bool
 | 0 => (0, false)
 | i + 1 => dStep (dcF g len i).1 (dcF g len i).2 (zcF g len i)
def ppBig (len : Nat) (cl : Bool) : Bool := decide (2 ≤ len ∧ (cl = true → 3 ≤ len))
def pick (b : Bool) (x : Nat) : Nat := if b = true then x else 0
def cwOk (s ax ay bx by' : Nat) : Prop := fok .sub .f64 bx ax ∧ fok .add .f64 by' ay ∧ fok .mul .f64 (fop .sub .f64 bx ax) (fop .add .f64 by' ay) ∧ fok .add .f64 s (fop .mul .f64 (fop .sub .f64 bx ax) (fop .add .f64 by' ay))
def zcOk (ax ay bx by' cx cy : Nat) : Prop := fok .sub .f64 bx ax ∧ fok .sub .f64 cy by' ∧ fok .mul .f64 (fop .sub .f64 bx ax) (fop .sub .f64 cy by') ∧ fok .sub .f64 by' ay ∧ fok .sub .f64 cx bx ∧ fok .mul .f64 (fop .sub .f64 by' ay) (fop .sub .f64 cx bx) ∧
 fok .sub .f64 (fop .mul .f64 (fop .sub .f64 bx ax) (fop .sub .f64 cy by')) (fop .mul .f64 (fop .sub .f64 by' ay) (fop .sub .f64 cx bx))
def ppOk (g : Nat → Nat) (len : Nat) : Prop := ∀ i, i < len → cwOk (cwF g len i) (g (2 * i)) (g (2 * i + 1)) (g (2 * nx len i)) (g (2 * nx len i + 1)) ∧
 zcOk (g (2 * i)) (g (2 * i + 1)) (g (2 * nx len i)) (g (2 * nx len i + 1)) (g (2 * nx2 len i)) (g (2 * nx2 len i + 1))
def ppH (len : Nat) (g : Nat → Nat) (r a b c : List SV) : Heap := [(0, ⟨false, 100, .flts .f64 (2 * len) g, 0⟩), (1, ⟨true, 102, .cells r, 0⟩), (2, ⟨true, 100, .cells a, 0⟩), (3, ⟨true, 100, .cells b, 0⟩), (4, ⟨true, 100, .cells c, 0⟩)]
def pf (x : Nat) : SV := .flt .f64 x
def ppS (len i : Nat) (cl : Bool) (cw : Nat) (d : Int) (cc : Bool) : Slots :=
 [(0, .slcc 0 len), (1, .bool cl), (5, .ptr 1 0), (7, .bool cc), (8, .int .i64 d), (9, .ptr 2 0), (10, .ptr 3 0), (11, .ptr 4 0), (12, .flt .f64 cw), (13, .int .i64 i)]
def ppSt (len i : Nat) (cl : Bool) (g : Nat → Nat) (rx ry : Nat) (ai bi : Nat) (cwi : Nat) (di : Nat) : St :=
 ⟨201, ppS len i cl (cwF g len cwi) (dcF g len di).1 (dcF g len di).2,
   ppH len g [pf (rlo g 0 rx), pf (rlo g 1 ry), pf (rhi g 0 rx), pf (rhi g 1 ry)] [pf (la g 0 ai), pf (la g 1 ai)] [pf (lb g len 0 bi), pf (lb g len 1 bi)] [pf (lc g len 0 bi), pf (lc g len 1 bi)], 5⟩
def one (len i : Nat) (cl : Bool) (g : Nat → Nat) (rx ry ai bi cwi di : Nat) (p : Prop) : Fam := ⟨Nat, fun _ => ppSt len i cl g rx ry ai bi cwi di, fun _ => p, fun _ => 0⟩
def ppL (len : Nat) (cl : Bool) (g : Nat → Nat) : LFam :=
 ⟨⟨Nat, fun i => ppSt len i cl g i i i i i i, fun i => i ≤ len ∧ ppBig len cl = true, fun i => len - i⟩, fun i => [
   (19, one len i cl g (i + 1) (i + 1) i i i i (i < len ∧ ppBig len cl = true)),
   (20, one len i cl g (i + 1) (i + 1) (i + 1) i i i (i < len ∧ ppBig len cl = true)),
   (28, one len i cl g (i + 1) (i + 1) (i + 1) (i + 1) i i (i < len ∧ ppBig len cl = true)),
   (29, one len i cl g (i + 1) (i + 1) (i + 1) (i + 1) (i + 1) i (i < len ∧ ppBig len cl = true))]⟩
def ppK (len : Nat) (cl : Bool) (g : Nat → Nat) : Fam := ⟨Nat, fun _ => ⟨201, [(0, .slcc 0 len), (1, .bool cl), (5, .ptr 1 0)], [(0, ⟨false, 100, .flts .f64 (2 * len) g, 0⟩), (1, ⟨true, 102, .cells [pf 0, pf 0, pf 0, pf 0], 0⟩)], 2⟩, fun _ => ppBig len cl = true, fun _ => 0⟩
noncomputable def procPC : List SV → RdM
 | [.slcc n len, v] => .read n fun o0 => (match fltsFrom .f64 o0.c with
   | some (m0, g) => (match v.toB with
   | some cl => .ret ⟨[.slcc 0 len, .bool cl], [(0, ⟨false, 100, .flts .f64 m0 g, 0⟩)], .tup [.bool (ppBig len cl && !(dcF g len len).2), .agg [.flt .f64 (pick (ppBig len cl) (rlo g 0 len)), .flt .f64 (pick (ppBig len cl) (rlo g 1 len)), .flt .f64 (pick (ppBig len cl) (rhi g 0 len)), .flt .f64 (pick (ppBig len cl) (rhi g 1 len))], .bool (ppBig len cl && fGt .f64 (cwF g len len) 0)], [], [], some (m0 = 2 * len ∧ len ≤ 1000000 ∧ (ppBig len cl = true → ppOk g len))⟩
   | none => .fail)
   | none => .fail)
 | _ => .fail
theorem vc_procP (len : Nat) (cl : Bool)  (g : Nat → Nat) : runA G0 1 [(7, ppL len cl g)] [(2, ppK len cl g)] (codeOf Tryz.f102) (init Tryz.f102.ntmps [.slcc 0 len, .bool cl] [(0, ⟨false, 100, .flts .f64 (2 * len) g, 0⟩)] 1) (endK G0.E.T Tryz.f102.results.toList fun S v => postP 1 ⟨[.slcc 0 len, .bool cl], [(0, ⟨false, 100, .flts .f64 (2 * len) g, 0⟩)], .tup [.bool (ppBig len cl && !(dcF g len len).2), .agg [.flt .f64 (pick (ppBig len cl) (rlo g 0 len)), .flt .f64 (pick (ppBig len cl) (rlo g 1 len)), .flt .f64 (pick (ppBig len cl) (rhi g 0 len)), .flt .f64 (pick (ppBig len cl) (rhi g 1 len))], .bool (ppBig len cl && fGt .f64 (cwF g len len) 0)], [], [], some (2 * len = 2 * len ∧ len ≤ 1000000 ∧ (ppBig len cl = true → ppOk g len))⟩ S v) = (
((cl = true → (decide ((↑len : Int) < 3) = true → ((ppBig len cl && !(dcF g len len).2) = false ∧ ((0 : Nat) = pick (ppBig len cl) (rlo g (0 :
 Nat) len) ∧ (0 : Nat) = pick (ppBig len cl) (rlo g (1 : Nat) len) ∧ (0 : Nat) = pick (ppBig len cl) (rhi g (0 : Nat) len) ∧ (0 : Nat) =
 pick (ppBig len cl) (rhi g (1 : Nat) len) ∧ True) ∧ (ppBig len cl && fGt .f64 (cwF g len len) (0 : Nat)) = false ∧ True) ∧ True) ∧ (decide ((↑len : Int) <
(3 : Int)) = false → (decide ((↑len : Int) < 2) = true → ((ppBig len cl && !(dcF g len len).2) = false ∧ ((0 : Nat) = pick (ppBig len cl) (rlo g
(0 : Nat) len) ∧ (0 : Nat) = pick (ppBig len cl) (rlo g (1 : Nat) len) ∧ (0 : Nat) = pick (ppBig len cl) (rhi g (0 : Nat) len) ∧ (0 : Nat) =
 pick (ppBig len cl) (rhi g (1 : Nat) len) ∧ True) ∧ (ppBig len cl && fGt .f64 (cwF g len len) (0 : Nat)) = false ∧ True) ∧ True) ∧ (decide ((↑len : Int) <
(2 : Int)) = false → ∃ (_ : Nat), ppBig len cl = true ∧ ((True ∧ len = len) ∧ cl = cl ∧ (True ∧ (0 : Nat) = (0 : Nat)) ∧ True) ∧ True ∧ ((2 : Nat) * len ≤ (2 : Nat) * len ∧ ∀ (i : Nat), i < (2 : Nat) * len → g i = g i) ∧ True ∧
((102 : Nat) = (102 : Nat) ∧ (0 : Nat) = (0 : Nat) ∧ (0 : Nat) = (0 : Nat) ∧ (0 : Nat) = (0 : Nat) ∧ (0 : Nat) = (0 : Nat) ∧ (0 : Nat) = (0 : Nat) ∧ True) ∧ True))) ∧ (cl = false → (decide ((↑len : Int) < 2) = true → ((ppBig
 len cl && !(dcF g len len).2) = false ∧ ((0 : Nat) = pick (ppBig len cl) (rlo g (0 : Nat) len) ∧ (0 : Nat) = pick (ppBig len cl)
(rlo g (1 : Nat) len) ∧ (0 : Nat) = pick (ppBig len cl) (rhi g (0 : Nat) len) ∧ (0 : Nat) = pick (ppBig len cl) (rhi g (1 :
 Nat) len) ∧ True) ∧ (ppBig len cl && fGt .f64 (cwF g len len) (0 : Nat)) = false ∧ True) ∧ True) ∧ (decide ((↑len : Int) < 2) = false → ∃ (_ : Nat), ppBig len cl = true ∧ ((True ∧
 len = len) ∧ cl = cl ∧ (True ∧ (0 : Nat) = (0 : Nat)) ∧ True) ∧ True ∧ ((2 : Nat) * len ≤ (2 : Nat) * len ∧ ∀ (i : Nat), i < (2 : Nat) * len → g i = g i) ∧ True ∧ ((102 : Nat) = (102 : Nat) ∧ (0 : Nat) = (0 : Nat) ∧ (0 : Nat) = (0 : Nat) ∧ (0 : Nat)
= (0 : Nat) ∧ (0 : Nat) = (0 : Nat) ∧ (0 : Nat) = (0 : Nat) ∧ True) ∧ True))) ∧ ∀ (_ : Nat), ppBig len cl = true → (∃ (i : Nat), (i ≤ len ∧ ppBig len cl = true) ∧ ((True ∧ len = len) ∧ cl = cl ∧ (True ∧ (0 : Nat) =
(0 : Nat)) ∧ (dcF g len i).2 = false ∧ (0 : Int) = (dcF g len i).1 ∧ (True ∧ (0 : Nat) = (0 : Nat)) ∧ (True ∧ (0 : Nat) = (0 : Nat)) ∧ (True ∧ (0 : Nat) = (0 : Nat)) ∧ (0 : Nat) =
 cwF g len i ∧ 0 = (↑i : Int) ∧ True) ∧ True ∧ ((2 : Nat) * len ≤ (2 : Nat) * len ∧ ∀ (i : Nat), i < (2 : Nat) * len → g i = g i) ∧ True ∧ ((102 : Nat) = (102 : Nat) ∧ (0 : Nat) = (0 : Nat) ∧ (0 : Nat) = rlo
 g (0 : Nat) i ∧ (0 : Nat) = rlo g (1 : Nat) i ∧ (0 : Nat) = rhi g (0 : Nat) i ∧ (0 : Nat) = rhi g (1 : Nat) i ∧ True) ∧ True ∧ ((100 : Nat) = (100 : Nat) ∧ (0 : Nat) = (0 : Nat) ∧ (0 : Nat) =
 la g (0 : Nat) i ∧ (0 : Nat) = la g (1 : Nat) i ∧ True) ∧ True ∧ ((100 : Nat) = (100 : Nat) ∧ (0 : Nat) = (0 : Nat) ∧ (0 : Nat) = lb g len (0 : Nat) i ∧ (0 : Nat) = lb g len (1 :
 Nat) i ∧ True) ∧ True ∧ ((100 : Nat) = (100 : Nat) ∧ (0 : Nat) = (0 : Nat) ∧ (0 : Nat) = lc g len (0 : Nat) i ∧ (0 : Nat) = lc g len (1 : Nat) i ∧ True) ∧ True) ∧ ∀ (i : Nat), i ≤ len ∧ ppBig len
 cl = true → (decide ((↑i : Int) < (↑len : Int)) = true → ((((↑i : Int) == (0 : Int)) = true → ((0 ≤ (↑i : Int) ∧ (↑i : Int) < (↑len : Int)) ∧ (1 : Nat) ≤ (2 : Nat) * len) ∧ (0 : Nat) + Int.toNat (↑i : Int) * (2 : Nat) + (2 : Nat) ≤ (2 : Nat)
* len ∧ ((0 ≤ (↑i : Int) ∧ (↑i : Int) < (↑len : Int)) ∧ (1 : Nat) ≤ (2 : Nat) * len) ∧ (0 : Nat) + Int.toNat (↑i : Int) * (2 : Nat) + (2 : Nat) ≤ (2 : Nat) * len ∧ true = true ∧ ∃ (_ : Nat), (i < len ∧ ppBig len cl = true) ∧
((True ∧ len = len) ∧ cl = cl ∧ (True ∧ (0 : Nat) = (0 : Nat)) ∧ (dcF g len i).2 = (dcF g len i).2 ∧ (dcF g len i).1 = (dcF g len i).1 ∧ (True ∧ (0 :
 Nat) = (0 : Nat)) ∧ (True ∧ (0 : Nat) = (0 : Nat)) ∧ (True ∧ (0 : Nat) = (0 : Nat)) ∧ cwF g len i = cwF g len i ∧ (↑i : Int) = (↑i : Int) ∧ True) ∧ True ∧ ((2 : Nat) * len ≤ (2 : Nat) * len ∧ ∀ (i : Nat), i < (2 :
 Nat) * len → g i = g i) ∧ True ∧ ((102 : Nat) = (102 : Nat) ∧ (0 : Nat) = (0 : Nat) ∧ g ((0 : Nat) + Int.toNat (↑i : Int) * (2 : Nat)) = rlo g (0 : Nat) (i + (1 : Nat)) ∧ g ((0 : Nat) + Int.toNat (↑i : Int) * (2 : Nat) + (1 : Nat))
= rlo g (1 : Nat) (i + (1 : Nat)) ∧ g ((0 : Nat) + Int.toNat (↑i : Int) * (2 : Nat)) = rhi g (0 : Nat) (i + (1 : Nat)) ∧ g ((0 : Nat) + Int.toNat (↑i : Int) * (2 : Nat) + (1 : Nat)) = rhi g (1 :
 Nat) (i + (1 : Nat)) ∧ True) ∧ True ∧ ((100 : Nat) = (100 : Nat) ∧ (0 : Nat) = (0 : Nat) ∧ la g (0 : Nat) i = la g (0 : Nat) i ∧ la g (1 : Nat) i = la g (1 : Nat) i ∧ True) ∧
 True ∧ ((100 : Nat) = (100 : Nat) ∧ (0 : Nat) = (0 : Nat) ∧ lb g len (0 : Nat) i = lb g len (0 : Nat) i ∧ lb g len (1 : Nat) i = lb g len (1 : Nat) i ∧ True) ∧ True ∧ ((100 :
 Nat) = (100 : Nat) ∧ (0 : Nat) = (0 : Nat) ∧ lc g len (0 : Nat) i = lc g len (0 : Nat) i ∧ lc g len (1 : Nat) i = lc g len (1 : Nat) i ∧ True) ∧ True) ∧ (((↑i : Int) == (0 :
 Int)) = false → ((0 ≤ (↑i : Int) ∧ (↑i : Int) < (↑len : Int)) ∧ (1 : Nat) ≤ (2 : Nat) * len) ∧ (0 : Nat) < (2 : Nat) * len ∧ (0 : Nat) + Int.toNat (↑i : Int) * (2 : Nat) + (0 : Nat) + (1 : Nat) ≤ (2 : Nat) * len ∧ true = true ∧ (fLt
.f64 (g ((0 : Nat) + Int.toNat (↑i : Int) * (2 : Nat) + (0 : Nat))) (rlo g (0 : Nat) i) = true → ((0 ≤ (↑i : Int) ∧ (↑i : Int) < (↑len : Int)) ∧ (1 : Nat) ≤ (2 : Nat) * len) ∧ (0 : Nat) < (2 : Nat) * len ∧ (0 : Nat) +
 Int.toNat (↑i : Int) * (2 : Nat) + (0 : Nat) + (1 : Nat) ≤ (2 : Nat) * len ∧ ((0 ≤ (↑i : Int) ∧ (↑i : Int) < (↑len : Int)) ∧ (1 : Nat) ≤ (2 : Nat) * len) ∧ (0 : Nat) < (2 : Nat) * len ∧ (0 : Nat) + Int.toNat (↑i : Int) * (2 : Nat) + (1 : Nat)
+ (1 : Nat) ≤ (2 : Nat) * len ∧ true = true ∧ (fLt .f64 (g ((0 : Nat) + Int.toNat (↑i : Int) * (2 : Nat) + (1 : Nat))) (rlo g (1 : Nat) i) = true → ((0 ≤ (↑i : Int) ∧ (↑i : Int) < (↑len : Int)) ∧ (1 : Nat) ≤ (2 : Nat)
* len) ∧ (0 : Nat) < (2 : Nat) * len ∧ (0 : Nat) + Int.toNat (↑i : Int) * (2 : Nat) + (1 : Nat) + (1 : Nat) ≤ (2 : Nat) * len ∧ ∃ (_ : Nat), (i < len ∧ ppBig len cl = true) ∧ ((True ∧ len = len) ∧ cl = cl ∧ (True ∧ (0 : Nat) = (0 :
 Nat)) ∧ (dcF g len i).2 = (dcF g len i).2 ∧ (dcF g len i).1 = (dcF g len i).1 ∧ (True ∧ (0 : Nat) = (0 : Nat)) ∧ (True ∧ (0 : Nat) = (0 : Nat)) ∧
(True ∧ (0 : Nat) = (0 : Nat)) ∧ cwF g len i = cwF g len i ∧ (↑i : Int) = (↑i : Int) ∧ True) ∧ True ∧ ((2 : Nat) * len ≤ (2 : Nat) * len ∧ ∀ (i : Nat), i < (2 : Nat) * len → g i = g i) ∧ True ∧ ((102 : Nat) = (102
: Nat) ∧ (0 : Nat) = (0 : Nat) ∧ g ((0 : Nat) + Int.toNat (↑i : Int) * (2 : Nat) + (0 : Nat)) = rlo g (0 : Nat) (i + (1 : Nat)) ∧ g ((0 : Nat) + Int.toNat (↑i : Int) * (2 : Nat) + (1 : Nat)) = rlo g (1 : Nat) (i +
(1 : Nat)) ∧ rhi g (0 : Nat) i = rhi g (0 : Nat) (i + (1 : Nat)) ∧ rhi g (1 : Nat) i = rhi g (1 : Nat) (i + (1 : Nat)) ∧ True) ∧ True ∧ ((100 : Nat) = (100 : Nat) ∧ (0 : Nat) =
(0 : Nat) ∧ la g (0 : Nat) i = la g (0 : Nat) i ∧ la g (1 : Nat) i = la g (1 : Nat) i ∧ True) ∧ True ∧ ((100 : Nat) = (100 : Nat) ∧ (0 : Nat) = (0 : Nat) ∧ lb g
 len (0 : Nat) i = lb g len (0 : Nat) i ∧ lb g len (1 : Nat) i = lb g len (1 : Nat) i ∧ True) ∧ True ∧ ((100 : Nat) = (100 : Nat) ∧ (0 : Nat) = (0 : Nat) ∧ lc g len (0 : Nat) i =
 lc g len (0 : Nat) i ∧ lc g len (1 : Nat) i = lc g len (1 : Nat) i ∧ True) ∧ True) ∧ (fLt .f64 (g ((0 : Nat) + Int.toNat (↑i : Int) * (2 : Nat) + (1 : Nat))) (rlo g (1 :
 Nat) i) = false → ((0 ≤ (↑i : Int) ∧ (↑i : Int) < (↑len : Int)) ∧ (1 : Nat) ≤ (2 : Nat) * len) ∧ (0 : Nat) < (2 : Nat) * len ∧ (0 : Nat) + Int.toNat (↑i : Int) * (2 : Nat) + (1 : Nat) + (1 : Nat) ≤ (2 : Nat) * len ∧ true = true ∧ (fGt
.f64 (g ((0 : Nat) + Int.toNat (↑i : Int) * (2 : Nat) + (1 : Nat))) (rhi g (1 : Nat) i) = true → ((0 ≤ (↑i : Int) ∧ (↑i : Int) < (↑len : Int)) ∧ (1 : Nat) ≤ (2 : Nat) * len) ∧ (0 : Nat) < (2 : Nat) * len ∧ (0 : Nat) +
 Int.toNat (↑i : Int) * (2 : Nat) + (1 : Nat) + (1 : Nat) ≤ (2 : Nat) * len ∧ ∃ (_ : Nat), (i < len ∧ ppBig len cl = true) ∧ ((True ∧ len = len) ∧ cl = cl ∧ (True ∧ (0 : Nat) = (0 : Nat)) ∧ (dcF g len i).2 =
 (dcF g len i).2 ∧ (dcF g len i).1 = (dcF g len i).1 ∧ (True ∧ (0 : Nat) = (0 : Nat)) ∧ (True ∧ (0 : Nat) = (0 : Nat)) ∧ (True ∧ (0 : Nat) = (0 : Nat)) ∧ cwF
 g len i = cwF g len i ∧ (↑i : Int) = (↑i : Int) ∧ True) ∧ True ∧ ((2 : Nat) * len ≤ (2 : Nat) * len ∧ ∀ (i : Nat), i < (2 : Nat) * len → g i = g i) ∧ True ∧ ((102 : Nat) = (102 : Nat) ∧ (0 : Nat) = (0 : Nat) ∧ g ((0 : Nat) +
 Int.toNat (↑i : Int) * (2 : Nat) + (0 : Nat)) = rlo g (0 : Nat) (i + (1 : Nat)) ∧ rlo g (1 : Nat) i = rlo g (1 : Nat) (i + (1 : Nat)) ∧ rhi g (0 : Nat) i = rhi
 g (0 : Nat) (i + (1 : Nat)) ∧ g ((0 : Nat) + Int.toNat (↑i : Int) * (2 : Nat) + (1 : Nat)) = rhi g (1 : Nat) (i + (1 : Nat)) ∧ True) ∧ True ∧ ((100 : Nat) = (100 : Nat) ∧ (0 : Nat) = (0 : Nat) ∧ la g (0 : Nat) i =
 la g (0 : Nat) i ∧ la g (1 : Nat) i = la g (1 : Nat) i ∧ True) ∧ True ∧ ((100 : Nat) = (100 : Nat) ∧ (0 : Nat) = (0 : Nat) ∧ lb g len (0 : Nat) i = lb g len (0
: Nat) i ∧ lb g len (1 : Nat) i = lb g len (1 : Nat) i ∧ True) ∧ True ∧ ((100 : Nat) = (100 : Nat) ∧ (0 : Nat) = (0 : Nat) ∧ lc g len (0 : Nat) i = lc g len (0 : Nat) i ∧
 lc g len (1 : Nat) i = lc g len (1 : Nat) i ∧ True) ∧ True) ∧ (fGt .f64 (g ((0 : Nat) + Int.toNat (↑i : Int) * (2 : Nat) + (1 : Nat))) (rhi g (1 : Nat) i) = false → ∃ (_ : Nat), (i < len ∧
 ppBig len cl = true) ∧ ((True ∧ len = len) ∧ cl = cl ∧ (True ∧ (0 : Nat) = (0 : Nat)) ∧ (dcF g len i).2 = (dcF g len i).2 ∧ (dcF g len i).1 = Prod.fst
(dcF g len i) ∧ (True ∧ (0 : Nat) = (0 : Nat)) ∧ (True ∧ (0 : Nat) = (0 : Nat)) ∧ (True ∧ (0 : Nat) = (0 : Nat)) ∧ cwF g len i = cwF g len i ∧ (↑i : Int) = (↑i : Int) ∧ True) ∧ True ∧ ((2 : Nat) *
 len ≤ (2 : Nat) * len ∧ ∀ (i : Nat), i < (2 : Nat) * len → g i = g i) ∧ True ∧ ((102 : Nat) = (102 : Nat) ∧ (0 : Nat) = (0 : Nat) ∧ g ((0 : Nat) + Int.toNat (↑i : Int) * (2 : Nat) + (0 : Nat)) = rlo g (0 : Nat) (i + (1 : Nat)) ∧
 rlo g (1 : Nat) i = rlo g (1 : Nat) (i + (1 : Nat)) ∧ rhi g (0 : Nat) i = rhi g (0 : Nat) (i + (1 : Nat)) ∧ rhi g (1 : Nat) i = rhi g (1 :
 Nat) (i + (1 : Nat)) ∧ True) ∧ True ∧ ((100 : Nat) = (100 : Nat) ∧ (0 : Nat) = (0 : Nat) ∧ la g (0 : Nat) i = la g (0 : Nat) i ∧ la g (1 : Nat) i = la g (1 : Nat) i ∧ True) ∧
 True ∧ ((100 : Nat) = (100 : Nat) ∧ (0 : Nat) = (0 : Nat) ∧ lb g len (0 : Nat) i = lb g len (0 : Nat) i ∧ lb g len (1 : Nat) i = lb g len (1 : Nat) i ∧ True) ∧ True ∧ ((100 :
 Nat) = (100 : Nat) ∧ (0 : Nat) = (0 : Nat) ∧ lc g len (0 : Nat) i = lc g len (0 : Nat) i ∧ lc g len (1 : Nat) i = lc g len (1 : Nat) i ∧ True) ∧ True))) ∧ (fLt .f64 (g ((0
: Nat) + Int.toNat (↑i : Int) * (2 : Nat) + (0 : Nat))) (rlo g (0 : Nat) i) = false → ((0 ≤ (↑i : Int) ∧ (↑i : Int) < (↑len : Int)) ∧ (1 : Nat) ≤ (2 : Nat) * len) ∧ (0 : Nat) < (2 : Nat) * len ∧ (0 : Nat) + Int.toNat (↑i :
 Int) * (2 : Nat) + (0 : Nat) + (1 : Nat) ≤ (2 : Nat) * len ∧ true = true ∧ (fGt .f64 (g ((0 : Nat) + Int.toNat (↑i : Int) * (2 : Nat) + (0 : Nat))) (rhi g (0 : Nat) i) = true → ((0 ≤ (↑i : Int) ∧ (↑i : Int) < (↑len :
 Int)) ∧ (1 : Nat) ≤ (2 : Nat) * len) ∧ (0 : Nat) < (2 : Nat) * len ∧ (0 : Nat) + Int.toNat (↑i : Int) * (2 : Nat) + (0 : Nat) + (1 : Nat) ≤ (2 : Nat) * len ∧ ((0 ≤ (↑i : Int) ∧ (↑i : Int) < (↑len : Int)) ∧ (1 : Nat) ≤ (2 : Nat) * len) ∧ (0 :
 Nat) < (2 : Nat) * len ∧ (0 : Nat) + Int.toNat (↑i : Int) * (2 : Nat) + (1 : Nat) + (1 : Nat) ≤ (2 : Nat) * len ∧ true = true ∧ (fLt .f64 (g ((0 : Nat) + Int.toNat (↑i : Int) * (2 : Nat) + (1 : Nat))) (rlo g (1 : Nat) i) =
 true → ((0 ≤ (↑i : Int) ∧ (↑i : Int) < (↑len : Int)) ∧ (1 : Nat) ≤ (2 : Nat) * len) ∧ (0 : Nat) < (2 : Nat) * len ∧ (0 : Nat) + Int.toNat (↑i : Int) * (2 : Nat) + (1 : Nat) + (1 : Nat) ≤ (2 : Nat) * len ∧ ∃ (_ : Nat), (i < len ∧
 ppBig len cl = true) ∧ ((True ∧ len = len) ∧ cl = cl ∧ (True ∧ (0 : Nat) = (0 : Nat)) ∧ (dcF g len i).2 = (dcF g len i).2 ∧ (dcF g len i).1 = Prod.fst
(dcF g len i) ∧ (True ∧ (0 : Nat) = (0 : Nat)) ∧ (True ∧ (0 : Nat) = (0 : Nat)) ∧ (True ∧ (0 : Nat) = (0 : Nat)) ∧ cwF g len i = cwF g len i ∧ (↑i : Int) = (↑i : Int) ∧ True) ∧ True ∧ ((2 : Nat) *
 len ≤ (2 : Nat) * len ∧ ∀ (i : Nat), i < (2 : Nat) * len → g i = g i) ∧ True ∧ ((102 : Nat) = (102 : Nat) ∧ (0 : Nat) = (0 : Nat) ∧ rlo g (0 : Nat) i = rlo g (0 : Nat) (i + (1 : Nat)) ∧ g ((0 : Nat) + Int.toNat (↑i
: Int) * (2 : Nat) + (1 : Nat)) = rlo g (1 : Nat) (i + (1 : Nat)) ∧ g ((0 : Nat) + Int.toNat (↑i : Int) * (2 : Nat) + (0 : Nat)) = rhi g (0 : Nat) (i + (1 : Nat)) ∧ rhi g (1 : Nat) i =
 rhi g (1 : Nat) (i + (1 : Nat)) ∧ True) ∧ True ∧ ((100 : Nat) = (100 : Nat) ∧ (0 : Nat) = (0 : Nat) ∧ la g (0 : Nat) i = la g (0 : Nat) i ∧ la g (1 : Nat) i =
 la g (1 : Nat) i ∧ True) ∧ True ∧ ((100 : Nat) = (100 : Nat) ∧ (0 : Nat) = (0 : Nat) ∧ lb g len (0 : Nat) i = lb g len (0 : Nat) i ∧ lb g len (1 : Nat) i = lb g
 len (1 : Nat) i ∧ True) ∧ True ∧ ((100 : Nat) = (100 : Nat) ∧ (0 : Nat) = (0 : Nat) ∧ lc g len (0 : Nat) i = lc g len (0 : Nat) i ∧ lc g len (1 : Nat) i = lc g len (1 : Nat) i ∧
 True) ∧ True) ∧ (fLt .f64 (g ((0 : Nat) + Int.toNat (↑i : Int) * (2 : Nat) + (1 : Nat))) (rlo g (1 : Nat) i) = false → ((0 ≤ (↑i : Int) ∧ (↑i : Int) < (↑len : Int)) ∧ (1 : Nat) ≤ (2 : Nat) * len) ∧ (0 : Nat) < (2 :
 Nat) * len ∧ (0 : Nat) + Int.toNat (↑i : Int) * (2 : Nat) + (1 : Nat) + (1 : Nat) ≤ (2 : Nat) * len ∧ true = true ∧ (fGt .f64 (g ((0 : Nat) + Int.toNat (↑i : Int) * (2 : Nat) + (1 : Nat))) (rhi g (1 : Nat) i) = true → (((0 :
 Int) ≤ (↑i : Int) ∧ (↑i : Int) < (↑len : Int)) ∧ (1 : Nat) ≤ (2 : Nat) * len) ∧ (0 : Nat) < (2 : Nat) * len ∧ (0 : Nat) + Int.toNat (↑i : Int) * (2 : Nat) + (1 : Nat) + (1 : Nat) ≤ (2 : Nat) * len ∧ ∃ (_ : Nat), (i < len ∧ ppBig len
 cl = true) ∧ ((True ∧ len = len) ∧ cl = cl ∧ (True ∧ (0 : Nat) = (0 : Nat)) ∧ (dcF g len i).2 = (dcF g len i).2 ∧ (dcF g len i).1 = (dcF g len i).1 ∧
(True ∧ (0 : Nat) = (0 : Nat)) ∧ (True ∧ (0 : Nat) = (0 : Nat)) ∧ (True ∧ (0 : Nat) = (0 : Nat)) ∧ cwF g len i = cwF g len i ∧ (↑i : Int) = (↑i : Int) ∧ True) ∧ True ∧ ((2 : Nat) * len ≤ (2 : Nat) * len ∧ ∀ (i :
 Nat), i < (2 : Nat) * len → g i = g i) ∧ True ∧ ((102 : Nat) = (102 : Nat) ∧ (0 : Nat) = (0 : Nat) ∧ rlo g (0 : Nat) i = rlo g (0 : Nat) (i + (1 : Nat)) ∧ rlo g (1 : Nat) i = rlo
 g (1 : Nat) (i + (1 : Nat)) ∧ g ((0 : Nat) + Int.toNat (↑i : Int) * (2 : Nat) + (0 : Nat)) = rhi g (0 : Nat) (i + (1 : Nat)) ∧ g ((0 : Nat) + Int.toNat (↑i : Int) * (2 : Nat) + (1 : Nat)) = rhi g (1 : Nat) (i + (1
: Nat)) ∧ True) ∧ True ∧ ((100 : Nat) = (100 : Nat) ∧ (0 : Nat) = (0 : Nat) ∧ la g (0 : Nat) i = la g (0 : Nat) i ∧ la g (1 : Nat) i = la g (1 : Nat) i ∧ True) ∧ True ∧ ((100 :
 Nat) = (100 : Nat) ∧ (0 : Nat) = (0 : Nat) ∧ lb g len (0 : Nat) i = lb g len (0 : Nat) i ∧ lb g len (1 : Nat) i = lb g len (1 : Nat) i ∧ True) ∧ True ∧ ((100 : Nat) = (100 : Nat)
∧ (0 : Nat) = (0 : Nat) ∧ lc g len (0 : Nat) i = lc g len (0 : Nat) i ∧ lc g len (1 : Nat) i = lc g len (1 : Nat) i ∧ True) ∧ True) ∧ (fGt .f64 (g ((0 : Nat) + Int.toNat
(↑i : Int) * (2 : Nat) + (1 : Nat))) (rhi g (1 : Nat) i) = false → ∃ (_ : Nat), (i < len ∧ ppBig len cl = true) ∧ ((True ∧ len = len) ∧ cl = cl ∧ (True ∧ (0 : Nat) = (0 : Nat)) ∧ (dcF g
 len i).2 = (dcF g len i).2 ∧ (dcF g len i).1 = (dcF g len i).1 ∧ (True ∧ (0 : Nat) = (0 : Nat)) ∧ (True ∧ (0 : Nat) = (0 : Nat)) ∧ (True ∧ (0 : Nat) = (0 : Nat)) ∧
 cwF g len i = cwF g len i ∧ (↑i : Int) = (↑i : Int) ∧ True) ∧ True ∧ ((2 : Nat) * len ≤ (2 : Nat) * len ∧ ∀ (i : Nat), i < (2 : Nat) * len → g i = g i) ∧ True ∧ ((102 : Nat) = (102 : Nat) ∧ (0 : Nat) = (0 : Nat) ∧
 rlo g (0 : Nat) i = rlo g (0 : Nat) (i + (1 : Nat)) ∧ rlo g (1 : Nat) i = rlo g (1 : Nat) (i + (1 : Nat)) ∧ g ((0 : Nat) + Int.toNat (↑i : Int) * (2 : Nat) + (0 : Nat)) =
 rhi g (0 : Nat) (i + (1 : Nat)) ∧ rhi g (1 : Nat) i = rhi g (1 : Nat) (i + (1 : Nat)) ∧ True) ∧ True ∧ ((100 : Nat) = (100 : Nat) ∧ (0 : Nat) = (0 : Nat) ∧ la g (0 : Nat) i =
 la g (0 : Nat) i ∧ la g (1 : Nat) i = la g (1 : Nat) i ∧ True) ∧ True ∧ ((100 : Nat) = (100 : Nat) ∧ (0 : Nat) = (0 : Nat) ∧ lb g len (0 : Nat) i = lb g len (0
: Nat) i ∧ lb g len (1 : Nat) i = lb g len (1 : Nat) i ∧ True) ∧ True ∧ ((100 : Nat) = (100 : Nat) ∧ (0 : Nat) = (0 : Nat) ∧ lc g len (0 : Nat) i = lc g len (0 : Nat) i ∧
 lc g len (1 : Nat) i = lc g len (1 : Nat) i ∧ True) ∧ True))) ∧ (fGt .f64 (g ((0 : Nat) + Int.toNat (↑i : Int) * (2 : Nat) + (0 : Nat))) (rhi g (0 : Nat) i) = false → ((0 ≤ (↑i :
 Int) ∧ (↑i : Int) < (↑len : Int)) ∧ (1 : Nat) ≤ (2 : Nat) * len) ∧ (0 : Nat) < (2 : Nat) * len ∧ (0 : Nat) + Int.toNat (↑i : Int) * (2 : Nat) + (1 : Nat) + (1 : Nat) ≤ (2 : Nat) * len ∧ true = true ∧ (fLt .f64 (g ((0 : Nat) + Int.toNat (↑i :
 Int) * (2 : Nat) + (1 : Nat))) (rlo g (1 : Nat) i) = true → ((0 ≤ (↑i : Int) ∧ (↑i : Int) < (↑len : Int)) ∧ (1 : Nat) ≤ (2 : Nat) * len) ∧ (0 : Nat) < (2 : Nat) * len ∧ (0 : Nat) + Int.toNat (↑i : Int) * (2 : Nat) + (1 :
 Nat) + (1 : Nat) ≤ (2 : Nat) * len ∧ ∃ (_ : Nat), (i < len ∧ ppBig len cl = true) ∧ ((True ∧ len = len) ∧ cl = cl ∧ (True ∧ (0 : Nat) = (0 : Nat)) ∧ (dcF g len i).2 = (dcF g len i).2
∧ (dcF g len i).1 = (dcF g len i).1 ∧ (True ∧ (0 : Nat) = (0 : Nat)) ∧ (True ∧ (0 : Nat) = (0 : Nat)) ∧ (True ∧ (0 : Nat) = (0 : Nat)) ∧ cwF g len i = cwF g len i ∧
(↑i : Int) = (↑i : Int) ∧ True) ∧ True ∧ ((2 : Nat) * len ≤ (2 : Nat) * len ∧ ∀ (i : Nat), i < (2 : Nat) * len → g i = g i) ∧ True ∧ ((102 : Nat) = (102 : Nat) ∧ (0 : Nat) = (0 : Nat) ∧ rlo g (0 : Nat) i = rlo g (0
: Nat) (i + (1 : Nat)) ∧ g ((0 : Nat) + Int.toNat (↑i : Int) * (2 : Nat) + (1 : Nat)) = rlo g (1 : Nat) (i + (1 : Nat)) ∧ rhi g (0 : Nat) i = rhi g (0 : Nat) (i + (1 : Nat)) ∧
 rhi g (1 : Nat) i = rhi g (1 : Nat) (i + (1 : Nat)) ∧ True) ∧ True ∧ ((100 : Nat) = (100 : Nat) ∧ (0 : Nat) = (0 : Nat) ∧ la g (0 : Nat) i = la g (0 : Nat) i ∧
 la g (1 : Nat) i = la g (1 : Nat) i ∧ True) ∧ True ∧ ((100 : Nat) = (100 : Nat) ∧ (0 : Nat) = (0 : Nat) ∧ lb g len (0 : Nat) i = lb g len (0 : Nat) i ∧ lb g len
(1 : Nat) i = lb g len (1 : Nat) i ∧ True) ∧ True ∧ ((100 : Nat) = (100 : Nat) ∧ (0 : Nat) = (0 : Nat) ∧ lc g len (0 : Nat) i = lc g len (0 : Nat) i ∧ lc g len (1 : Nat) i =
 lc g len (1 : Nat) i ∧ True) ∧ True) ∧ (fLt .f64 (g ((0 : Nat) + Int.toNat (↑i : Int) * (2 : Nat) + (1 : Nat))) (rlo g (1 : Nat) i) = false → ((0 ≤ (↑i : Int) ∧ (↑i : Int) < (↑len : Int)) ∧ (1 : Nat)
≤ (2 : Nat) * len) ∧ (0 : Nat) < (2 : Nat) * len ∧ (0 : Nat) + Int.toNat (↑i : Int) * (2 : Nat) + (1 : Nat) + (1 : Nat) ≤ (2 : Nat) * len ∧ true = true ∧ (fGt .f64 (g ((0 : Nat) + Int.toNat (↑i : Int) * (2 : Nat) + (1 : Nat)))
(rhi g (1 : Nat) i) = true → ((0 ≤ (↑i : Int) ∧ (↑i : Int) < (↑len : Int)) ∧ (1 : Nat) ≤ (2 : Nat) * len) ∧ (0 : Nat) < (2 : Nat) * len ∧ (0 : Nat) + Int.toNat (↑i : Int) * (2 : Nat) + (1 : Nat) + (1 : Nat) ≤ (2 : Nat) * len
∧ ∃ (_ : Nat), (i < len ∧ ppBig len cl = true) ∧ ((True ∧ len = len) ∧ cl = cl ∧ (True ∧ (0 : Nat) = (0 : Nat)) ∧ (dcF g len i).2 = (dcF g len i).2 ∧ (dcF
 g len i).1 = (dcF g len i).1 ∧ (True ∧ (0 : Nat) = (0 : Nat)) ∧ (True ∧ (0 : Nat) = (0 : Nat)) ∧ (True ∧ (0 : Nat) = (0 : Nat)) ∧ cwF g len i = cwF g len i ∧ (↑i : Int) = (↑i : Int) ∧ True) ∧
 True ∧ ((2 : Nat) * len ≤ (2 : Nat) * len ∧ ∀ (i : Nat), i < (2 : Nat) * len → g i = g i) ∧ True ∧ ((102 : Nat) = (102 : Nat) ∧ (0 : Nat) = (0 : Nat) ∧ rlo g (0 : Nat) i = rlo g (0 : Nat) (i + (1 : Nat)) ∧
 rlo g (1 : Nat) i = rlo g (1 : Nat) (i + (1 : Nat)) ∧ rhi g (0 : Nat) i = rhi g (0 : Nat) (i + (1 : Nat)) ∧ g ((0 : Nat) + Int.toNat (↑i : Int) * (2 : Nat) + (1 : Nat)) =
 rhi g (1 : Nat) (i + (1 : Nat)) ∧ True) ∧ True ∧ ((100 : Nat) = (100 : Nat) ∧ (0 : Nat) = (0 : Nat) ∧ la g (0 : Nat) i = la g (0 : Nat) i ∧ la g (1 : Nat) i =
 la g (1 : Nat) i ∧ True) ∧ True ∧ ((100 : Nat) = (100 : Nat) ∧ (0 : Nat) = (0 : Nat) ∧ lb g len (0 : Nat) i = lb g len (0 : Nat) i ∧ lb g len (1 : Nat) i = lb g
 len (1 : Nat) i ∧ True) ∧ True ∧ ((100 : Nat) = (100 : Nat) ∧ (0 : Nat) = (0 : Nat) ∧ lc g len (0 : Nat) i = lc g len (0 : Nat) i ∧ lc g len (1 : Nat) i = lc g len (1 : Nat) i ∧
 True) ∧ True) ∧ (fGt .f64 (g ((0 : Nat) + Int.toNat (↑i : Int) * (2 : Nat) + (1 : Nat))) (rhi g (1 : Nat) i) = false → ∃ (_ : Nat), (i < len ∧ ppBig len cl = true) ∧ ((True ∧ len = len) ∧ cl = cl ∧ (True ∧ (0
: Nat) = (0 : Nat)) ∧ (dcF g len i).2 = (dcF g len i).2 ∧ (dcF g len i).1 = (dcF g len i).1 ∧ (True ∧ (0 : Nat) = (0 : Nat)) ∧ (True ∧ (0 : Nat) = (0
: Nat)) ∧ (True ∧ (0 : Nat) = (0 : Nat)) ∧ cwF g len i = cwF g len i ∧ (↑i : Int) = (↑i : Int) ∧ True) ∧ True ∧ ((2 : Nat) * len ≤ (2 : Nat) * len ∧ ∀ (i : Nat), i < (2 : Nat) * len → g i = g i) ∧ True ∧ ((102 :
 Nat) = (102 : Nat) ∧ (0 : Nat) = (0 : Nat) ∧ rlo g (0 : Nat) i = rlo g (0 : Nat) (i + (1 : Nat)) ∧ rlo g (1 : Nat) i = rlo g (1 : Nat) (i + (1 : Nat)) ∧ rhi g
(0 : Nat) i = rhi g (0 : Nat) (i + (1 : Nat)) ∧ rhi g (1 : Nat) i = rhi g (1 : Nat) (i + (1 : Nat)) ∧ True) ∧ True ∧ ((100 : Nat) = (100 : Nat) ∧ (0 : Nat) = (0 : Nat) ∧ la g (0
: Nat) i = la g (0 : Nat) i ∧ la g (1 : Nat) i = la g (1 : Nat) i ∧ True) ∧ True ∧ ((100 : Nat) = (100 : Nat) ∧ (0 : Nat) = (0 : Nat) ∧ lb g len (0 : Nat) i =
 lb g len (0 : Nat) i ∧ lb g len (1 : Nat) i = lb g len (1 : Nat) i ∧ True) ∧ True ∧ ((100 : Nat) = (100 : Nat) ∧ (0 : Nat) = (0 : Nat) ∧ lc g len (0 : Nat) i =
 lc g len (0 : Nat) i ∧ lc g len (1 : Nat) i = lc g len (1 : Nat) i ∧ True) ∧ True)))))) ∧ ∀ (_ : Nat), i < len ∧ ppBig len cl = true → (((0 ≤ (↑i : Int) ∧ (↑i : Int) <
(↑len : Int)) ∧ (1 : Nat) ≤ (2 : Nat) * len) ∧ (0 : Nat) + Int.toNat (↑i : Int) * (2 : Nat) + (2 : Nat) ≤ (2 : Nat) * len ∧ ∃ (_ : Nat), (i < len ∧ ppBig len cl = true) ∧ ((True ∧ len = len) ∧ cl = cl ∧ (True ∧ (0 : Nat) = (0 :
 Nat)) ∧ (dcF g len i).2 = (dcF g len i).2 ∧ (dcF g len i).1 = (dcF g len i).1 ∧ (True ∧ (0 : Nat) = (0 : Nat)) ∧ (True ∧ (0 : Nat) = (0 : Nat)) ∧
(True ∧ (0 : Nat) = (0 : Nat)) ∧ cwF g len i = cwF g len i ∧ (↑i : Int) = (↑i : Int) ∧ True) ∧ True ∧ ((2 : Nat) * len ≤ (2 : Nat) * len ∧ ∀ (i : Nat), i < (2 : Nat) * len → g i = g i) ∧ True ∧ ((102 : Nat) = (102
: Nat) ∧ (0 : Nat) = (0 : Nat) ∧ rlo g (0 : Nat) (i + (1 : Nat)) = rlo g (0 : Nat) (i + (1 : Nat)) ∧ rlo g (1 : Nat) (i + (1 : Nat)) = rlo g (1 : Nat) (i + (1 : Nat)) ∧
 rhi g (0 : Nat) (i + (1 : Nat)) = rhi g (0 : Nat) (i + (1 : Nat)) ∧ rhi g (1 : Nat) (i + (1 : Nat)) = rhi g (1 : Nat) (i + (1 : Nat)) ∧ True) ∧ True ∧ ((100 : Nat) = (100 : Nat)
∧ (0 : Nat) = (0 : Nat) ∧ g ((0 : Nat) + Int.toNat (↑i : Int) * (2 : Nat)) = la g (0 : Nat) (i + (1 : Nat)) ∧ g ((0 : Nat) + Int.toNat (↑i : Int) * (2 : Nat) + (1 : Nat)) = la g (1 : Nat) (i + (1 : Nat)) ∧ True) ∧
 True ∧ ((100 : Nat) = (100 : Nat) ∧ (0 : Nat) = (0 : Nat) ∧ lb g len (0 : Nat) i = lb g len (0 : Nat) i ∧ lb g len (1 : Nat) i = lb g len (1 : Nat) i ∧ True) ∧ True ∧ ((100 :
 Nat) = (100 : Nat) ∧ (0 : Nat) = (0 : Nat) ∧ lc g len (0 : Nat) i = lc g len (0 : Nat) i ∧ lc g len (1 : Nat) i = lc g len (1 : Nat) i ∧ True) ∧ True) ∧ ∀ (_ : Nat), i < len ∧
 ppBig len cl = true → ((((↑i : Int) == Go.IntKind.wrap .i64 ((↑len : Int) - 1)) = true → (((0 : Int) ≤ 0 ∧ 0 < (↑len : Int)) ∧ (1 : Nat) ≤ (2 : Nat) * len) ∧ (2 : Nat) ≤ (2 : Nat) * len ∧ (((0 : Int) ≤ (1 :
 Int) ∧ 1 < (↑len : Int)) ∧ (1 : Nat) ≤ (2 : Nat) * len) ∧ (4 : Nat) ≤ (2 : Nat) * len ∧ ∃ (_ : Nat), (i < len ∧ ppBig len cl = true) ∧ ((True ∧ len = len) ∧ cl = cl ∧ (True ∧ (0 : Nat) = (0 : Nat)) ∧ Prod.snd
(dcF g len i) = (dcF g len i).2 ∧ (dcF g len i).1 = (dcF g len i).1 ∧ (True ∧ (0 : Nat) = (0 : Nat)) ∧ (True ∧ (0 : Nat) = (0 : Nat)) ∧ (True ∧ (0 : Nat) =
(0 : Nat)) ∧ cwF g len i = cwF g len i ∧ (↑i : Int) = (↑i : Int) ∧ True) ∧ True ∧ ((2 : Nat) * len ≤ (2 : Nat) * len ∧ ∀ (i : Nat), i < (2 : Nat) * len → g i = g i) ∧ True ∧ ((102 : Nat) = (102 : Nat) ∧ (0 : Nat) =
(0 : Nat) ∧ rlo g (0 : Nat) (i + (1 : Nat)) = rlo g (0 : Nat) (i + (1 : Nat)) ∧ rlo g (1 : Nat) (i + (1 : Nat)) = rlo g (1 : Nat) (i + (1 : Nat)) ∧ rhi g (0 :
 Nat) (i + (1 : Nat)) = rhi g (0 : Nat) (i + (1 : Nat)) ∧ rhi g (1 : Nat) (i + (1 : Nat)) = rhi g (1 : Nat) (i + (1 : Nat)) ∧ True) ∧ True ∧ ((100 : Nat) = (100 : Nat) ∧ (0 : Nat) = (0 : Nat) ∧
 la g (0 : Nat) (i + (1 : Nat)) = la g (0 : Nat) (i + (1 : Nat)) ∧ la g (1 : Nat) (i + (1 : Nat)) = la g (1 : Nat) (i + (1 : Nat)) ∧ True) ∧ True ∧ ((100 : Nat) = (100 : Nat) ∧ (0
: Nat) = (0 : Nat) ∧ g (0 : Nat) = lb g len (0 : Nat) (i + (1 : Nat)) ∧ g (1 : Nat) = lb g len (1 : Nat) (i + (1 : Nat)) ∧ True) ∧ True ∧ ((100 : Nat) = (100 : Nat) ∧ (0 : Nat) = (0 : Nat) ∧ g (2 : Nat) =
 lc g len (0 : Nat) (i + (1 : Nat)) ∧ g (3 : Nat) = lc g len (1 : Nat) (i + (1 : Nat)) ∧ True) ∧ True) ∧ (((↑i : Int) == Go.IntKind.wrap .i64 ((↑len : Int) - 1)) = false → (((↑i : Int) == Go.IntKind.wrap
.i64 ((↑len : Int) - 2)) = true → (((0 : Int) ≤ Go.IntKind.wrap .i64 ((↑i : Int) + 1) ∧ Go.IntKind.wrap .i64 ((↑i : Int) + 1) < (↑len : Int)) ∧ (1 : Nat) ≤ (2 : Nat) * len) ∧ (0 : Nat) + Int.toNat (Go.IntKind.wrap .i64 ((↑i :
 Int) + (1 : Int))) * (2 : Nat) + (2 : Nat) ≤ (2 : Nat) * len ∧ (((0 : Int) ≤ 0 ∧ 0 < (↑len : Int)) ∧ (1 : Nat) ≤ (2 : Nat) * len) ∧ (2 : Nat) ≤ (2 : Nat) * len ∧ ∃ (_ : Nat), (i < len ∧ ppBig len cl = true) ∧ ((True
∧ len = len) ∧ cl = cl ∧ (True ∧ (0 : Nat) = (0 : Nat)) ∧ (dcF g len i).2 = (dcF g len i).2 ∧ (dcF g len i).1 = (dcF g len i).1 ∧ (True ∧ (0 : Nat) =
(0 : Nat)) ∧ (True ∧ (0 : Nat) = (0 : Nat)) ∧ (True ∧ (0 : Nat) = (0 : Nat)) ∧ cwF g len i = cwF g len i ∧ (↑i : Int) = (↑i : Int) ∧ True) ∧ True ∧ ((2 : Nat) * len ≤ (2 : Nat) * len ∧ ∀ (i : Nat), i < (2 : Nat) *
 len → g i = g i) ∧ True ∧ ((102 : Nat) = (102 : Nat) ∧ (0 : Nat) = (0 : Nat) ∧ rlo g (0 : Nat) (i + (1 : Nat)) = rlo g (0 : Nat) (i + (1 : Nat)) ∧ rlo g (1 : Nat) (i + (1 : Nat)) =
 rlo g (1 : Nat) (i + (1 : Nat)) ∧ rhi g (0 : Nat) (i + (1 : Nat)) = rhi g (0 : Nat) (i + (1 : Nat)) ∧ rhi g (1 : Nat) (i + (1 : Nat)) = rhi g (1 : Nat) (i + (1
: Nat)) ∧ True) ∧ True ∧ ((100 : Nat) = (100 : Nat) ∧ (0 : Nat) = (0 : Nat) ∧ la g (0 : Nat) (i + (1 : Nat)) = la g (0 : Nat) (i + (1 : Nat)) ∧ la g (1 : Nat) (i + (1 : Nat)) =
 la g (1 : Nat) (i + (1 : Nat)) ∧ True) ∧ True ∧ ((100 : Nat) = (100 : Nat) ∧ (0 : Nat) = (0 : Nat) ∧ g ((0 : Nat) + Int.toNat (Go.IntKind.wrap .i64 ((↑i : Int) + 1)) * (2 : Nat)) = lb g len (0 : Nat) (i +
(1 : Nat)) ∧ g ((0 : Nat) + Int.toNat (Go.IntKind.wrap .i64 ((↑i : Int) + 1)) * (2 : Nat) + (1 : Nat)) = lb g len (1 : Nat) (i + (1 : Nat)) ∧ True) ∧ True ∧ ((100 : Nat) = (100 : Nat) ∧ (0 : Nat) = (0 : Nat) ∧ g (0 : Nat) =
 lc g len (0 : Nat) (i + (1 : Nat)) ∧ g (1 : Nat) = lc g len (1 : Nat) (i + (1 : Nat)) ∧ True) ∧ True) ∧ (((↑i : Int) == Go.IntKind.wrap .i64 ((↑len : Int) - 2)) = false → (((0 : Int) ≤ Go.IntKind.wrap .i64
((↑i : Int) + 1) ∧ Go.IntKind.wrap .i64 ((↑i : Int) + 1) < (↑len : Int)) ∧ (1 : Nat) ≤ (2 : Nat) * len) ∧ (0 : Nat) + Int.toNat (Go.IntKind.wrap .i64 ((↑i : Int) + 1)) * (2 : Nat) + (2 : Nat) ≤ (2 : Nat) * len ∧ (((0 : Int) ≤
 Go.IntKind.wrap .i64 ((↑i : Int) + 2) ∧ Go.IntKind.wrap .i64 ((↑i : Int) + 2) < (↑len : Int)) ∧ (1 : Nat) ≤ (2 : Nat) * len) ∧ (0 : Nat) + Int.toNat (Go.IntKind.wrap .i64 ((↑i : Int) + 2)) * (2 : Nat) + (2 : Nat) ≤ (2 : Nat) *
 len ∧ ∃ (_ : Nat), (i < len ∧ ppBig len cl = true) ∧ ((True ∧ len = len) ∧ cl = cl ∧ (True ∧ (0 : Nat) = (0 : Nat)) ∧ (dcF g len i).2 = (dcF g len i).2 ∧ Prod.fst
(dcF g len i) = (dcF g len i).1 ∧ (True ∧ (0 : Nat) = (0 : Nat)) ∧ (True ∧ (0 : Nat) = (0 : Nat)) ∧ (True ∧ (0 : Nat) = (0 : Nat)) ∧ cwF g len i = cwF g len i ∧ (↑i : Int)
= (↑i : Int) ∧ True) ∧ True ∧ ((2 : Nat) * len ≤ (2 : Nat) * len ∧ ∀ (i : Nat), i < (2 : Nat) * len → g i = g i) ∧ True ∧ ((102 : Nat) = (102 : Nat) ∧ (0 : Nat) = (0 : Nat) ∧ rlo g (0 : Nat) (i + (1 : Nat)) = rlo g
(0 : Nat) (i + (1 : Nat)) ∧ rlo g (1 : Nat) (i + (1 : Nat)) = rlo g (1 : Nat) (i + (1 : Nat)) ∧ rhi g (0 : Nat) (i + (1 : Nat)) = rhi g (0 : Nat) (i + (1 : Nat)) ∧
 rhi g (1 : Nat) (i + (1 : Nat)) = rhi g (1 : Nat) (i + (1 : Nat)) ∧ True) ∧ True ∧ ((100 : Nat) = (100 : Nat) ∧ (0 : Nat) = (0 : Nat) ∧ la g (0 : Nat) (i + (1 : Nat)) = la g (0 :
 Nat) (i + (1 : Nat)) ∧ la g (1 : Nat) (i + (1 : Nat)) = la g (1 : Nat) (i + (1 : Nat)) ∧ True) ∧ True ∧ ((100 : Nat) = (100 : Nat) ∧ (0 : Nat) = (0 : Nat) ∧ g ((0 : Nat) + Int.toNat (Go.IntKind.wrap .i64 ((↑i :
 Int) + (1 : Int))) * (2 : Nat)) = lb g len (0 : Nat) (i + (1 : Nat)) ∧ g ((0 : Nat) + Int.toNat (Go.IntKind.wrap .i64 ((↑i : Int) + 1)) * (2 : Nat) + (1 : Nat)) = lb g len (1 : Nat) (i + (1 : Nat)) ∧ True)
∧ True ∧ ((100 : Nat) = (100 : Nat) ∧ (0 : Nat) = (0 : Nat) ∧ g ((0 : Nat) + Int.toNat (Go.IntKind.wrap .i64 ((↑i : Int) + 2)) * (2 : Nat)) = lc g len (0 : Nat) (i + (1 : Nat)) ∧ g ((0 : Nat) + Int.toNat (Go.IntKind.wrap
.i64 ((↑i : Int) + 2)) * (2 : Nat) + (1 : Nat)) = lc g len (1 : Nat) (i + (1 : Nat)) ∧ True) ∧ True))) ∧ ∀ (_ : Nat), i < len ∧ ppBig len cl = true → (fok BinOp.sub .f64 (lb g len (0
: Nat) (i + (1 : Nat))) (la g (0 : Nat) (i + (1 : Nat))) ∧ fok BinOp.add .f64 (lb g len (1 : Nat) (i + (1 : Nat))) (la g (1 : Nat) (i + (1 : Nat))) ∧ fok BinOp.mul .f64 (fop
 BinOp.sub .f64 (lb g len (0 : Nat) (i + (1 : Nat))) (la g (0 : Nat) (i + (1 : Nat)))) (fop BinOp.add .f64 (lb g len (1 : Nat) (i + (1 : Nat))) (la g (1 : Nat) (i + (1 :
 Nat)))) ∧ fok BinOp.add .f64 (cwF g len i) (fop BinOp.mul .f64 (fop BinOp.sub .f64 (lb g len (0 : Nat) (i + (1 : Nat))) (la g (0 : Nat) (i + (1 : Nat)))) (fop BinOp.add
.f64 (lb g len (1 : Nat) (i + (1 : Nat))) (la g (1 : Nat) (i + (1 : Nat))))) ∧ ∃ (_ : Nat), (i < len ∧ ppBig len cl = true) ∧ ((True ∧ len = len) ∧ cl = cl ∧ (True ∧ (0 : Nat) = (0 : Nat)) ∧
 (dcF g len i).2 = (dcF g len i).2 ∧ (dcF g len i).1 = (dcF g len i).1 ∧ (True ∧ (0 : Nat) = (0 : Nat)) ∧ (True ∧ (0 : Nat) = (0 : Nat)) ∧ (True ∧ (0 :
 Nat) = (0 : Nat)) ∧ fop BinOp.add .f64 (cwF g len i) (fop BinOp.mul .f64 (fop BinOp.sub .f64 (lb g len (0 : Nat) (i + (1 : Nat))) (la g (0 : Nat) (i + (1 : Nat)))) (fop
 BinOp.add .f64 (lb g len (1 : Nat) (i + (1 : Nat))) (la g (1 : Nat) (i + (1 : Nat))))) = cwF g len (i + (1 : Nat)) ∧ (↑i : Int) = (↑i : Int) ∧ True) ∧ True ∧ ((2 : Nat) * len ≤ (2 : Nat) * len ∧ ∀
(i : Nat), i < (2 : Nat) * len → g i = g i) ∧ True ∧ ((102 : Nat) = (102 : Nat) ∧ (0 : Nat) = (0 : Nat) ∧ rlo g (0 : Nat) (i + (1 : Nat)) = rlo g (0 : Nat) (i + (1 : Nat)) ∧ rlo g (1 : Nat) (i +
(1 : Nat)) = rlo g (1 : Nat) (i + (1 : Nat)) ∧ rhi g (0 : Nat) (i + (1 : Nat)) = rhi g (0 : Nat) (i + (1 : Nat)) ∧ rhi g (1 : Nat) (i + (1 : Nat)) = rhi g (1 :
 Nat) (i + (1 : Nat)) ∧ True) ∧ True ∧ ((100 : Nat) = (100 : Nat) ∧ (0 : Nat) = (0 : Nat) ∧ la g (0 : Nat) (i + (1 : Nat)) = la g (0 : Nat) (i + (1 : Nat)) ∧ la g (1 : Nat) (i + (1 : Nat)) =
 la g (1 : Nat) (i + (1 : Nat)) ∧ True) ∧ True ∧ ((100 : Nat) = (100 : Nat) ∧ (0 : Nat) = (0 : Nat) ∧ lb g len (0 : Nat) (i + (1 : Nat)) = lb g len (0 : Nat) (i + (1 : Nat)) ∧ lb
 g len (1 : Nat) (i + (1 : Nat)) = lb g len (1 : Nat) (i + (1 : Nat)) ∧ True) ∧ True ∧ ((100 : Nat) = (100 : Nat) ∧ (0 : Nat) = (0 : Nat) ∧ lc g len (0 : Nat) (i + (1 : Nat)) = lc g len (0 : Nat)
(i + (1 : Nat)) ∧ lc g len (1 : Nat) (i + (1 : Nat)) = lc g len (1 : Nat) (i + (1 : Nat)) ∧ True) ∧ True) ∧ ∀ (_ : Nat), i < len ∧ ppBig len cl = true → ((dcF g len i).2 =
 true → ∃ (i' : Nat), (i' ≤ len ∧ ppBig len cl = true) ∧ len - i' < len - i ∧ ((True ∧ len = len) ∧ cl = cl ∧ (True ∧ (0 : Nat) = (0 : Nat)) ∧ (dcF g len i).2 = (dcF g len i').2 ∧
 (dcF g len i).1 = (dcF g len i').1 ∧ (True ∧ (0 : Nat) = (0 : Nat)) ∧ (True ∧ (0 : Nat) = (0 : Nat)) ∧ (True ∧ (0 : Nat) = (0 : Nat)) ∧ cwF g len (i + (1 : Nat)) =
 cwF g len i' ∧ Go.IntKind.wrap .i64 ((↑i : Int) + 1) = (↑i' : Int) ∧ True) ∧ True ∧ ((2 : Nat) * len ≤ (2 : Nat) * len ∧ ∀ (i : Nat), i < (2 : Nat) * len → g i = g i) ∧ True ∧ ((102 : Nat) = (102 : Nat) ∧ (0 : Nat) = (0 :
 Nat) ∧ rlo g (0 : Nat) (i + (1 : Nat)) = rlo g (0 : Nat) i' ∧ rlo g (1 : Nat) (i + (1 : Nat)) = rlo g (1 : Nat) i' ∧ rhi g (0 : Nat) (i + (1 : Nat)) =
 rhi g (0 : Nat) i' ∧ rhi g (1 : Nat) (i + (1 : Nat)) = rhi g (1 : Nat) i' ∧ True) ∧ True ∧ ((100 : Nat) = (100 : Nat) ∧ (0 : Nat) = (0 : Nat) ∧ la g (0 : Nat) (i + (1 : Nat)) =
 la g (0 : Nat) i' ∧ la g (1 : Nat) (i + (1 : Nat)) = la g (1 : Nat) i' ∧ True) ∧ True ∧ ((100 : Nat) = (100 : Nat) ∧ (0 : Nat) = (0 : Nat) ∧ lb g len (0 : Nat) (i + (1 : Nat)) =
 lb g len (0 : Nat) i' ∧ lb g len (1 : Nat) (i + (1 : Nat)) = lb g len (1 : Nat) i' ∧ True) ∧ True ∧ ((100 : Nat) = (100 : Nat) ∧ (0 : Nat) = (0 : Nat) ∧ lc g len (0 : Nat) (i +
(1 : Nat)) = lc g len (0 : Nat) i' ∧ lc g len (1 : Nat) (i + (1 : Nat)) = lc g len (1 : Nat) i' ∧ True) ∧ True) ∧ ((dcF g len i).2 = false → fok BinOp.sub .f64
(lb g len (0 : Nat) (i + (1 : Nat))) (la g (0 : Nat) (i + (1 : Nat))) ∧ fok BinOp.sub .f64 (lc g len (1 : Nat) (i + (1 : Nat))) (lb g len (1 : Nat) (i + (1 : Nat))) ∧
 fok BinOp.mul .f64 (fop BinOp.sub .f64 (lb g len (0 : Nat) (i + (1 : Nat))) (la g (0 : Nat) (i + (1 : Nat)))) (fop BinOp.sub .f64 (lc g len (1 : Nat) (i + (1 : Nat)))
(lb g len (1 : Nat) (i + (1 : Nat)))) ∧ fok BinOp.sub .f64 (lb g len (1 : Nat) (i + (1 : Nat))) (la g (1 : Nat) (i + (1 : Nat))) ∧ fok BinOp.sub .f64 (lc g len (0 :
 Nat) (i + (1 : Nat))) (lb g len (0 : Nat) (i + (1 : Nat))) ∧ fok BinOp.mul .f64 (fop BinOp.sub .f64 (lb g len (1 : Nat) (i + (1 : Nat))) (la g (1 : Nat) (i + (1 : Nat)))) (fop
 BinOp.sub .f64 (lc g len (0 : Nat) (i + (1 : Nat))) (lb g len (0 : Nat) (i + (1 : Nat)))) ∧ fok BinOp.sub .f64 (fop BinOp.mul .f64 (fop BinOp.sub .f64 (lb g len (0 : Nat) (i + (1
: Nat))) (la g (0 : Nat) (i + (1 : Nat)))) (fop BinOp.sub .f64 (lc g len (1 : Nat) (i + (1 : Nat))) (lb g len (1 : Nat) (i + (1 : Nat))))) (fop BinOp.mul .f64 (fop BinOp.sub .f64
(lb g len (1 : Nat) (i + (1 : Nat))) (la g (1 : Nat) (i + (1 : Nat)))) (fop BinOp.sub .f64 (lc g len (0 : Nat) (i + (1 : Nat))) (lb g len (0 : Nat) (i + (1 : Nat))))) ∧
(((dcF g len i).1 == (0 : Int)) = true → (fLt .f64 (fop BinOp.sub .f64 (fop BinOp.mul .f64 (fop BinOp.sub .f64 (lb g len (0 : Nat) (i + (1 : Nat))) (la g (0 : Nat)
(i + (1 : Nat)))) (fop BinOp.sub .f64 (lc g len (1 : Nat) (i + (1 : Nat))) (lb g len (1 : Nat) (i + (1 : Nat))))) (fop BinOp.mul .f64 (fop BinOp.sub .f64 (lb g len (1 : Nat) (i +
(1 : Nat))) (la g (1 : Nat) (i + (1 : Nat)))) (fop BinOp.sub .f64 (lc g len (0 : Nat) (i + (1 : Nat))) (lb g len (0 : Nat) (i + (1 : Nat)))))) (0 : Nat) = true → ∃ (i' : Nat), (i' ≤ len ∧
 ppBig len cl = true) ∧ len - i' < len - i ∧ ((True ∧ len = len) ∧ cl = cl ∧ (True ∧ (0 : Nat) = (0 : Nat)) ∧ (dcF g len i).2 = (dcF g len i').2 ∧ (-1 : Int) = Prod.fst
(dcF g len i') ∧ (True ∧ (0 : Nat) = (0 : Nat)) ∧ (True ∧ (0 : Nat) = (0 : Nat)) ∧ (True ∧ (0 : Nat) = (0 : Nat)) ∧ cwF g len (i + (1 : Nat)) = cwF g len i' ∧ Go.IntKind.wrap .i64 ((↑i : Int) + (1
: Int)) = (↑i' : Int) ∧ True) ∧ True ∧ ((2 : Nat) * len ≤ (2 : Nat) * len ∧ ∀ (i : Nat), i < (2 : Nat) * len → g i = g i) ∧ True ∧ ((102 : Nat) = (102 : Nat) ∧ (0 : Nat) = (0 : Nat) ∧ rlo g (0 : Nat) (i + (1 : Nat)) =
 rlo g (0 : Nat) i' ∧ rlo g (1 : Nat) (i + (1 : Nat)) = rlo g (1 : Nat) i' ∧ rhi g (0 : Nat) (i + (1 : Nat)) = rhi g (0 : Nat) i' ∧ rhi g (1 :
 Nat) (i + (1 : Nat)) = rhi g (1 : Nat) i' ∧ True) ∧ True ∧ ((100 : Nat) = (100 : Nat) ∧ (0 : Nat) = (0 : Nat) ∧ la g (0 : Nat) (i + (1 : Nat)) = la g (0 : Nat) i' ∧ la g (1 :
 Nat) (i + (1 : Nat)) = la g (1 : Nat) i' ∧ True) ∧ True ∧ ((100 : Nat) = (100 : Nat) ∧ (0 : Nat) = (0 : Nat) ∧ lb g len (0 : Nat) (i + (1 : Nat)) = lb g len (0 : Nat) i' ∧ lb g
 len (1 : Nat) (i + (1 : Nat)) = lb g len (1 : Nat) i' ∧ True) ∧ True ∧ ((100 : Nat) = (100 : Nat) ∧ (0 : Nat) = (0 : Nat) ∧ lc g len (0 : Nat) (i + (1 : Nat)) = lc g len (0 : Nat) i' ∧
 lc g len (1 : Nat) (i + (1 : Nat)) = lc g len (1 : Nat) i' ∧ True) ∧ True) ∧ (fLt .f64 (fop BinOp.sub .f64 (fop BinOp.mul .f64 (fop BinOp.sub .f64 (lb g len (0 : Nat) (i +
(1 : Nat))) (la g (0 : Nat) (i + (1 : Nat)))) (fop BinOp.sub .f64 (lc g len (1 : Nat) (i + (1 : Nat))) (lb g len (1 : Nat) (i + (1 : Nat))))) (fop BinOp.mul .f64 (fop BinOp.sub
.f64 (lb g len (1 : Nat) (i + (1 : Nat))) (la g (1 : Nat) (i + (1 : Nat)))) (fop BinOp.sub .f64 (lc g len (0 : Nat) (i + (1 : Nat))) (lb g len (0 : Nat) (i + (1 : Nat))))))
(0 : Nat) = false → (fGt .f64 (fop BinOp.sub .f64 (fop BinOp.mul .f64 (fop BinOp.sub .f64 (lb g len (0 : Nat) (i + (1 : Nat))) (la g (0 : Nat) (i + (1 : Nat)))) (fop BinOp.sub .f64
(lc g len (1 : Nat) (i + (1 : Nat))) (lb g len (1 : Nat) (i + (1 : Nat))))) (fop BinOp.mul .f64 (fop BinOp.sub .f64 (lb g len (1 : Nat) (i + (1 : Nat))) (la g (1 :
 Nat) (i + (1 : Nat)))) (fop BinOp.sub .f64 (lc g len (0 : Nat) (i + (1 : Nat))) (lb g len (0 : Nat) (i + (1 : Nat)))))) (0 : Nat) = true → ∃ (i' : Nat), (i' ≤ len ∧ ppBig len cl = true) ∧
 len - i' < len - i ∧ ((True ∧ len = len) ∧ cl = cl ∧ (True ∧ (0 : Nat) = (0 : Nat)) ∧ (dcF g len i).2 = (dcF g len i').2 ∧ (1 : Int) = (dcF g len i').1 ∧ (True ∧ (0 : Nat) =
(0 : Nat)) ∧ (True ∧ (0 : Nat) = (0 : Nat)) ∧ (True ∧ (0 : Nat) = (0 : Nat)) ∧ cwF g len (i + (1 : Nat)) = cwF g len i' ∧ Go.IntKind.wrap .i64 ((↑i : Int) + 1) = (↑i' : Int) ∧ True) ∧ True ∧ ((2 : Nat) *
 len ≤ (2 : Nat) * len ∧ ∀ (i : Nat), i < (2 : Nat) * len → g i = g i) ∧ True ∧ ((102 : Nat) = (102 : Nat) ∧ (0 : Nat) = (0 : Nat) ∧ rlo g (0 : Nat) (i + (1 : Nat)) = rlo g (0 : Nat) i' ∧ rlo g (1
: Nat) (i + (1 : Nat)) = rlo g (1 : Nat) i' ∧ rhi g (0 : Nat) (i + (1 : Nat)) = rhi g (0 : Nat) i' ∧ rhi g (1 : Nat) (i + (1 : Nat)) = rhi g (1 : Nat) i' ∧
 True) ∧ True ∧ ((100 : Nat) = (100 : Nat) ∧ (0 : Nat) = (0 : Nat) ∧ la g (0 : Nat) (i + (1 : Nat)) = la g (0 : Nat) i' ∧ la g (1 : Nat) (i + (1 : Nat)) = la g (1 : Nat) i' ∧
 True) ∧ True ∧ ((100 : Nat) = (100 : Nat) ∧ (0 : Nat) = (0 : Nat) ∧ lb g len (0 : Nat) (i + (1 : Nat)) = lb g len (0 : Nat) i' ∧ lb g len (1 : Nat) (i + (1 : Nat)) = lb g len (1
: Nat) i' ∧ True) ∧ True ∧ ((100 : Nat) = (100 : Nat) ∧ (0 : Nat) = (0 : Nat) ∧ lc g len (0 : Nat) (i + (1 : Nat)) = lc g len (0 : Nat) i' ∧ lc g len (1 : Nat) (i + (1 : Nat)) =
 lc g len (1 : Nat) i' ∧ True) ∧ True) ∧ (fGt .f64 (fop BinOp.sub .f64 (fop BinOp.mul .f64 (fop BinOp.sub .f64 (lb g len (0 : Nat) (i + (1 : Nat))) (la g (0 : Nat) (i + (1 :
 Nat)))) (fop BinOp.sub .f64 (lc g len (1 : Nat) (i + (1 : Nat))) (lb g len (1 : Nat) (i + (1 : Nat))))) (fop BinOp.mul .f64 (fop BinOp.sub .f64 (lb g len (1 : Nat) (i + (1 :
 Nat))) (la g (1 : Nat) (i + (1 : Nat)))) (fop BinOp.sub .f64 (lc g len (0 : Nat) (i + (1 : Nat))) (lb g len (0 : Nat) (i + (1 : Nat)))))) (0 : Nat) = false → ∃ (i' : Nat), (i' ≤ len ∧
 ppBig len cl = true) ∧ len - i' < len - i ∧ ((True ∧ len = len) ∧ cl = cl ∧ (True ∧ (0 : Nat) = (0 : Nat)) ∧ (dcF g len i).2 = (dcF g len i').2 ∧ (dcF g
 len i).1 = (dcF g len i').1 ∧ (True ∧ (0 : Nat) = (0 : Nat)) ∧ (True ∧ (0 : Nat) = (0 : Nat)) ∧ (True ∧ (0 : Nat) = (0 : Nat)) ∧ cwF g len (i + (1 : Nat)) = cwF g len i' ∧ Go.IntKind.wrap
.i64 ((↑i : Int) + 1) = (↑i' : Int) ∧ True) ∧ True ∧ ((2 : Nat) * len ≤ (2 : Nat) * len ∧ ∀ (i : Nat), i < (2 : Nat) * len → g i = g i) ∧ True ∧ ((102 : Nat) = (102 : Nat) ∧ (0 : Nat) = (0 : Nat) ∧ rlo g (0 : Nat) (i + (1 :
 Nat)) = rlo g (0 : Nat) i' ∧ rlo g (1 : Nat) (i + (1 : Nat)) = rlo g (1 : Nat) i' ∧ rhi g (0 : Nat) (i + (1 : Nat)) = rhi g (0 : Nat) i' ∧ rhi
 g (1 : Nat) (i + (1 : Nat)) = rhi g (1 : Nat) i' ∧ True) ∧ True ∧ ((100 : Nat) = (100 : Nat) ∧ (0 : Nat) = (0 : Nat) ∧ la g (0 : Nat) (i + (1 : Nat)) = la g (0 : Nat) i' ∧ la g
(1 : Nat) (i + (1 : Nat)) = la g (1 : Nat) i' ∧ True) ∧ True ∧ ((100 : Nat) = (100 : Nat) ∧ (0 : Nat) = (0 : Nat) ∧ lb g len (0 : Nat) (i + (1 : Nat)) = lb g len (0 : Nat) i' ∧
 lb g len (1 : Nat) (i + (1 : Nat)) = lb g len (1 : Nat) i' ∧ True) ∧ True ∧ ((100 : Nat) = (100 : Nat) ∧ (0 : Nat) = (0 : Nat) ∧ lc g len (0 : Nat) (i + (1 : Nat)) = lc g len (0
: Nat) i' ∧ lc g len (1 : Nat) (i + (1 : Nat)) = lc g len (1 : Nat) i' ∧ True) ∧ True))) ∧ (((dcF g len i).1 == (0 : Int)) = false → (fLt .f64 (fop BinOp.sub .f64 (fop
 BinOp.mul .f64 (fop BinOp.sub .f64 (lb g len (0 : Nat) (i + (1 : Nat))) (la g (0 : Nat) (i + (1 : Nat)))) (fop BinOp.sub .f64 (lc g len (1 : Nat) (i + (1 : Nat))) (lb
 g len (1 : Nat) (i + (1 : Nat))))) (fop BinOp.mul .f64 (fop BinOp.sub .f64 (lb g len (1 : Nat) (i + (1 : Nat))) (la g (1 : Nat) (i + (1 : Nat)))) (fop BinOp.sub .f64 (lc g len (0
: Nat) (i + (1 : Nat))) (lb g len (0 : Nat) (i + (1 : Nat)))))) (0 : Nat) = true → (((dcF g len i).1 == (1 : Int)) = true → ∃ (i' : Nat), (i' ≤ len ∧ ppBig len cl = true) ∧ len - i' < len -
 i ∧ ((True ∧ len = len) ∧ cl = cl ∧ (True ∧ (0 : Nat) = (0 : Nat)) ∧ (dcF g len i').2 = true ∧ (dcF g len i).1 = (dcF g len i').1 ∧ (True ∧ (0 : Nat) = (0 : Nat)) ∧ (True ∧ (0
: Nat) = (0 : Nat)) ∧ (True ∧ (0 : Nat) = (0 : Nat)) ∧ cwF g len (i + (1 : Nat)) = cwF g len i' ∧ Go.IntKind.wrap .i64 ((↑i : Int) + 1) = (↑i' : Int) ∧ True) ∧ True ∧ ((2 : Nat) * len ≤ (2 : Nat) * len ∧ ∀
(i : Nat), i < (2 : Nat) * len → g i = g i) ∧ True ∧ ((102 : Nat) = (102 : Nat) ∧ (0 : Nat) = (0 : Nat) ∧ rlo g (0 : Nat) (i + (1 : Nat)) = rlo g (0 : Nat) i' ∧ rlo g (1 : Nat) (i + (1 : Nat)) =
 rlo g (1 : Nat) i' ∧ rhi g (0 : Nat) (i + (1 : Nat)) = rhi g (0 : Nat) i' ∧ rhi g (1 : Nat) (i + (1 : Nat)) = rhi g (1 : Nat) i' ∧ True) ∧ True ∧ ((100 : Nat) =
(100 : Nat) ∧ (0 : Nat) = (0 : Nat) ∧ la g (0 : Nat) (i + (1 : Nat)) = la g (0 : Nat) i' ∧ la g (1 : Nat) (i + (1 : Nat)) = la g (1 : Nat) i' ∧ True) ∧ True ∧ ((100 : Nat) = (100
: Nat) ∧ (0 : Nat) = (0 : Nat) ∧ lb g len (0 : Nat) (i + (1 : Nat)) = lb g len (0 : Nat) i' ∧ lb g len (1 : Nat) (i + (1 : Nat)) = lb g len (1 : Nat) i' ∧ True) ∧ True ∧ ((100 :
 Nat) = (100 : Nat) ∧ (0 : Nat) = (0 : Nat) ∧ lc g len (0 : Nat) (i + (1 : Nat)) = lc g len (0 : Nat) i' ∧ lc g len (1 : Nat) (i + (1 : Nat)) = lc g len (1 : Nat) i' ∧ True) ∧
 True) ∧ (((dcF g len i).1 == (1 : Int)) = false → ∃ (i' : Nat), (i' ≤ len ∧ ppBig len cl = true) ∧ len - i' < len - i ∧ ((True ∧ len = len) ∧ cl = cl ∧ (True ∧ (0 : Nat) = (0 : Nat)) ∧ Prod.snd
(dcF g len i) = (dcF g len i').2 ∧ (dcF g len i).1 = (dcF g len i').1 ∧ (True ∧ (0 : Nat) = (0 : Nat)) ∧ (True ∧ (0 : Nat) = (0 : Nat)) ∧ (True ∧ (0 : Nat) =
(0 : Nat)) ∧ cwF g len (i + (1 : Nat)) = cwF g len i' ∧ Go.IntKind.wrap .i64 ((↑i : Int) + 1) = (↑i' : Int) ∧ True) ∧ True ∧ ((2 : Nat) * len ≤ (2 : Nat) * len ∧ ∀ (i : Nat), i < (2 : Nat) * len → g i = g
 i) ∧ True ∧ ((102 : Nat) = (102 : Nat) ∧ (0 : Nat) = (0 : Nat) ∧ rlo g (0 : Nat) (i + (1 : Nat)) = rlo g (0 : Nat) i' ∧ rlo g (1 : Nat) (i + (1 : Nat)) = rlo g (1 : Nat) i' ∧
 rhi g (0 : Nat) (i + (1 : Nat)) = rhi g (0 : Nat) i' ∧ rhi g (1 : Nat) (i + (1 : Nat)) = rhi g (1 : Nat) i' ∧ True) ∧ True ∧ ((100 : Nat) = (100 : Nat) ∧ (0 : Nat) = (0 : Nat) ∧
 la g (0 : Nat) (i + (1 : Nat)) = la g (0 : Nat) i' ∧ la g (1 : Nat) (i + (1 : Nat)) = la g (1 : Nat) i' ∧ True) ∧ True ∧ ((100 : Nat) = (100 : Nat) ∧ (0 : Nat) = (0 : Nat) ∧
 lb g len (0 : Nat) (i + (1 : Nat)) = lb g len (0 : Nat) i' ∧ lb g len (1 : Nat) (i + (1 : Nat)) = lb g len (1 : Nat) i' ∧ True) ∧ True ∧ ((100 : Nat) = (100 : Nat) ∧ (0 : Nat) =
(0 : Nat) ∧ lc g len (0 : Nat) (i + (1 : Nat)) = lc g len (0 : Nat) i' ∧ lc g len (1 : Nat) (i + (1 : Nat)) = lc g len (1 : Nat) i' ∧ True) ∧ True)) ∧ (fLt .f64 (fop
 BinOp.sub .f64 (fop BinOp.mul .f64 (fop BinOp.sub .f64 (lb g len (0 : Nat) (i + (1 : Nat))) (la g (0 : Nat) (i + (1 : Nat)))) (fop BinOp.sub .f64 (lc g len (1 : Nat) (i + (1 :
 Nat))) (lb g len (1 : Nat) (i + (1 : Nat))))) (fop BinOp.mul .f64 (fop BinOp.sub .f64 (lb g len (1 : Nat) (i + (1 : Nat))) (la g (1 : Nat) (i + (1 : Nat)))) (fop BinOp.sub .f64
(lc g len (0 : Nat) (i + (1 : Nat))) (lb g len (0 : Nat) (i + (1 : Nat)))))) (0 : Nat) = false → (fGt .f64 (fop BinOp.sub .f64 (fop BinOp.mul .f64 (fop BinOp.sub .f64 (lb g
 len (0 : Nat) (i + (1 : Nat))) (la g (0 : Nat) (i + (1 : Nat)))) (fop BinOp.sub .f64 (lc g len (1 : Nat) (i + (1 : Nat))) (lb g len (1 : Nat) (i + (1 : Nat))))) (fop BinOp.mul .f64
(fop BinOp.sub .f64 (lb g len (1 : Nat) (i + (1 : Nat))) (la g (1 : Nat) (i + (1 : Nat)))) (fop BinOp.sub .f64 (lc g len (0 : Nat) (i + (1 : Nat))) (lb g len (0 :
 Nat) (i + (1 : Nat)))))) (0 : Nat) = true → (((dcF g len i).1 == (-1 : Int)) = true → ∃ (i' : Nat), (i' ≤ len ∧ ppBig len cl = true) ∧ len - i' < len - i ∧ ((True ∧ len = len) ∧ cl = cl ∧ (True ∧ (0 : Nat) =
(0 : Nat)) ∧ (dcF g len i').2 = true ∧ (dcF g len i).1 = (dcF g len i').1 ∧ (True ∧ (0 : Nat) = (0 : Nat)) ∧ (True ∧ (0 : Nat) = (0 : Nat)) ∧ (True ∧ (0 : Nat) = (0 : Nat)) ∧
 cwF g len (i + (1 : Nat)) = cwF g len i' ∧ Go.IntKind.wrap .i64 ((↑i : Int) + 1) = (↑i' : Int) ∧ True) ∧ True ∧ ((2 : Nat) * len ≤ (2 : Nat) * len ∧ ∀ (i : Nat), i < (2 : Nat) * len → g i = g i) ∧ True ∧
((102 : Nat) = (102 : Nat) ∧ (0 : Nat) = (0 : Nat) ∧ rlo g (0 : Nat) (i + (1 : Nat)) = rlo g (0 : Nat) i' ∧ rlo g (1 : Nat) (i + (1 : Nat)) = rlo g (1 : Nat) i' ∧
 rhi g (0 : Nat) (i + (1 : Nat)) = rhi g (0 : Nat) i' ∧ rhi g (1 : Nat) (i + (1 : Nat)) = rhi g (1 : Nat) i' ∧ True) ∧ True ∧ ((100 : Nat) = (100 : Nat) ∧ (0 : Nat) = (0 : Nat) ∧
 la g (0 : Nat) (i + (1 : Nat)) = la g (0 : Nat) i' ∧ la g (1 : Nat) (i + (1 : Nat)) = la g (1 : Nat) i' ∧ True) ∧ True ∧ ((100 : Nat) = (100 : Nat) ∧ (0 : Nat) = (0 : Nat) ∧
 lb g len (0 : Nat) (i + (1 : Nat)) = lb g len (0 : Nat) i' ∧ lb g len (1 : Nat) (i + (1 : Nat)) = lb g len (1 : Nat) i' ∧ True) ∧ True ∧ ((100 : Nat) = (100 : Nat) ∧ (0 : Nat) =
(0 : Nat) ∧ lc g len (0 : Nat) (i + (1 : Nat)) = lc g len (0 : Nat) i' ∧ lc g len (1 : Nat) (i + (1 : Nat)) = lc g len (1 : Nat) i' ∧ True) ∧ True) ∧ ((Prod.fst
(dcF g len i) == (-1 : Int)) = false → ∃ (i' : Nat), (i' ≤ len ∧ ppBig len cl = true) ∧ len - i' < len - i ∧ ((True ∧ len = len) ∧ cl = cl ∧ (True ∧ (0 : Nat) = (0 : Nat)) ∧ (dcF g len i).2
= (dcF g len i').2 ∧ (dcF g len i).1 = (dcF g len i').1 ∧ (True ∧ (0 : Nat) = (0 : Nat)) ∧ (True ∧ (0 : Nat) = (0 : Nat)) ∧ (True ∧ (0 : Nat) = (0 : Nat)) ∧
 cwF g len (i + (1 : Nat)) = cwF g len i' ∧ Go.IntKind.wrap .i64 ((↑i : Int) + 1) = (↑i' : Int) ∧ True) ∧ True ∧ ((2 : Nat) * len ≤ (2 : Nat) * len ∧ ∀ (i : Nat), i < (2 : Nat) * len → g i = g i) ∧ True ∧
((102 : Nat) = (102 : Nat) ∧ (0 : Nat) = (0 : Nat) ∧ rlo g (0 : Nat) (i + (1 : Nat)) = rlo g (0 : Nat) i' ∧ rlo g (1 : Nat) (i + (1 : Nat)) = rlo g (1 : Nat) i' ∧
 rhi g (0 : Nat) (i + (1 : Nat)) = rhi g (0 : Nat) i' ∧ rhi g (1 : Nat) (i + (1 : Nat)) = rhi g (1 : Nat) i' ∧ True) ∧ True ∧ ((100 : Nat) = (100 : Nat) ∧ (0 : Nat) = (0 : Nat) ∧
 la g (0 : Nat) (i + (1 : Nat)) = la g (0 : Nat) i' ∧ la g (1 : Nat) (i + (1 : Nat)) = la g (1 : Nat) i' ∧ True) ∧ True ∧ ((100 : Nat) = (100 : Nat) ∧ (0 : Nat) = (0 : Nat) ∧
 lb g len (0 : Nat) (i + (1 : Nat)) = lb g len (0 : Nat) i' ∧ lb g len (1 : Nat) (i + (1 : Nat)) = lb g len (1 : Nat) i' ∧ True) ∧ True ∧ ((100 : Nat) = (100 : Nat) ∧ (0 : Nat) =
(0 : Nat) ∧ lc g len (0 : Nat) (i + (1 : Nat)) = lc g len (0 : Nat) i' ∧ lc g len (1 : Nat) (i + (1 : Nat)) = lc g len (1 : Nat) i' ∧ True) ∧ True)) ∧ (fGt .f64 (fop
 BinOp.sub .f64 (fop BinOp.mul .f64 (fop BinOp.sub .f64 (lb g len (0 : Nat) (i + (1 : Nat))) (la g (0 : Nat) (i + (1 : Nat)))) (fop BinOp.sub .f64 (lc g len (1 : Nat) (i + (1 :
 Nat))) (lb g len (1 : Nat) (i + (1 : Nat))))) (fop BinOp.mul .f64 (fop BinOp.sub .f64 (lb g len (1 : Nat) (i + (1 : Nat))) (la g (1 : Nat) (i + (1 : Nat)))) (fop BinOp.sub .f64
(lc g len (0 : Nat) (i + (1 : Nat))) (lb g len (0 : Nat) (i + (1 : Nat)))))) (0 : Nat) = false → ∃ (i' : Nat), (i' ≤ len ∧ ppBig len cl = true) ∧ len - i' < len - i ∧ ((True ∧ len = len) ∧ cl = cl
∧ (True ∧ (0 : Nat) = (0 : Nat)) ∧ (dcF g len i).2 = (dcF g len i').2 ∧ (dcF g len i).1 = (dcF g len i').1 ∧ (True ∧ (0 : Nat) = (0 : Nat)) ∧ (True ∧
(0 : Nat) = (0 : Nat)) ∧ (True ∧ (0 : Nat) = (0 : Nat)) ∧ cwF g len (i + (1 : Nat)) = cwF g len i' ∧ Go.IntKind.wrap .i64 ((↑i : Int) + 1) = (↑i' : Int) ∧ True) ∧ True ∧ ((2 : Nat) * len ≤ (2 : Nat) * len ∧
∀ (i : Nat), i < (2 : Nat) * len → g i = g i) ∧ True ∧ ((102 : Nat) = (102 : Nat) ∧ (0 : Nat) = (0 : Nat) ∧ rlo g (0 : Nat) (i + (1 : Nat)) = rlo g (0 : Nat) i' ∧ rlo g (1 : Nat) (i + (1 : Nat)) =
 rlo g (1 : Nat) i' ∧ rhi g (0 : Nat) (i + (1 : Nat)) = rhi g (0 : Nat) i' ∧ rhi g (1 : Nat) (i + (1 : Nat)) = rhi g (1 : Nat) i' ∧ True) ∧ True ∧ ((100 : Nat) =
(100 : Nat) ∧ (0 : Nat) = (0 : Nat) ∧ la g (0 : Nat) (i + (1 : Nat)) = la g (0 : Nat) i' ∧ la g (1 : Nat) (i + (1 : Nat)) = la g (1 : Nat) i' ∧ True) ∧ True ∧ ((100 : Nat) = (100
: Nat) ∧ (0 : Nat) = (0 : Nat) ∧ lb g len (0 : Nat) (i + (1 : Nat)) = lb g len (0 : Nat) i' ∧ lb g len (1 : Nat) (i + (1 : Nat)) = lb g len (1 : Nat) i' ∧ True) ∧ True ∧ ((100 :
 Nat) = (100 : Nat) ∧ (0 : Nat) = (0 : Nat) ∧ lc g len (0 : Nat) (i + (1 : Nat)) = lc g len (0 : Nat) i' ∧ lc g len (1 : Nat) (i + (1 : Nat)) = lc g len (1 : Nat) i' ∧ True) ∧
 True))))) ∧ (decide ((↑i : Int) < (↑len : Int)) = false → true = true ∧ ((!(dcF g len i).2) = (ppBig len cl && !(dcF g len len).2) ∧ (rlo g (0 : Nat) i =
 pick (ppBig len cl) (rlo g (0 : Nat) len) ∧ rlo g (1 : Nat) i = pick (ppBig len cl) (rlo g (1 : Nat) len) ∧
 rhi g (0 : Nat) i = pick (ppBig len cl) (rhi g (0 : Nat) len) ∧ rhi g (1 : Nat) i = pick (ppBig len cl)
(rhi g (1 : Nat) len) ∧ True) ∧ fGt .f64 (cwF g len i) (0 : Nat) = (ppBig len cl && fGt .f64 (cwF g len len) (0 : Nat)) ∧ True) ∧ True)) := by kernel_rfl
theorem procP : ConOk Tryz.prog 102 (conR procPC) := by
 refine con_of_vc g0 Tryz.func102 rfl (by kernel_rfl) fun args => ?_
 unfold procPC
 split
 · rename_i n len v
   intro o0
   show RdM.All _ (match fltsFrom .f64 o0.c with | some (m, g) => _ | none => _) _
   split
   · rename_i m0 g hm0
     show RdM.All _ (match v.toB with | some b => _ | none => _) _
     split
     · rename_i cl hcl
       intro ho
       replace ho : m0 = 2 * len ∧ len ≤ 1000000 ∧ (ppBig len cl = true → ppOk g len) := ho
       obtain ⟨hsz0, ho⟩ := ho
       subst hsz0
       refine ⟨?_, _, _, (vc_procP len cl g).mpr ?_⟩
       · refine okFlag_mk rfl ⟨?_, ⟨trivial, (contR_flts hm0).1, trivial⟩⟩
         simp [eqvRL, eqvR, sgSig, fsts, nth, sameN_self, toB_eqvR hcl]
       · obtain ⟨hlen, hok⟩ := ho
         refine ⟨⟨fun hc => ⟨fun h3 => ?_, fun h3 => ⟨fun h2 => ?_, fun h2 => ?_⟩⟩, fun hc => ⟨fun h2 => ?_, fun h2 => ?_⟩⟩, fun _ hb => ?_⟩
         · have h3 := of_decide_eq_true h3
           have hb : ppBig len cl = false := by simp [ppBig, hc]; omega
           simp [hb, pick]
         · have h2 := of_decide_eq_true h2
           have hb : ppBig len cl = false := by simp [ppBig, hc]; omega
           simp [hb, pick]
         · have h2 := of_decide_eq_false h2
           have h3 := of_decide_eq_false h3
           have hb : ppBig len cl = true := by simp [ppBig, hc]; omega
           refine ⟨0, hb, ?_⟩
           simp
         · have h2 := of_decide_eq_true h2
           have hb : ppBig len cl = false := by simp [ppBig, hc]; omega
           simp [hb, pick]
         · have h2 := of_decide_eq_false h2
           have hb : ppBig len cl = true := by simp [ppBig, hc]; omega
           refine ⟨0, hb, ?_⟩
           simp
         have hbb : 2 ≤ len ∧ (cl = true → 3 ≤ len) := by unfold ppBig at hb; exact of_decide_eq_true hb
         have hl2 := hbb.1
         replace hok := hok hb
         refine ⟨⟨0, ⟨by omega, hb⟩, by simp [dcF, cwF, rlo, rhi, la, lb, lc]⟩, fun i hi => ⟨fun hlt => ?_, fun hlt => ?_⟩⟩
         · have hlt := of_decide_eq_true hlt
           have hil : i < len := by omega
           have w1 : IntKind.i64.wrap ((i : Int) + 1) = ((i + 1 : Nat) : Int) := by rw [wrap64 (by omega) (by omega)]; omega
           have w2 : IntKind.i64.wrap ((i : Int) + 2) = ((i + 2 : Nat) : Int) := by rw [wrap64 (by omega) (by omega)]; omega
           have v1 : IntKind.i64.wrap ((len : Int) - 1) = ((len - 1 : Nat) : Int) := by rw [wrap64 (by omega) (by omega)]; omega
           have v2 : IntKind.i64.wrap ((len : Int) - 2) = ((len - 2 : Nat) : Int) := by rw [wrap64 (by omega) (by omega)]; omega
           have m0 : i * 2 = 2 * i := by omega
           have m1 : (i + 1) * 2 = 2 * (i + 1) := by omega
           have m2 : (i + 2) * 2 = 2 * (i + 2) := by omega
           obtain ⟨hcw, hzc⟩ := hok i hil
           simp only [w1, w2, v1, v2, Int.toNat_natCast, Nat.zero_add, Nat.add_zero, m0, m1, m2, true_and, and_true, implies_true, Nat.le_refl]
           refine ⟨⟨fun h0 => ?_, fun h0 => ?_⟩, fun _ _ => ⟨?_, fun _ _ => ⟨?_, fun _ _ => ⟨?_, fun _ _ => ?_⟩⟩⟩⟩
           · have h0 : i = 0 := by simpa using h0
             subst h0
             refine ⟨by omega, by omega, by omega, by omega, 0, ⟨hil, hb⟩, ?_⟩
             simp [rlo, rhi, loStep, hiStep]
           · have h0 : ¬ i = 0 := by simpa using h0
             repeat' first
               | intro hx
               | apply And.intro
               | apply Exists.intro 0
             all_goals first
               | omega
               | simp [rlo, rhi, loStep, hiStep, *]
           · refine ⟨by omega, by omega, 0, ⟨hil, hb⟩, ?_⟩
             simp [la]
           · refine ⟨fun h1 => ?_, fun h1 => ⟨fun h2 => ?_, fun h2 => ?_⟩⟩
             · have h1 := eq_of_beq h1
               have h1 : i + 1 = len := by omega
               refine ⟨by omega, by omega, by omega, by omega, 0, ⟨hil, hb⟩, ?_⟩
               simp [lb, lc, nx, nx2, h1]
             · have h1 := ne_of_beq_false h1
               have h2 := eq_of_beq h2
               have h1 : ¬ i + 1 = len := by omega
               have h2 : i + 2 = len := by omega
               refine ⟨by omega, by omega, by omega, by omega, 0, ⟨hil, hb⟩, ?_⟩
               simp [lb, lc, nx, nx2, h1, h2]
             · have h1 := ne_of_beq_false h1
               have h2 := ne_of_beq_false h2
               have h1 : ¬ i + 1 = len := by omega
               have h2 : ¬ i + 2 = len := by omega
               refine ⟨by omega, by omega, by omega, by omega, 0, ⟨hil, hb⟩, ?_⟩
               simp [lb, lc, nx, nx2, h1, h2]
           · obtain ⟨k1, k2, k3, k4⟩ := hcw
             refine ⟨k1, k2, k3, k4, 0, ⟨hil, hb⟩, ?_⟩
             simp [cwF, cwStep, la, lb]
           · obtain ⟨k1, k2, k3, k4, k5, k6, k7⟩ := hzc
             refine ⟨fun hc => ?_, fun hc => ⟨k1, k2, k3, k4, k5, k6, k7, ⟨fun hd => ⟨fun z1 => ?_, fun z1 => ⟨fun z2 => ?_, fun z2 => ?_⟩⟩, fun hd => ⟨fun z1 => ⟨fun hd1 => ?_, fun hd1 => ?_⟩, fun z1 => ⟨fun z2 => ⟨fun hd1 => ?_, fun hd1 => ?_⟩, fun z2 => ?_⟩⟩⟩⟩⟩
             all_goals refine ⟨i + 1, ⟨by omega, hb⟩, by omega, ?_⟩
             all_goals try (replace hd1 := eq_of_beq hd1)
             all_goals try (replace hd1 := ne_of_beq_false hd1)
             all_goals try (replace hd := eq_of_beq hd)
             all_goals try (replace hd := ne_of_beq_false hd)
             all_goals try (change fLt .f64 (zcF g len i) 0 = _ at z1)
             all_goals try (change fGt .f64 (zcF g len i) 0 = _ at z2)
             all_goals simp [dcF, dStep, *]
         · have hlt := of_decide_eq_false hlt
           have : i = len := by omega
           subst this
           simp [hb, pick]
     · trivial
   · trivial
 · trivial
def serOf : Cont → Option (Bool × Bool × Bool × Int × Nat × Nat × Nat × Nat × Nm × Nat)
 | .cells [a, b, c, .int .u8 k, .nili, .flt .f64 x, .flt .f64 y, .flt .f64 z, .flt .f64 w, .slcc p n] => match a.toB with
   | some a => match b.toB with
     | some b => match c.toB with
       | some c => some (a, b, c, k, x, y, z, w, p, n)
       | none => none
     | none => none
   | none => none
 | _ => none
def serC (cl cw cv : Bool) (k : Int) (x y z w : Nat) (p : Nm) (n : Nat) : Cont := .cells [.bool cl, .bool cw, .bool cv, .int .u8 k, .nili, .flt .f64 x, .flt .f64 y, .flt .f64 z, .flt .f64 w, .slcc p n]
theorem serOf_spec {σ : Sig} {c : Cont} {cl cw cv : Bool} {k : Int} {x y z w : Nat} {p q : Nm} {n : Nat} (h : serOf c = some (cl, cw, cv, k, x, y, z, w, p, n)) (hs : sameN (σ q) p) : contR σ c (serC cl cw cv k x y z w q n) := by
 unfold serOf at h
 split at h
 · split at h
   · rename_i ha
     split at h
     · rename_i hb
       split at h
       · rename_i hc
         simp only [Option.some.injEq, Prod.mk.injEq] at h
         obtain ⟨rfl, rfl, rfl, rfl, rfl, rfl, rfl, rfl, rfl, rfl⟩ := h
         show eqvRL σ _ _
         simp [eqvRL, eqvR, kEq_self, fkEq_self, toB_eqvR ha, toB_eqvR hb, toB_eqvR hc, hs]
       · cases h
     · cases h
   · cases h
 · cases h
noncomputable def sNumPC : List SV → RdM
 | [.ptr s 0] => .read s fun o0 => (match serOf o0.c with
   | some (cl, cw, cv, k, x, y, z, w, p, n) => .read p fun o1 => (match fltsFrom .f64 o1.c with
   | some (m1, g) => .ret ⟨[.ptr 0 0], [(0, ⟨false, 150, serC cl cw cv k x y z w 1 n, 0⟩), (1, ⟨false, 100, .flts .f64 m1 g, 0⟩)], .int .i64 n, [], [], some (m1 = 2 * n ∧ True)⟩
   | none => .fail)
   | none => .fail)
 | _ => .fail
theorem vc_sNumP (cl cw cv : Bool) (k : Int) (x y z w : Nat) (_ : Nm) (n : Nat)  (g : Nat → Nat) : runA G0 2 [] [] (codeOf Tryz.f205) (init Tryz.f205.ntmps [.ptr 0 0] [(0, ⟨false, 150, serC cl cw cv k x y z w 1 n, 0⟩), (1, ⟨false, 100, .flts .f64 (2 * n) g, 0⟩)] 2) (endK G0.E.T Tryz.f205.results.toList fun S v => postP 2 ⟨[.ptr 0 0], [(0, ⟨false, 150, serC cl cw cv k x y z w 1 n, 0⟩), (1, ⟨false, 100, .flts .f64 (2 * n) g, 0⟩)], .int .i64 n, [], [], some (2 * n = 2 * n ∧ True)⟩ S v) = (
(↑n : Int) = (↑n : Int) ∧ True) := by kernel_rfl
theorem sNumP : ConOk Tryz.prog 205 (conR sNumPC) := by
 refine con_of_vc g0 Tryz.func205 rfl (by kernel_rfl) fun args => ?_
 unfold sNumPC
 split
 · rename_i s
   intro o0
   show RdM.All _ (match serOf o0.c with | some (cl, cw, cv, k, x, y, z, w, p, n) => _ | none => _) _
   split
   · rename_i cl cw cv k x y z w p n hm0
     intro o1
     show RdM.All _ (match fltsFrom .f64 o1.c with | some (m, g) => _ | none => _) _
     split
     · rename_i m1 g hm1
       intro ho
       replace ho : m1 = 2 * n ∧ True := ho
       obtain ⟨hsz1, ho⟩ := ho
       subst hsz1
       refine ⟨?_, _, _, (vc_sNumP cl cw cv k x y z w p n g).mpr ?_⟩
       · refine okFlag_mk rfl ⟨?_, ⟨trivial, serOf_spec hm0 (by simp [sgSig, fsts, nth, sameN_self]), ⟨trivial, (contR_flts hm1).1, trivial⟩⟩⟩
         simp [eqvRL, eqvR, sgSig, fsts, nth, sameN_self]
       · simp
     · trivial
   · trivial
 · trivial
noncomputable def sRectSC : List SV → RdM
 | [.ptr s 0] => .read s fun o0 => (match serOf o0.c with
   | some (cl, cw, cv, k, x, y, z, w, p, n) => .read p fun o1 => (match fltsFrom .f64 o1.c with
   | some (m1, g) => .ret ⟨[.ptr 0 0], [(0, ⟨false, 150, serC cl cw cv k x y z w 1 n, 0⟩), (1, ⟨false, 100, .flts .f64 m1 g, 0⟩)], .agg [.flt .f64 x, .flt .f64 y, .flt .f64 z, .flt .f64 w], [], [], some (m1 = 2 * n ∧ True)⟩
   | none => .fail)
   | none => .fail)
 | _ => .fail
theorem vc_sRectS (cl cw cv : Bool) (k : Int) (x y z w : Nat) (_ : Nm) (n : Nat)  (g : Nat → Nat) : runA G0 2 [] [] (codeOf Tryz.f164) (init Tryz.f164.ntmps [.ptr 0 0] [(0, ⟨false, 150, serC cl cw cv k x y z w 1 n, 0⟩), (1, ⟨false, 100, .flts .f64 (2 * n) g, 0⟩)] 2) (endK G0.E.T Tryz.f164.results.toList fun S v => postP 2 ⟨[.ptr 0 0], [(0, ⟨false, 150, serC cl cw cv k x y z w 1 n, 0⟩), (1, ⟨false, 100, .flts .f64 (2 * n) g, 0⟩)], .agg [.flt .f64 x, .flt .f64 y, .flt .f64 z, .flt .f64 w], [], [], some (2 * n = 2 * n ∧ True)⟩ S v) = (
(x = x ∧ y = y ∧ z = z ∧ w = w ∧ True) ∧ True) := by kernel_rfl
theorem sRectS : ConOk Tryz.prog 164 (conR sRectSC) := by
 refine con_of_vc g0 Tryz.func164 rfl (by kernel_rfl) fun args => ?_
 unfold sRectSC
 split
 · rename_i s
   intro o0
   show RdM.All _ (match serOf o0.c with | some (cl, cw, cv, k, x, y, z, w, p, n) => _ | none => _) _
   split
   · rename_i cl cw cv k x y z w p n hm0
     intro o1
     show RdM.All _ (match fltsFrom .f64 o1.c with | some (m, g) => _ | none => _) _
     split
     · rename_i m1 g hm1
       intro ho
       replace ho : m1 = 2 * n ∧ True := ho
       obtain ⟨hsz1, ho⟩ := ho
       subst hsz1
       refine ⟨?_, _, _, (vc_sRectS cl cw cv k x y z w p n g).mpr ?_⟩
       · refine okFlag_mk rfl ⟨?_, ⟨trivial, serOf_spec hm0 (by simp [sgSig, fsts, nth, sameN_self]), ⟨trivial, (contR_flts hm1).1, trivial⟩⟩⟩
         simp [eqvRL, eqvR, sgSig, fsts, nth, sameN_self]
       · simp
     · trivial
   · trivial
 · trivial
noncomputable def sEmptyC : List SV → RdM
 | [.ptr s 0] => .read s fun o0 => (match serOf o0.c with
   | some (cl, cw, cv, k, x, y, z, w, p, n) => .read p fun o1 => (match fltsFrom .f64 o1.c with
   | some (m1, g) => .ret ⟨[.ptr 0 0], [(0, ⟨false, 150, serC cl cw cv k x y z w 1 n, 0⟩), (1, ⟨false, 100, .flts .f64 m1 g, 0⟩)], .bool (decide (n < 2 ∨ cl = true ∧ n < 3)), [], [], some (m1 = 2 * n ∧ True)⟩
   | none => .fail)
   | none => .fail)
 | _ => .fail
theorem vc_sEmpty (cl cw cv : Bool) (k : Int) (x y z w : Nat) (_ : Nm) (n : Nat)  (g : Nat → Nat) : runA G0 2 [] [] (codeOf Tryz.f163) (init Tryz.f163.ntmps [.ptr 0 0] [(0, ⟨false, 150, serC cl cw cv k x y z w 1 n, 0⟩), (1, ⟨false, 100, .flts .f64 (2 * n) g, 0⟩)] 2) (endK G0.E.T Tryz.f163.results.toList fun S v => postP 2 ⟨[.ptr 0 0], [(0, ⟨false, 150, serC cl cw cv k x y z w 1 n, 0⟩), (1, ⟨false, 100, .flts .f64 (2 * n) g, 0⟩)], .bool (decide (n < 2 ∨ cl = true ∧ n < 3)), [], [], some (2 * n = 2 * n ∧ True)⟩ S v) = (
(cl = true → (decide ((↑n : Int) < 3) = true → decide (n < 2 ∨ cl = true ∧ n < 3) = true ∧ True) ∧ (decide ((↑n : Int) < 3) = false → decide ((↑n : Int) < 2) = decide (n < 2 ∨ cl = true ∧ n < 3)
∧ True)) ∧ (cl = false → decide ((↑n : Int) < 2) = decide (n < 2 ∨ cl = true ∧ n < 3) ∧ True)) := by kernel_rfl
theorem sEmpty : ConOk Tryz.prog 163 (conR sEmptyC) := by
 refine con_of_vc g0 Tryz.func163 rfl (by kernel_rfl) fun args => ?_
 unfold sEmptyC
 split
 · rename_i s
   intro o0
   show RdM.All _ (match serOf o0.c with | some (cl, cw, cv, k, x, y, z, w, p, n) => _ | none => _) _
   split
   · rename_i cl cw cv k x y z w p n hm0
     intro o1
     show RdM.All _ (match fltsFrom .f64 o1.c with | some (m, g) => _ | none => _) _
     split
     · rename_i m1 g hm1
       intro ho
       replace ho : m1 = 2 * n ∧ True := ho
       obtain ⟨hsz1, ho⟩ := ho
       subst hsz1
       refine ⟨?_, _, _, (vc_sEmpty cl cw cv k x y z w p n g).mpr ?_⟩
       · refine okFlag_mk rfl ⟨?_, ⟨trivial, serOf_spec hm0 (by simp [sgSig, fsts, nth, sameN_self]), ⟨trivial, (contR_flts hm1).1, trivial⟩⟩⟩
         simp [eqvRL, eqvR, sgSig, fsts, nth, sameN_self]
       · refine ⟨fun hc => ⟨fun h => ?_, fun h => ?_⟩, fun hc => ?_⟩
         · have h := of_decide_eq_true h
           exact ⟨decide_eq_true (.inr ⟨hc, by omega⟩), trivial⟩
         · have h := of_decide_eq_false h
           rw [show decide ((n : Int) < 2) = false from decide_eq_false (by omega), show decide (n < 2 ∨ cl = true ∧ n < 3) = false from decide_eq_false (by rintro (h1 | ⟨_, h1⟩) <;> omega)]
           exact ⟨rfl, trivial⟩
         · by_cases h : n < 2
           · rw [show decide ((n : Int) < 2) = true from decide_eq_true (by omega), show decide (n < 2 ∨ cl = true ∧ n < 3) = true from decide_eq_true (.inl h)]
             exact ⟨rfl, trivial⟩
           · rw [show decide ((n : Int) < 2) = false from decide_eq_false (by omega), show decide (n < 2 ∨ cl = true ∧ n < 3) = false from decide_eq_false (by rintro (h1 | ⟨h2, h1⟩); omega; simp [hc] at h2)]
             exact ⟨rfl, trivial⟩
     · trivial
   · trivial
 · trivial
noncomputable def sIdxC : List SV → RdM
 | [.ptr s 0] => .read s fun o0 => (match serOf o0.c with
   | some (cl, cw, cv, k, x, y, z, w, p, n) => .read p fun o1 => (match fltsFrom .f64 o1.c with
   | some (m1, g) => .ret ⟨[.ptr 0 0], [(0, ⟨false, 150, serC cl cw cv k x y z w 1 n, 0⟩), (1, ⟨false, 100, .flts .f64 m1 g, 0⟩)], .nili, [], [], some (m1 = 2 * n ∧ True)⟩
   | none => .fail)
   | none => .fail)
 | _ => .fail
theorem vc_sIdx (cl cw cv : Bool) (k : Int) (x y z w : Nat) (_ : Nm) (n : Nat)  (g : Nat → Nat) : runA G0 2 [] [] (codeOf Tryz.f105) (init Tryz.f105.ntmps [.ptr 0 0] [(0, ⟨false, 150, serC cl cw cv k x y z w 1 n, 0⟩), (1, ⟨false, 100, .flts .f64 (2 * n) g, 0⟩)] 2) (endK G0.E.T Tryz.f105.results.toList fun S v => postP 2 ⟨[.ptr 0 0], [(0, ⟨false, 150, serC cl cw cv k x y z w 1 n, 0⟩), (1, ⟨false, 100, .flts .f64 (2 * n) g, 0⟩)], .nili, [], [], some (2 * n = 2 * n ∧ True)⟩ S v) = (
 True ∧ True) := by kernel_rfl
theorem sIdx : ConOk Tryz.prog 105 (conR sIdxC) := by
 refine con_of_vc g0 Tryz.func105 rfl (by kernel_rfl) fun args => ?_
 unfold sIdxC
 split
 · rename_i s
   intro o0
   show RdM.All _ (match serOf o0.c with | some (cl, cw, cv, k, x, y, z, w, p, n) => _ | none => _) _
   split
   · rename_i cl cw cv k x y z w p n hm0
     intro o1
     show RdM.All _ (match fltsFrom .f64 o1.c with | some (m, g) => _ | none => _) _
     split
     · rename_i m1 g hm1
       intro ho
       replace ho : m1 = 2 * n ∧ True := ho
       obtain ⟨hsz1, ho⟩ := ho
       subst hsz1
       refine ⟨?_, _, _, (vc_sIdx cl cw cv k x y z w p n g).mpr ?_⟩
       · refine okFlag_mk rfl ⟨?_, ⟨trivial, serOf_spec hm0 (by simp [sgSig, fsts, nth, sameN_self]), ⟨trivial, (contR_flts hm1).1, trivial⟩⟩⟩
         simp [eqvRL, eqvR, sgSig, fsts, nth, sameN_self]
       · simp
     · trivial
   · trivial
 · trivial
noncomputable def sPtC : List SV → RdM
 | [.ptr s 0, .int .i64 i] => .read s fun o0 => (match serOf o0.c with
   | some (cl, cw, cv, k, x, y, z, w, p, n) => .read p fun o1 => (match fltsFrom .f64 o1.c with
   | some (m1, g) => .ret ⟨[.ptr 0 0, .int .i64 i], [(0, ⟨false, 150, serC cl cw cv k x y z w 1 n, 0⟩), (1, ⟨false, 100, .flts .f64 m1 g, 0⟩)], .agg [.flt .f64 (g (2 * i.toNat)), .flt .f64 (g (2 * i.toNat + 1))], [], [], some (m1 = 2 * n ∧ 0 ≤ i ∧ i < n)⟩
   | none => .fail)
   | none => .fail)
 | _ => .fail
theorem vc_sPt (cl cw cv : Bool) (k : Int) (x y z w : Nat) (_ : Nm) (n : Nat) (i : Int)  (g : Nat → Nat) : runA G0 2 [] [] (codeOf Tryz.f206) (init Tryz.f206.ntmps [.ptr 0 0, .int .i64 i] [(0, ⟨false, 150, serC cl cw cv k x y z w 1 n, 0⟩), (1, ⟨false, 100, .flts .f64 (2 * n) g, 0⟩)] 2) (endK G0.E.T Tryz.f206.results.toList fun S v => postP 2 ⟨[.ptr 0 0, .int .i64 i], [(0, ⟨false, 150, serC cl cw cv k x y z w 1 n, 0⟩), (1, ⟨false, 100, .flts .f64 (2 * n) g, 0⟩)], .agg [.flt .f64 (g (2 * i.toNat)), .flt .f64 (g (2 * i.toNat + 1))], [], [], some (2 * n = 2 * n ∧ 0 ≤ i ∧ i < n)⟩ S v) = (
(((0 : Int) ≤ i ∧ i < (↑n : Int)) ∧ 1 ≤ 2 * n) ∧ 0 + Int.toNat i * 2 + 2 ≤ 2 * n ∧ (g (0 + Int.toNat i * 2) = g (2 * Int.toNat i) ∧ g (0 + Int.toNat i * 2 + 1) = g (2 * Int.toNat i + 1) ∧ True) ∧ True) := by kernel_rfl
theorem sPt : ConOk Tryz.prog 206 (conR sPtC) := by
 refine con_of_vc g0 Tryz.func206 rfl (by kernel_rfl) fun args => ?_
 unfold sPtC
 split
 · rename_i s i
   intro o0
   show RdM.All _ (match serOf o0.c with | some (cl, cw, cv, k, x, y, z, w, p, n) => _ | none => _) _
   split
   · rename_i cl cw cv k x y z w p n hm0
     intro o1
     show RdM.All _ (match fltsFrom .f64 o1.c with | some (m, g) => _ | none => _) _
     split
     · rename_i m1 g hm1
       intro ho
       replace ho : m1 = 2 * n ∧ 0 ≤ i ∧ i < n := ho
       obtain ⟨hsz1, ho⟩ := ho
       subst hsz1
       refine ⟨?_, _, _, (vc_sPt cl cw cv k x y z w p n i g).mpr ?_⟩
       · refine okFlag_mk rfl ⟨?_, ⟨trivial, serOf_spec hm0 (by simp [sgSig, fsts, nth, sameN_self]), ⟨trivial, (contR_flts hm1).1, trivial⟩⟩⟩
         simp [eqvRL, eqvR, kEq_self, sgSig, fsts, nth, sameN_self]
       · have e : 0 + i.toNat * 2 = 2 * i.toNat := by omega
         rw [e]
         exact ⟨by omega, by omega, by simp⟩
     · trivial
   · trivial
 · trivial
noncomputable def buildNoC : List SV → RdM
 | [.ptr s 0] => .read s fun o0 => (match serOf o0.c with
   | some (cl, cw, cv, k, x, y, z, w, p, n) => .read p fun o1 => (match fltsFrom .f64 o1.c with
   | some (m1, g) => .ret ⟨[.ptr 0 0], [(0, ⟨false, 150, serC cl cw cv k x y z w 1 n, 0⟩), (1, ⟨false, 100, .flts .f64 m1 g, 0⟩)], .tup [], [], [], some (m1 = 2 * n ∧ k = 0)⟩
   | none => .fail)
   | none => .fail)
 | _ => .fail
theorem vc_buildNo (cl cw cv : Bool) (k : Int) (x y z w : Nat) (_ : Nm) (n : Nat)  (g : Nat → Nat) : runA G0 2 [] [] (codeOf Tryz.f103) (init Tryz.f103.ntmps [.ptr 0 0] [(0, ⟨false, 150, serC cl cw cv k x y z w 1 n, 0⟩), (1, ⟨false, 100, .flts .f64 (2 * n) g, 0⟩)] 2) (endK G0.E.T Tryz.f103.results.toList fun S v => postP 2 ⟨[.ptr 0 0], [(0, ⟨false, 150, serC cl cw cv k x y z w 1 n, 0⟩), (1, ⟨false, 100, .flts .f64 (2 * n) g, 0⟩)], .tup [], [], [], some (2 * n = 2 * n ∧ k = 0)⟩ S v) = (
((k == (1 : Int)) = true → False) ∧ ((k == (1 : Int)) = false → ((k == (2 : Int)) = true → False) ∧ ((k == (2 : Int)) = false → True ∧ True))) := by kernel_rfl
theorem buildNo : ConOk Tryz.prog 103 (conR buildNoC) := by
 refine con_of_vc g0 Tryz.func103 rfl (by kernel_rfl) fun args => ?_
 unfold buildNoC
 split
 · rename_i s
   intro o0
   show RdM.All _ (match serOf o0.c with | some (cl, cw, cv, k, x, y, z, w, p, n) => _ | none => _) _
   split
   · rename_i cl cw cv k x y z w p n hm0
     intro o1
     show RdM.All _ (match fltsFrom .f64 o1.c with | some (m, g) => _ | none => _) _
     split
     · rename_i m1 g hm1
       intro ho
       replace ho : m1 = 2 * n ∧ k = 0 := ho
       obtain ⟨hsz1, ho⟩ := ho
       subst hsz1
       refine ⟨?_, _, _, (vc_buildNo cl cw cv k x y z w p n g).mpr ?_⟩
       · refine okFlag_mk rfl ⟨?_, ⟨trivial, serOf_spec hm0 (by simp [sgSig, fsts, nth, sameN_self]), ⟨trivial, (contR_flts hm1).1, trivial⟩⟩⟩
         simp [eqvRL, eqvR, sgSig, fsts, nth, sameN_self]
       · exact ⟨fun h => by simp [ho] at h, fun _ => ⟨fun h => by simp [ho] at h, fun _ => ⟨trivial, trivial⟩⟩⟩
     · trivial
   · trivial
 · trivial
noncomputable def defOptsC : List SV → RdM
 | [] => .ret ⟨[], [], .ptr 0 0, [], [(0, ⟨true, 148, .cells [.int .u8 2, .int .i64 64], 0⟩)], some (True)⟩
 | _ => .fail
theorem vc_defOpts  : runA G0 0 [] [] (codeOf Tryz.f97) (init Tryz.f97.ntmps [] [] 0) (endK G0.E.T Tryz.f97.results.toList fun S v => postP 0 ⟨[], [], .ptr 0 0, [], [(0, ⟨true, 148, .cells [.int .u8 2, .int .i64 64], 0⟩)], some (True)⟩ S v) = (
(True ∧ 0 = 0) ∧ True ∧ (148 = 148 ∧ 0 = 0 ∧ (2 : Int) = 2 ∧ (64 : Int) = 64 ∧ True) ∧ True) := by kernel_rfl
theorem defOpts : ConOk Tryz.prog 97 (conR defOptsC) := by
 refine con_of_vc g0 Tryz.func97 rfl (by kernel_rfl) fun args => ?_
 unfold defOptsC
 split
 · skip
   intro ho
   replace ho : True := ho
   refine ⟨?_, _, _, (vc_defOpts).mpr ?_⟩
   · refine okFlag_mk rfl ⟨?_, trivial⟩
     simp [eqvRL]
   · simp
 · trivial
noncomputable def GMS : Ctx := ⟨⟨tys, []⟩, [(102, conR procPC), (103, conR buildNoC), (97, conR defOptsC)]⟩
theorem gMS : CtxOk Tryz.prog GMS := ⟨⟨tysOk, FlatsOk.nil⟩, GamOk.cons procP (GamOk.cons buildNo (GamOk.cons defOpts GamOk.nil)), by kernel_rfl⟩
def optOf : Cont → Option (Int × Int)
 | .cells [.int .u8 k, .int .i64 m] => some (k, m)
 | _ => none
def optC (k m : Int) : Cont := .cells [.int .u8 k, .int .i64 m]
theorem optOf_spec {σ : Sig} {c : Cont} {k m : Int} (h : optOf c = some (k, m)) : contR σ c (optC k m) := by
 unfold optOf at h
 split at h
 · simp only [Option.some.injEq, Prod.mk.injEq] at h
   obtain ⟨rfl, rfl⟩ := h
   show eqvRL σ _ _
   simp [eqvRL, eqvR, kEq_self]
 · cases h
def rectS (len : Nat) (cl : Bool) (g : Nat → Nat) (p : Nm) (k : Int) : List SV :=
 [.bool cl, .bool (ppBig len cl && fGt .f64 (cwF g len len) 0), .bool (ppBig len cl && !(dcF g len len).2), .int .u8 k, .nili, .flt .f64 (pick (ppBig len cl) (rlo g 0 len)), .flt .f64 (pick (ppBig len cl) (rlo g 1 len)), .flt .f64 (pick (ppBig len cl) (rhi g 0 len)), .flt .f64 (pick (ppBig len cl) (rhi g 1 len)), .slcc p len]
noncomputable def mkCopyC : List SV → RdM
 | [.slcc n len, .tt, v, .ptr o 0] => .read n fun o0 => (match fltsFrom .f64 o0.c with
   | some (m0, g) => .read o fun o1 => (match optOf o1.c with
   | some (k, m) => (match v.toB with
   | some cl => .ret ⟨[.slcc 0 len, .tt, .bool cl, .ptr 1 0], [(0, ⟨false, 100, .flts .f64 m0 g, 0⟩), (1, ⟨false, 148, optC k m, 0⟩)], .agg (rectS len cl g 2 0), [], [(2, ⟨true, 100, .flts .f64 (2 * len) g, 2⟩)], some (m0 = 2 * len ∧ k = 0 ∧ len ≤ 1000000 ∧ (ppBig len cl = true → ppOk g len))⟩
   | none => .fail)
   | none => .fail)
   | none => .fail)
 | _ => .fail
theorem vc_mkCopy (len : Nat) (cl : Bool) (m : Int) (k : Int)  (g : Nat → Nat) : runA GMS 2 [] [] (codeOf Tryz.f92) (init Tryz.f92.ntmps [.slcc 0 len, .tt, .bool cl, .ptr 1 0] [(0, ⟨false, 100, .flts .f64 (2 * len) g, 0⟩), (1, ⟨false, 148, optC k m, 0⟩)] 2) (endK GMS.E.T Tryz.f92.results.toList fun S v => postP 2 ⟨[.slcc 0 len, .tt, .bool cl, .ptr 1 0], [(0, ⟨false, 100, .flts .f64 (2 * len) g, 0⟩), (1, ⟨false, 148, optC k m, 0⟩)], .agg (rectS len cl g 2 0), [], [(2, ⟨true, 100, .flts .f64 (2 * len) g, 2⟩)], some (2 * len = 2 * len ∧ k = 0 ∧ len ≤ 1000000 ∧ (ppBig len cl = true → ppOk g len))⟩ S v) = (
((↑len : Int) = (↑len : Int) ∧ 0 ≤ (↑len : Int) ∧ (↑len : Int) ≤ 9223372036854775807 ∧ (↑len : Int) * 16 ≤ (140737488355328 : Int)) ∧ (len = Int.toNat (↑len : Int) ∧ Int.toNat (↑len : Int) * 2 = Int.toNat (↑len : Int)
* 2 ∧ 2 * len = Int.toNat (↑len : Int) * 2) ∧ (2 * len = 2 * len ∧ len ≤ 1000000 ∧ (ppBig len cl = true → ppOk g len)) ∧ ((m != (0 : Int)) = true → (decide (m ≤ (↑len
: Int)) = true → (Int.toNat (↑len : Int) * 2 = 2 * Int.toNat (↑len : Int) ∧ k = (0 : Int)) ∧ (cl = cl ∧ (ppBig len cl && fGt .f64 (cwF g len len) 0) = (ppBig len cl
&& fGt .f64 (cwF g len len) 0) ∧ (ppBig len cl && !(dcF g len len).2) = (ppBig len cl && !(dcF g len len).2) ∧ k = (0 : Int) ∧ True
∧ pick (ppBig len cl) (rlo g 0 len) = pick (ppBig len cl) (rlo g 0 len) ∧ pick (ppBig len
 cl) (rlo g 1 len) = pick (ppBig len cl) (rlo g 1 len) ∧ pick (ppBig len cl) (rhi g 0 len) =
 pick (ppBig len cl) (rhi g 0 len) ∧ pick (ppBig len cl) (rhi g 1 len) = pick (ppBig len
 cl) (rhi g 1 len) ∧ (True ∧ Int.toNat (↑len : Int) = len) ∧ True) ∧ True ∧ (100 = 100 ∧ 2 = 2 ∧ 2 * len ≤ Int.toNat (↑len : Int) * 2 ∧ ∀ (i : Nat), i < 2 * len → g i =
 g i) ∧ True) ∧ (decide (m ≤ (↑len : Int)) = false → (cl = cl ∧ (ppBig len cl && fGt .f64 (cwF g len len) 0) = (ppBig len cl && fGt .f64 (cwF g len len) 0) ∧ (ppBig len cl && !(dcF g len len).2) = (ppBig len cl && !(dcF g len len).2) ∧ (0 : Int) = 0 ∧ True ∧ pick (ppBig
 len cl) (rlo g 0 len) = pick (ppBig len cl) (rlo g 0 len) ∧ pick (ppBig len cl) (rlo g 1 len) =
 pick (ppBig len cl) (rlo g 1 len) ∧ pick (ppBig len cl) (rhi g 0 len) = pick (ppBig len
 cl) (rhi g 0 len) ∧ pick (ppBig len cl) (rhi g 1 len) = pick (ppBig len cl) (rhi g 1 len) ∧ (True ∧
 Int.toNat (↑len : Int) = len) ∧ True) ∧ True ∧ (100 = 100 ∧ 2 = 2 ∧ 2 * len ≤ Int.toNat (↑len : Int) * 2 ∧ ∀ (i : Nat), i < 2 * len → g i = g i) ∧ True)) ∧ ((m != (0 : Int)) = false → (cl = cl ∧
(ppBig len cl && fGt .f64 (cwF g len len) 0) = (ppBig len cl && fGt .f64 (cwF g len len) 0) ∧ (ppBig len cl && !Prod.snd
(dcF g len len)) = (ppBig len cl && !(dcF g len len).2) ∧ (0 : Int) = 0 ∧ True ∧ pick (ppBig len cl) (rlo g 0 len) =
 pick (ppBig len cl) (rlo g 0 len) ∧ pick (ppBig len cl) (rlo g 1 len) = pick (ppBig len
 cl) (rlo g 1 len) ∧ pick (ppBig len cl) (rhi g 0 len) = pick (ppBig len cl) (rhi g 0 len) ∧
 pick (ppBig len cl) (rhi g 1 len) = pick (ppBig len cl) (rhi g 1 len) ∧ (True ∧ Int.toNat (↑len : Int) = len) ∧ True) ∧ True ∧
(100 = 100 ∧ 2 = 2 ∧ 2 * len ≤ Int.toNat (↑len : Int) * 2 ∧ ∀ (i : Nat), i < 2 * len → g i = g i) ∧ True)) := by kernel_rfl
theorem mkCopy : ConOk Tryz.prog 92 (conR mkCopyC) := by
 refine con_of_vc gMS Tryz.func92 rfl (by kernel_rfl) fun args => ?_
 unfold mkCopyC
 split
 · rename_i n len v o
   intro o0
   show RdM.All _ (match fltsFrom .f64 o0.c with | some (m, g) => _ | none => _) _
   split
   · rename_i m0 g hm0
     intro o1
     show RdM.All _ (match optOf o1.c with | some (k, m) => _ | none => _) _
     split
     · rename_i k m hm1
       show RdM.All _ (match v.toB with | some b => _ | none => _) _
       split
       · rename_i cl hcl
         intro ho
         replace ho : m0 = 2 * len ∧ k = 0 ∧ len ≤ 1000000 ∧ (ppBig len cl = true → ppOk g len) := ho
         obtain ⟨hsz0, ho⟩ := ho
         subst hsz0
         refine ⟨?_, _, _, (vc_mkCopy len cl m k g).mpr ?_⟩
         · refine okFlag_mk rfl ⟨?_, ⟨trivial, (contR_flts hm0).1, ⟨trivial, optOf_spec hm1, trivial⟩⟩⟩
           simp [eqvRL, eqvR, sgSig, fsts, nth, sameN_self, toB_eqvR hcl]
         · obtain ⟨hk, hl, hok⟩ := ho
           have e : len * 2 = 2 * len := by omega
           have l1 : (0 : Int) ≤ len := by omega
           have l2 : (len : Int) ≤ 9223372036854775807 := by omega
           have l3 : (len : Int) * 16 ≤ 140737488355328 := by omega
           subst hk
           simp [e, l1, l2, l3, hl]
           exact hok
       · trivial
     · trivial
   · trivial
 · trivial
noncomputable def mkKeepC : List SV → RdM
 | [.slcc n len, .ff, v, .nilp] => .read n fun o0 => (match fltsFrom .f64 o0.c with
   | some (m0, g) => (match v.toB with
   | some cl => .ret ⟨[.slcc 0 len, .ff, .bool cl, .nilp], [(0, ⟨false, 100, .flts .f64 m0 g, 0⟩)], .agg (rectS len cl g 0 0), [], [], some (m0 = 2 * len ∧ len < 64 ∧ (ppBig len cl = true → ppOk g len))⟩
   | none => .fail)
   | none => .fail)
 | _ => .fail
theorem vc_mkKeep (len : Nat) (cl : Bool)  (g : Nat → Nat) : runA GMS 1 [] [] (codeOf Tryz.f92) (init Tryz.f92.ntmps [.slcc 0 len, .ff, .bool cl, .nilp] [(0, ⟨false, 100, .flts .f64 (2 * len) g, 0⟩)] 1) (endK GMS.E.T Tryz.f92.results.toList fun S v => postP 1 ⟨[.slcc 0 len, .ff, .bool cl, .nilp], [(0, ⟨false, 100, .flts .f64 (2 * len) g, 0⟩)], .agg (rectS len cl g 0 0), [], [], some (2 * len = 2 * len ∧ len < 64 ∧ (ppBig len cl = true → ppOk g len))⟩ S v) = (
 True ∧ (2 * len = 2 * len ∧ len ≤ 1000000 ∧ (ppBig len cl = true → ppOk g len)) ∧ (true = true → (decide (64 ≤ (↑len : Int)) = true → (2 * len = 2 * len ∧ (2 : Int) =
(0 : Int)) ∧ (cl = cl ∧ (ppBig len cl && fGt .f64 (cwF g len len) 0) = (ppBig len cl && fGt .f64 (cwF g len len) 0) ∧ (ppBig len cl
&& !(dcF g len len).2) = (ppBig len cl && !(dcF g len len).2) ∧ (2 : Int) = 0 ∧ True ∧ pick (ppBig len cl) (rlo g 0 len) = pick (ppBig len cl) (rlo g 0 len) ∧ pick (ppBig len cl) (rlo g 1 len) = pick
(ppBig len cl) (rlo g 1 len) ∧ pick (ppBig len cl) (rhi g 0 len) = pick (ppBig len cl)
(rhi g 0 len) ∧ pick (ppBig len cl) (rhi g 1 len) = pick (ppBig len cl) (rhi g 1 len) ∧ (True ∧ len
= len) ∧ True) ∧ True) ∧ (decide (64 ≤ (↑len : Int)) = false → (cl = cl ∧ (ppBig len cl && fGt .f64 (cwF g len len) 0) = (ppBig len cl && fGt .f64
(cwF g len len) 0) ∧ (ppBig len cl && !(dcF g len len).2) = (ppBig len cl && !(dcF g len len).2) ∧ (0 : Int) = 0 ∧ True ∧
 pick (ppBig len cl) (rlo g 0 len) = pick (ppBig len cl) (rlo g 0 len) ∧ pick (ppBig len
 cl) (rlo g 1 len) = pick (ppBig len cl) (rlo g 1 len) ∧ pick (ppBig len cl) (rhi g 0 len) =
 pick (ppBig len cl) (rhi g 0 len) ∧ pick (ppBig len cl) (rhi g 1 len) = pick (ppBig len
 cl) (rhi g 1 len) ∧ (True ∧ len = len) ∧ True) ∧ True)) ∧ (true = false → (cl = cl ∧ (ppBig len cl && fGt .f64 (cwF g len len) 0) = (ppBig len cl &&
 fGt .f64 (cwF g len len) 0) ∧ (ppBig len cl && !(dcF g len len).2) = (ppBig len cl && !(dcF g len len).2) ∧ (0 : Int) = 0 ∧
 True ∧ pick (ppBig len cl) (rlo g 0 len) = pick (ppBig len cl) (rlo g 0 len) ∧ pick (ppBig
 len cl) (rlo g 1 len) = pick (ppBig len cl) (rlo g 1 len) ∧ pick (ppBig len cl) (rhi g 0 len) =
 pick (ppBig len cl) (rhi g 0 len) ∧ pick (ppBig len cl) (rhi g 1 len) = pick (ppBig len
 cl) (rhi g 1 len) ∧ (True ∧ len = len) ∧ True) ∧ True)) := by kernel_rfl
theorem mkKeep : ConOk Tryz.prog 92 (conR mkKeepC) := by
 refine con_of_vc gMS Tryz.func92 rfl (by kernel_rfl) fun args => ?_
 unfold mkKeepC
 split
 · rename_i n len v
   intro o0
   show RdM.All _ (match fltsFrom .f64 o0.c with | some (m, g) => _ | none => _) _
   split
   · rename_i m0 g hm0
     show RdM.All _ (match v.toB with | some b => _ | none => _) _
     split
     · rename_i cl hcl
       intro ho
       replace ho : m0 = 2 * len ∧ len < 64 ∧ (ppBig len cl = true → ppOk g len) := ho
       obtain ⟨hsz0, ho⟩ := ho
       subst hsz0
       refine ⟨?_, _, _, (vc_mkKeep len cl g).mpr ?_⟩
       · refine okFlag_mk rfl ⟨?_, ⟨trivial, (contR_flts hm0).1, trivial⟩⟩
         simp [eqvRL, eqvR, sgSig, fsts, nth, sameN_self, toB_eqvR hcl]
       · obtain ⟨hl, hok⟩ := ho
         have l4 : len ≤ 1000000 := by omega
         have l5 : ¬ (64 : Int) ≤ len := by omega
         simp [l4, l5]
         exact hok
     · trivial
   · trivial
 · trivial
noncomputable def GNL : Ctx := ⟨⟨tys, []⟩, [(92, conR mkCopyC)]⟩
theorem gNL : CtxOk Tryz.prog GNL := ⟨⟨tysOk, FlatsOk.nil⟩, GamOk.cons mkCopy GamOk.nil, by kernel_rfl⟩
noncomputable def newLineC : List SV → RdM
 | [.slcc n len, .ptr o 0] => .read n fun o0 => (match fltsFrom .f64 o0.c with
   | some (m0, g) => .read o fun o1 => (match optOf o1.c with
   | some (k, m) => .ret ⟨[.slcc 0 len, .ptr 1 0], [(0, ⟨false, 100, .flts .f64 m0 g, 0⟩), (1, ⟨false, 148, optC k m, 0⟩)], .ptr 2 0, [], [(2, ⟨true, 152, .cells (rectS len false g 3 0), 0⟩), (3, ⟨true, 100, .flts .f64 (2 * len) g, 2⟩)], some (m0 = 2 * len ∧ k = 0 ∧ len ≤ 1000000 ∧ (ppBig len false = true → ppOk g len))⟩
   | none => .fail)
   | none => .fail)
 | _ => .fail
theorem vc_newLine (len : Nat) (m : Int) (k : Int)  (g : Nat → Nat) : runA GNL 2 [] [] (codeOf Tryz.f73) (init Tryz.f73.ntmps [.slcc 0 len, .ptr 1 0] [(0, ⟨false, 100, .flts .f64 (2 * len) g, 0⟩), (1, ⟨false, 148, optC k m, 0⟩)] 2) (endK GNL.E.T Tryz.f73.results.toList fun S v => postP 2 ⟨[.slcc 0 len, .ptr 1 0], [(0, ⟨false, 100, .flts .f64 (2 * len) g, 0⟩), (1, ⟨false, 148, optC k m, 0⟩)], .ptr 2 0, [], [(2, ⟨true, 152, .cells (rectS len false g 3 0), 0⟩), (3, ⟨true, 100, .flts .f64 (2 * len) g, 2⟩)], some (2 * len = 2 * len ∧ k = 0 ∧ len ≤ 1000000 ∧ (ppBig len false = true → ppOk g len))⟩ S v) = (
(2 * len = 2 * len ∧ k = (0 : Int) ∧ len ≤ 1000000 ∧ (ppBig len false = true → ppOk g len)) ∧ (True ∧ 0 = 0) ∧ True ∧ (152 = 152 ∧ 0 = 0 ∧
 false = false ∧ (ppBig len false && fGt .f64 (cwF g len len) 0) = (ppBig len false && fGt .f64 (cwF g len len) 0) ∧ (ppBig len false
&& !(dcF g len len).2) = (ppBig len false && !(dcF g len len).2) ∧ (0 : Int) = 0 ∧ True ∧ pick (ppBig len false) (rlo g
0 len) = pick (ppBig len false) (rlo g 0 len) ∧ pick (ppBig len false) (rlo g 1 len) = pick
(ppBig len false) (rlo g 1 len) ∧ pick (ppBig len false) (rhi g 0 len) = pick (ppBig len false)
(rhi g 0 len) ∧ pick (ppBig len false) (rhi g 1 len) = pick (ppBig len false) (rhi g 1 len) ∧ (True
∧ len = len) ∧ True) ∧ True ∧ (100 = 100 ∧ 2 = 2 ∧ 2 * len ≤ 2 * len ∧ ∀ (i : Nat), i < 2 * len → g i = g i) ∧ True) := by kernel_rfl
theorem newLine : ConOk Tryz.prog 73 (conR newLineC) := by
 refine con_of_vc gNL Tryz.func73 rfl (by kernel_rfl) fun args => ?_
 unfold newLineC
 split
 · rename_i n len o
   intro o0
   show RdM.All _ (match fltsFrom .f64 o0.c with | some (m, g) => _ | none => _) _
   split
   · rename_i m0 g hm0
     intro o1
     show RdM.All _ (match optOf o1.c with | some (k, m) => _ | none => _) _
     split
     · rename_i k m hm1
       intro ho
       replace ho : m0 = 2 * len ∧ k = 0 ∧ len ≤ 1000000 ∧ (ppBig len false = true → ppOk g len) := ho
       obtain ⟨hsz0, ho⟩ := ho
       subst hsz0
       refine ⟨?_, _, _, (vc_newLine len m k g).mpr ?_⟩
       · refine okFlag_mk rfl ⟨?_, ⟨trivial, (contR_flts hm0).1, ⟨trivial, optOf_spec hm1, trivial⟩⟩⟩
         simp [eqvRL, eqvR, sgSig, fsts, nth, sameN_self]
       · obtain ⟨hk, hl, hok⟩ := ho
         simp [hk, hl]
         exact hok
     · trivial
   · trivial
 · trivial
def mvd (g : Nat → Nat) (dx dy : Nat) (j : Nat) : Nat := fop .add .f64 (g j) (if j % 2 = 0 then dx else dy)
def mvI (g : Nat → Nat) (dx dy i : Nat) : Nat → Nat := fun j => if j < 2 * i then mvd g dx dy j else 0
noncomputable def GMV : Ctx := ⟨⟨tys, []⟩, [(92, conR mkKeepC), (105, conR sIdxC), (103, conR buildNoC)]⟩
theorem gMV : CtxOk Tryz.prog GMV := ⟨⟨tysOk, FlatsOk.nil⟩, GamOk.cons mkKeep (GamOk.cons sIdx (GamOk.cons buildNo GamOk.nil)), by kernel_rfl⟩
def mvL (cl cw cv : Bool) (k : Int) (x y z w n : Nat) (dx dy : Nat) (g : Nat → Nat) : Fam := ⟨Nat, fun i =>
 ⟨69, [(0, .ptr 0 0), (1, .flt .f64 dx), (2, .flt .f64 dy), (7, .slcc 2 n), (8, .int .i64 i)], [(0, ⟨false, 150, serC cl cw cv k x y z w 1 n, 0⟩), (1, ⟨false, 100, .flts .f64 (2 * n) g, 0⟩), (2, ⟨true, 100, .flts .f64 (2 * n) (mvI g dx dy i), 2⟩)], 3⟩, fun i => i ≤ n, fun i => n - i⟩
theorem mv_step (g : Nat → Nat) (dx dy i j : Nat) : upd (upd (mvI g dx dy i) (2 * i) (fop .add .f64 (g (2 * i)) dx)) (2 * i + 1) (fop .add .f64 (g (2 * i + 1)) dy) j = mvI g dx dy (i + 1) j := by
 have h : j = 2 * i + 1 ∨ j = 2 * i ∨ (j < 2 * i) ∨ (2 * i + 1 < j) := by omega
 unfold upd mvI
 rcases h with rfl | rfl | h | h
 · rw [if_pos rfl, if_pos (by omega)]
   unfold mvd
   rw [if_neg (show ¬ (2 * i + 1) % 2 = 0 by omega)]
 · rw [if_neg (by omega), if_pos rfl, if_pos (by omega)]
   unfold mvd
   rw [if_pos (show (2 * i) % 2 = 0 by omega)]
 · rw [if_neg (by omega), if_neg (by omega), if_pos h, if_pos (by omega)]
 · rw [if_neg (by omega), if_neg (by omega), if_neg (by omega), if_neg (by omega)]
noncomputable def sMoveC : List SV → RdM
 | [.ptr s 0, .flt .f64 dx, .flt .f64 dy] => .read s fun o0 => (match serOf o0.c with
   | some (cl, cw, cv, k, x, y, z, w, p, n) => .read p fun o1 => (match fltsFrom .f64 o1.c with
   | some (m1, g) => .ret ⟨[.ptr 0 0, .flt .f64 dx, .flt .f64 dy], [(0, ⟨false, 150, serC cl cw cv k x y z w 1 n, 0⟩), (1, ⟨false, 100, .flts .f64 m1 g, 0⟩)], .ifc 157 (.ptr 2 0), [], [(2, ⟨true, 150, .cells (rectS n cl (mvI g dx dy n) 3 k), 0⟩), (3, ⟨true, 100, .flts .f64 (2 * n) (mvI g dx dy n), 2⟩)], some (m1 = 2 * n ∧ n < 64 ∧ (∀ j, j < 2 * n → fok .add .f64 (g j) (if j % 2 = 0 then dx else dy)) ∧ (ppBig n cl = true → ppOk (mvI g dx dy n) n))⟩
   | none => .fail)
   | none => .fail)
 | _ => .fail
theorem vc_sMove (cl cw cv : Bool) (k : Int) (x y z w : Nat) (_ : Nm) (n : Nat) (dx dy : Nat)  (g : Nat → Nat) : runA GMV 2 [(3, mvL cl cw cv k x y z w n dx dy g)] [] (codeOf Tryz.f95) (init Tryz.f95.ntmps [.ptr 0 0, .flt .f64 dx, .flt .f64 dy] [(0, ⟨false, 150, serC cl cw cv k x y z w 1 n, 0⟩), (1, ⟨false, 100, .flts .f64 (2 * n) g, 0⟩)] 2) (endK GMV.E.T Tryz.f95.results.toList fun S v => postP 2 ⟨[.ptr 0 0, .flt .f64 dx, .flt .f64 dy], [(0, ⟨false, 150, serC cl cw cv k x y z w 1 n, 0⟩), (1, ⟨false, 100, .flts .f64 (2 * n) g, 0⟩)], .ifc 157 (.ptr 2 0), [], [(2, ⟨true, 150, .cells (rectS n cl (mvI g dx dy n) 3 k), 0⟩), (3, ⟨true, 100, .flts .f64 (2 * n) (mvI g dx dy n), 2⟩)], some (2 * n = 2 * n ∧ n < 64 ∧ (∀ j, j < 2 * n → fok .add .f64 (g j) (if j % 2 = 0 then dx else dy)) ∧ (ppBig n cl = true → ppOk (mvI g dx dy n) n))⟩ S v) = (
((↑n : Int) = (↑n : Int) ∧ 0 ≤ (↑n : Int) ∧ (↑n : Int) ≤ 9223372036854775807 ∧ (↑n : Int) * 16 ≤ (140737488355328 : Int)) ∧ (∃ (i : Nat), i ≤ n ∧ ((True ∧ 0 = 0) ∧ dx = dx ∧ dy = dy ∧ (True ∧ Int.toNat (↑n :
 Int) = n) ∧ 0 = (↑i : Int) ∧ True) ∧ True ∧ (cl = cl ∧ cw = cw ∧ cv = cv ∧ k = k ∧ True ∧ x = x ∧ y = y ∧ z = z ∧ w = w ∧ (True ∧ n = n) ∧ True) ∧ True ∧ (2 * n ≤ 2 * n ∧ ∀ (i : Nat), i < 2 * n → g i = g i) ∧ True ∧
(100 = 100 ∧ 2 = 2 ∧ 2 * n ≤ Int.toNat (↑n : Int) * 2 ∧ ∀ (i_1 : Nat), i_1 < 2 * n → 0 = mvI g dx dy i i_1) ∧ True) ∧ ∀ (i : Nat), i ≤ n → (decide ((↑i : Int) < (↑n :
 Int)) = true → ((0 ≤ (↑i : Int) ∧ (↑i : Int) < (↑n : Int)) ∧ 1 ≤ 2 * n) ∧ 0 < 2 * n ∧ 0 + Int.toNat (↑i : Int) * 2 + 0 + 1 ≤ 2 * n ∧ fok BinOp.add .f64 (g (0 + Int.toNat (↑i : Int) * 2 + 0)) dx ∧ ((0 ≤ (↑i : Int) ∧ (↑i : Int) < (↑n : Int)) ∧ 1 ≤ 2 * n) ∧ 0 < 2 * n ∧ 0 + Int.toNat (↑i : Int) * 2 + 0 + 1 ≤ 2
* n ∧ ((0 ≤ (↑i : Int) ∧ (↑i : Int) < (↑n : Int)) ∧ 1 ≤ 2 * n) ∧ 0 < 2 * n ∧ 0 + Int.toNat (↑i : Int) * 2 + 1 + 1 ≤ 2 * n ∧ fok BinOp.add .f64 (g (0 +
 Int.toNat (↑i : Int) * 2 + 1)) dy ∧ ((0 ≤ (↑i : Int) ∧ (↑i : Int) < (↑n : Int)) ∧ 1 ≤ 2 * n) ∧ 0 < 2 * n ∧ 0 + Int.toNat (↑i : Int) * 2 + 1 + 1 ≤ 2 * n ∧
∃ (i' : Nat), i' ≤ n ∧ n - i' < n - i ∧ ((True ∧ 0 = 0) ∧ dx = dx ∧ dy = dy ∧ (True ∧ n = n) ∧ Go.IntKind.wrap .i64 ((↑i : Int) + 1) = (↑i' : Int) ∧ True) ∧ True ∧ (cl = cl ∧ cw = cw ∧ cv = cv ∧ k = k ∧ True ∧ x = x ∧ y = y ∧
 z = z ∧ w = w ∧ (True ∧ n = n) ∧ True) ∧ True ∧ (2 * n ≤ 2 * n ∧ ∀ (i : Nat), i < 2 * n → g i = g i) ∧ True ∧ (100 = 100 ∧ 2 = 2 ∧ 2 * n ≤ 2 * n ∧ ∀ (i_1 : Nat), i_1 < 2
* n → upd (upd (mvI g dx dy i) (0 + Int.toNat (↑i : Int) * 2 + 0) (fop BinOp.add .f64 (g (0 + Int.toNat (↑i : Int) * 2 + 0)) dx)) (0 + Int.toNat (↑i : Int) *
2 + 1) (fop BinOp.add .f64 (g (0 + Int.toNat (↑i : Int) * 2 + 1)) dy) i_1 = mvI g dx dy i' i_1) ∧ True) ∧ (decide ((↑i : Int) < (↑n : Int)) = false → (2 * n = 2 * n ∧ n <
64 ∧ (ppBig n cl = true → ppOk (mvI g dx dy i) n)) ∧ (2 * n = 2 * n ∧ True) ∧ (True ∧ 0 = 0) ∧ True ∧ (150 = 150 ∧ 0 = 0 ∧
 cl = cl ∧ (ppBig n cl && fGt .f64 (cwF (mvI g dx dy i) n n) 0) = (ppBig n cl && fGt .f64 (cwF (mvI g dx dy n) n n) 0) ∧ (ppBig n cl && !(dcF (mvI g dx dy i) n n).2) = (ppBig n cl && !(dcF (mvI g dx dy n) n n).2) ∧ k = k ∧ True ∧
 pick (ppBig n cl) (rlo (mvI g dx dy i) 0 n) = pick (ppBig n cl) (rlo (mvI g dx dy n) 0 n)
∧ pick (ppBig n cl) (rlo (mvI g dx dy i) 1 n) = pick (ppBig n cl) (rlo (mvI g dx dy n) 1
 n) ∧ pick (ppBig n cl) (rhi (mvI g dx dy i) 0 n) = pick (ppBig n cl) (rhi (mvI g dx dy n) 0 n) ∧ pick (ppBig n cl) (rhi (mvI g dx dy i) 1 n) = pick (ppBig n cl) (rhi (mvI g dx dy n) 1 n) ∧ (True ∧ n = n) ∧ True) ∧ True ∧ (100 = 100 ∧ 2 = 2 ∧ 2 * n ≤ 2 * n ∧ ∀ (i_1 : Nat), i_1 < 2 * n → mvI g dx dy i i_1 = mvI g dx dy n i_1) ∧ True)) := by kernel_rfl
theorem sMove : ConOk Tryz.prog 95 (conR sMoveC) := by
 refine con_of_vc gMV Tryz.func95 rfl (by kernel_rfl) fun args => ?_
 unfold sMoveC
 split
 · rename_i s dx dy
   intro o0
   show RdM.All _ (match serOf o0.c with | some (cl, cw, cv, k, x, y, z, w, p, n) => _ | none => _) _
   split
   · rename_i cl cw cv k x y z w p n hm0
     intro o1
     show RdM.All _ (match fltsFrom .f64 o1.c with | some (m, g) => _ | none => _) _
     split
     · rename_i m1 g hm1
       intro ho
       replace ho : m1 = 2 * n ∧ n < 64 ∧ (∀ j, j < 2 * n → fok .add .f64 (g j) (if j % 2 = 0 then dx else dy)) ∧ (ppBig n cl = true → ppOk (mvI g dx dy n) n) := ho
       obtain ⟨hsz1, ho⟩ := ho
       subst hsz1
       refine ⟨?_, _, _, (vc_sMove cl cw cv k x y z w p n dx dy g).mpr ?_⟩
       · refine okFlag_mk rfl ⟨?_, ⟨trivial, serOf_spec hm0 (by simp [sgSig, fsts, nth, sameN_self]), ⟨trivial, (contR_flts hm1).1, trivial⟩⟩⟩
         simp [eqvRL, eqvR, fkEq_self, sgSig, fsts, nth, sameN_self]
       · obtain ⟨hn, hf, hok⟩ := ho
         have l2 : (n : Int) ≤ 9223372036854775807 := by omega
         have l3 : (n : Int) * 16 ≤ 140737488355328 := by omega
         refine ⟨by simp [l2, l3], ⟨0, by omega, by simp [mvI]; omega⟩, fun i hi => ⟨fun h => ?_, fun h => ?_⟩⟩
         · have h := of_decide_eq_true h
           have e : i * 2 = 2 * i := by omega
           have hw : IntKind.i64.wrap ((i : Int) + 1) = ((i + 1 : Nat) : Int) := by rw [wrap64 (by omega) (by omega)]; omega
           have f0 : fok .add .f64 (g (2 * i)) dx := by
             have := hf (2 * i) (by omega)
             rwa [if_pos (by omega)] at this
           have f1 : fok .add .f64 (g (2 * i + 1)) dy := by
             have := hf (2 * i + 1) (by omega)
             rwa [if_neg (by omega)] at this
           simp only [Int.toNat_natCast, e, hw, Nat.zero_add, Nat.add_zero, true_and, and_true, implies_true, Nat.le_refl]
           refine ⟨by omega, by omega, by omega, f0, by omega, by omega, by omega, by omega, by omega, by omega, f1, by omega, by omega, by omega, i + 1, by omega, by omega, ?_⟩
           simp [mv_step]
         · have h := of_decide_eq_false h
           have : i = n := by omega
           subst this
           simp [hn]
           exact hok
     · trivial
   · trivial
 · trivial
noncomputable def GLM : Ctx := ⟨⟨tys, []⟩, [(95, conR sMoveC)]⟩
theorem gLM : CtxOk Tryz.prog GLM := ⟨⟨tysOk, FlatsOk.nil⟩, GamOk.cons sMove GamOk.nil, by kernel_rfl⟩
noncomputable def lMoveC : List SV → RdM
 | [.ptr s 0, .flt .f64 dx, .flt .f64 dy] => .read s fun o0 => (match serOf o0.c with
   | some (cl, cw, cv, k, x, y, z, w, p, n) => .read p fun o1 => (match fltsFrom .f64 o1.c with
   | some (m1, g) => .ret ⟨[.ptr 0 0, .flt .f64 dx, .flt .f64 dy], [(0, ⟨false, 150, serC cl cw cv k x y z w 1 n, 0⟩), (1, ⟨false, 100, .flts .f64 m1 g, 0⟩)], .ptr 2 0, [], [(2, ⟨true, 152, .cells (rectS n cl (mvI g dx dy n) 3 k), 0⟩), (3, ⟨true, 100, .flts .f64 (2 * n) (mvI g dx dy n), 2⟩)], some (m1 = 2 * n ∧ n < 64 ∧ (∀ j, j < 2 * n → fok .add .f64 (g j) (if j % 2 = 0 then dx else dy)) ∧ (ppBig n cl = true → ppOk (mvI g dx dy n) n))⟩
   | none => .fail)
   | none => .fail)
 | _ => .fail
theorem vc_lMove (cl cw cv : Bool) (k : Int) (x y z w : Nat) (_ : Nm) (n : Nat) (dx dy : Nat)  (g : Nat → Nat) : runA GLM 2 [] [] (codeOf Tryz.f84) (init Tryz.f84.ntmps [.ptr 0 0, .flt .f64 dx, .flt .f64 dy] [(0, ⟨false, 150, serC cl cw cv k x y z w 1 n, 0⟩), (1, ⟨false, 100, .flts .f64 (2 * n) g, 0⟩)] 2) (endK GLM.E.T Tryz.f84.results.toList fun S v => postP 2 ⟨[.ptr 0 0, .flt .f64 dx, .flt .f64 dy], [(0, ⟨false, 150, serC cl cw cv k x y z w 1 n, 0⟩), (1, ⟨false, 100, .flts .f64 (2 * n) g, 0⟩)], .ptr 2 0, [], [(2, ⟨true, 152, .cells (rectS n cl (mvI g dx dy n) 3 k), 0⟩), (3, ⟨true, 100, .flts .f64 (2 * n) (mvI g dx dy n), 2⟩)], some (2 * n = 2 * n ∧ n < 64 ∧ (∀ j, j < 2 * n → fok .add .f64 (g j) (if j % 2 = 0 then dx else dy)) ∧ (ppBig n cl = true → ppOk (mvI g dx dy n) n))⟩ S v) = (
(2 * n = 2 * n ∧ n < 64 ∧ (∀ (j : Nat), j < 2 * n → fok BinOp.add .f64 (g j) (if j % 2 = 0 then dx else dy)) ∧ (ppBig n cl = true → ppOk (mvI
 g dx dy n) n)) ∧ (True ∧ 0 = 0) ∧ True ∧ (152 = 152 ∧ 0 = 0 ∧ cl = cl ∧ (ppBig n cl && fGt .f64 (cwF (mvI g dx dy n) n n) 0) =
(ppBig n cl && fGt .f64 (cwF (mvI g dx dy n) n n) 0) ∧ (ppBig n cl && !(dcF (mvI g dx dy n) n n).2) =
(ppBig n cl && !(dcF (mvI g dx dy n) n n).2) ∧ k = k ∧ True ∧ pick (ppBig n cl) (rlo (mvI g dx dy n) 0 n) =
 pick (ppBig n cl) (rlo (mvI g dx dy n) 0 n) ∧ pick (ppBig n cl) (rlo (mvI g dx dy n) 1 n)
= pick (ppBig n cl) (rlo (mvI g dx dy n) 1 n) ∧ pick (ppBig n cl) (rhi (mvI g dx dy n) 0
 n) = pick (ppBig n cl) (rhi (mvI g dx dy n) 0 n) ∧ pick (ppBig n cl) (rhi (mvI g dx dy n) 1 n) = pick (ppBig n cl) (rhi (mvI g dx dy n) 1 n) ∧ (True ∧ n = n) ∧ True) ∧ True ∧ (100 = 100 ∧ 2 = 2 ∧ 2 * n ≤ 2 * n
∧ ∀ (i : Nat), i < 2 * n → mvI g dx dy n i = mvI g dx dy n i) ∧ True) := by kernel_rfl
theorem lMove : ConOk Tryz.prog 84 (conR lMoveC) := by
 refine con_of_vc gLM Tryz.func84 rfl (by kernel_rfl) fun args => ?_
 unfold lMoveC
 split
 · rename_i s dx dy
   intro o0
   show RdM.All _ (match serOf o0.c with | some (cl, cw, cv, k, x, y, z, w, p, n) => _ | none => _) _
   split
   · rename_i cl cw cv k x y z w p n hm0
     intro o1
     show RdM.All _ (match fltsFrom .f64 o1.c with | some (m, g) => _ | none => _) _
     split
     · rename_i m1 g hm1
       intro ho
       replace ho : m1 = 2 * n ∧ n < 64 ∧ (∀ j, j < 2 * n → fok .add .f64 (g j) (if j % 2 = 0 then dx else dy)) ∧ (ppBig n cl = true → ppOk (mvI g dx dy n) n) := ho
       obtain ⟨hsz1, ho⟩ := ho
       subst hsz1
       refine ⟨?_, _, _, (vc_lMove cl cw cv k x y z w p n dx dy g).mpr ?_⟩
       · refine okFlag_mk rfl ⟨?_, ⟨trivial, serOf_spec hm0 (by simp [sgSig, fsts, nth, sameN_self]), ⟨trivial, (contR_flts hm1).1, trivial⟩⟩⟩
         simp [eqvRL, eqvR, fkEq_self, sgSig, fsts, nth, sameN_self]
       · obtain ⟨hn, hf, hok⟩ := ho
         simp [hn]
         exact ⟨hf, hok⟩
     · trivial
   · trivial
 · trivial
noncomputable def GPS : Ctx := ⟨⟨tys, []⟩, [(205, conR sNumPC), (206, conR sPtC), (80, pureCon fromPF)]⟩
theorem gPS : CtxOk Tryz.prog GPS := ⟨⟨tysOk, FlatsOk.nil⟩, GamOk.cons sNumP (GamOk.cons sPt (GamOk.cons (.pure fromP) GamOk.nil)), by kernel_rfl⟩
def wI (g : Nat → Nat) (j : Nat) : Int := toI .f64 (g j) .i64
def plL (cl cw cv : Bool) (k : Int) (x y z w n : Nat) (g : Nat → Nat) : Fam := ⟨Nat, fun i =>
 ⟨19, [(0, .ifc 116 (.ptr 0 0)), (3, .slcc 2 i), (4, .int .i64 i)], [(0, ⟨false, 150, serC cl cw cv k x y z w 1 n, 0⟩), (1, ⟨false, 100, .flts .f64 (2 * n) g, 0⟩), (2, ⟨true, 23, .ints .i64 (2 * i) (wI g), 2⟩)], 3⟩, fun i => i ≤ n, fun i => n - i⟩
noncomputable def plainC : List SV → RdM
 | [.ifc 116 (.ptr s 0)] => .read s fun o0 => (match serOf o0.c with
   | some (cl, cw, cv, k, x, y, z, w, p, n) => .read p fun o1 => (match fltsFrom .f64 o1.c with
   | some (m1, g) => .ret ⟨[.ifc 116 (.ptr 0 0)], [(0, ⟨false, 150, serC cl cw cv k x y z w 1 n, 0⟩), (1, ⟨false, 100, .flts .f64 m1 g, 0⟩)], .slcc 2 n, [], [(2, ⟨true, 23, .ints .i64 (2 * n) (wI g), 2⟩)], some (m1 = 2 * n ∧ n ≤ 1000000 ∧ (∀ j, j < 2 * n → toIok .f64 (g j) .i64))⟩
   | none => .fail)
   | none => .fail)
 | _ => .fail
theorem vc_plain (cl cw cv : Bool) (k : Int) (x y z w : Nat) (_ : Nm) (n : Nat)  (g : Nat → Nat) : runA GPS 2 [(3, plL cl cw cv k x y z w n g)] [] (codeOf Tryz.f83) (init Tryz.f83.ntmps [.ifc 116 (.ptr 0 0)] [(0, ⟨false, 150, serC cl cw cv k x y z w 1 n, 0⟩), (1, ⟨false, 100, .flts .f64 (2 * n) g, 0⟩)] 2) (endK GPS.E.T Tryz.f83.results.toList fun S v => postP 2 ⟨[.ifc 116 (.ptr 0 0)], [(0, ⟨false, 150, serC cl cw cv k x y z w 1 n, 0⟩), (1, ⟨false, 100, .flts .f64 (2 * n) g, 0⟩)], .slcc 2 n, [], [(2, ⟨true, 23, .ints .i64 (2 * n) (wI g), 2⟩)], some (2 * n = 2 * n ∧ n ≤ 1000000 ∧ (∀ j, j < 2 * n → toIok .f64 (g j) .i64))⟩ S v) = (
(∃ (i : Nat), i ≤ n ∧ ((True ∧ 0 = 0) ∧ i = 0 ∧ 0 = (↑i : Int) ∧ True) ∧ True ∧ (cl = cl ∧ cw = cw ∧ cv = cv ∧ k = k ∧ True ∧ x = x ∧ y = y ∧ z = z ∧ w = w ∧ (True ∧ n = n) ∧ True) ∧ True ∧ (2 * n ≤ 2 *
 n ∧ ∀ (i : Nat), i < 2 * n → g i = g i) ∧ True ∧ 2 * i = 0 ∧ True) ∧ ∀ (i : Nat), i ≤ n → (2 * n = 2 * n ∧ True) ∧ (decide ((↑i : Int) < (↑n : Int)) = true → (2 * n = 2 * n ∧ 0 ≤ (↑i :
 Int) ∧ (↑i : Int) < (↑n : Int)) ∧ (toIok .f64 (g (2 * Int.toNat (↑i : Int))) .i64 ∧ toIok .f64 (g (2 * Int.toNat (↑i : Int) + 1)) .i64) ∧ (2 * i = i * 2 ∧ (i + 1) * 16 ≤
140737488355328 ∧ i + 1 ≤ 9223372036854775807) ∧ ∃ (i' : Nat), i' ≤ n ∧ n - i' < n - i ∧ ((True ∧ 0 = 0) ∧ (True ∧ i + 1 = i') ∧ Go.IntKind.wrap .i64 ((↑i : Int) + 1) = (↑i' : Int) ∧ True) ∧
 True ∧ (cl = cl ∧ cw = cw ∧ cv = cv ∧ k = k ∧ True ∧ x = x ∧ y = y ∧ z = z ∧ w = w ∧ (True ∧ n = n) ∧ True) ∧ True ∧ (2 * n ≤ 2 * n ∧ ∀ (i : Nat), i < 2 * n → g i = g i) ∧ True ∧ (23 = 23 ∧ 2 = 2 ∧ 2 * i' ≤ 2 * i + List.length [toI .f64 (g (2 * Int.toNat (↑i : Int))) .i64, toI .f64 (g (2 * Int.toNat (↑i : Int) + 1)) .i64] ∧ ∀ (i_1 : Nat), i_1 < 2 * i' → more (2 *
 i) (wI g) [toI .f64 (g (2 * Int.toNat (↑i : Int))) .i64, toI .f64 (g (2 * Int.toNat (↑i : Int) + 1)) .i64] (0 : Int) i_1 = wI g i_1) ∧ True) ∧ (decide ((↑i : Int) < (↑n : Int)) =
 false → (True ∧ i = n) ∧ True ∧ (23 = 23 ∧ 2 = 2 ∧ 2 * n ≤ 2 * i ∧ ∀ (i : Nat), i < 2 * n → wI g i = wI g i) ∧ True)) := by kernel_rfl
theorem plain : ConOk Tryz.prog 83 (conR plainC) := by
 refine con_of_vc gPS Tryz.func83 rfl (by kernel_rfl) fun args => ?_
 unfold plainC
 split
 · rename_i s
   intro o0
   show RdM.All _ (match serOf o0.c with | some (cl, cw, cv, k, x, y, z, w, p, n) => _ | none => _) _
   split
   · rename_i cl cw cv k x y z w p n hm0
     intro o1
     show RdM.All _ (match fltsFrom .f64 o1.c with | some (m, g) => _ | none => _) _
     split
     · rename_i m1 g hm1
       intro ho
       replace ho : m1 = 2 * n ∧ n ≤ 1000000 ∧ (∀ j, j < 2 * n → toIok .f64 (g j) .i64) := ho
       obtain ⟨hsz1, ho⟩ := ho
       subst hsz1
       refine ⟨?_, _, _, (vc_plain cl cw cv k x y z w p n g).mpr ?_⟩
       · refine okFlag_mk rfl ⟨?_, ⟨trivial, serOf_spec hm0 (by simp [sgSig, fsts, nth, sameN_self]), ⟨trivial, (contR_flts hm1).1, trivial⟩⟩⟩
         simp [eqvRL, eqvR, sgSig, fsts, nth, sameN_self]
       · obtain ⟨hn, hf⟩ := ho
         refine ⟨⟨0, by omega, by simp⟩, fun i hi => ?_⟩
         simp only [true_and, and_true, implies_true, Nat.le_refl]
         refine ⟨fun h => ?_, fun h => ?_⟩
         · have h := of_decide_eq_true h
           have hw : IntKind.i64.wrap ((i : Int) + 1) = ((i + 1 : Nat) : Int) := by rw [wrap64 (by omega) (by omega)]; omega
           refine ⟨by omega, ⟨hf _ (by omega), hf _ (by omega)⟩, by omega, i + 1, by omega, by omega, ⟨rfl, hw⟩, ?_, more_two rfl rfl⟩
           show 2 * (i + 1) ≤ 2 * i + 2
           omega
         · have h := of_decide_eq_false h
           omega
     · trivial
   · trivial
 · trivial
def rRectF : PF := fun
 | [.agg [.flt .f64 a, .flt .f64 b, .flt .f64 c, .flt .f64 d]] => some (.agg [.flt .f64 a, .flt .f64 b, .flt .f64 c, .flt .f64 d], none)
 | _ => none
theorem vc_rRect (R : SV → Prop) (a b c d : Nat) : runA G0 0 [] [] (codeOf Tryz.f198) (init Tryz.f198.ntmps [.agg [.flt .f64 a, .flt .f64 b, .flt .f64 c, .flt .f64 d]] [] 0) (endK G0.E.T Tryz.f198.results.toList fun _ v => R v) = (
 R (SV.agg [SV.flt .f64 a, SV.flt .f64 b, SV.flt .f64 c, SV.flt .f64 d])) := by kernel_rfl
theorem rRect : PureOk Tryz.prog 198 rRectF := by
 refine pure_of_vc g0 Tryz.func198 rfl (by kernel_rfl) ?_
 intro args v p h hp
 unfold rRectF at h
 split at h
 · rename_i a b c d
   injection h with h; injection h with h1 h2; subst h1; subst h2
   clear hp
   refine ⟨rfl, _, _, (vc_rRect _ a b c d).mpr ?_⟩
   simp [eqv, eqvL, fkEq_self]
 · cases h
noncomputable def optsC : List SV → RdM
 | [.int .i64 k, .int .i64 m] => .ret ⟨[.int .i64 k, .int .i64 m], [], .ptr 0 0, [], [(0, ⟨true, 148, .cells [.int .u8 (IntKind.u8.wrap k), .int .i64 m], 0⟩)], some (True)⟩
 | _ => .fail
theorem vc_opts (k m : Int) : runA G0 0 [] [] (codeOf Tryz.f64) (init Tryz.f64.ntmps [.int .i64 k, .int .i64 m] [] 0) (endK G0.E.T Tryz.f64.results.toList fun S v => postP 0 ⟨[.int .i64 k, .int .i64 m], [], .ptr 0 0, [], [(0, ⟨true, 148, .cells [.int .u8 (IntKind.u8.wrap k), .int .i64 m], 0⟩)], some (True)⟩ S v) = (
(True ∧ 0 = 0) ∧ True ∧ (148 = 148 ∧ 0 = 0 ∧ Go.IntKind.wrap .u8 k = Go.IntKind.wrap .u8 k ∧ m = m ∧ True) ∧ True) := by kernel_rfl
theorem opts : ConOk Tryz.prog 64 (conR optsC) := by
 refine con_of_vc g0 Tryz.func64 rfl (by kernel_rfl) fun args => ?_
 unfold optsC
 split
 · rename_i k m
   intro ho
   replace ho : True := ho
   refine ⟨?_, _, _, (vc_opts k m).mpr ?_⟩
   · refine okFlag_mk rfl ⟨?_, trivial⟩
     simp [eqvRL, eqvR, kEq_self]
   · simp
 · trivial
def GPT : Ctx := ⟨⟨tys, []⟩, [(75, pureCon ptF)]⟩
theorem gPT : CtxOk Tryz.prog GPT := ⟨⟨tysOk, FlatsOk.nil⟩, GamOk.cons (.pure pt) GamOk.nil, by kernel_rfl⟩
def fI (g : Nat → Int) (j : Nat) : Nat := ofI .f64 (g j)
def ptsL (len : Nat) (g : Nat → Int) : Fam := ⟨Nat, fun i =>
 ⟨19, [(3, .slcc 1 i), (6, .slcc 0 len), (7, .int .i64 len), (8, .int .i64 i)], [(0, ⟨false, 23, .ints .i64 (2 * len) g, 0⟩), (1, ⟨true, 100, .flts .f64 (2 * i) (fI g), 2⟩)], 2⟩, fun i => i ≤ len, fun i => len - i⟩
theorem more_twoF {i : Nat} {g : Nat → Nat} {x y : Nat} (hx : x = g (2 * i)) (hy : y = g (2 * i + 1)) : ∀ j, j < 2 * (i + 1) → more (2 * i) g [x, y] 0 j = g j := by
 intro j hj
 subst hx hy
 unfold more
 split
 · rfl
 · have : j = 2 * i ∨ j = 2 * i + 1 := by omega
   rcases this with rfl | rfl <;> simp
noncomputable def ptsC : List SV → RdM
 | [.slcc n len] => .read n fun o0 => (match intsFrom .i64 o0.c with
   | some (m0, g) => .ret ⟨[.slcc 0 len], [(0, ⟨false, 23, .ints .i64 m0 g, 0⟩)], .slcc 1 len, [], [(1, ⟨true, 100, .flts .f64 (2 * len) (fI g), 2⟩)], some (m0 = 2 * len ∧ len ≤ 1000000)⟩
   | none => .fail)
 | _ => .fail
theorem vc_pts (len : Nat)  (g : Nat → Int) : runA GPT 1 [(3, ptsL len g)] [] (codeOf Tryz.f74) (init Tryz.f74.ntmps [.slcc 0 len] [(0, ⟨false, 23, .ints .i64 (2 * len) g, 0⟩)] 1) (endK GPT.E.T Tryz.f74.results.toList fun S v => postP 1 ⟨[.slcc 0 len], [(0, ⟨false, 23, .ints .i64 (2 * len) g, 0⟩)], .slcc 1 len, [], [(1, ⟨true, 100, .flts .f64 (2 * len) (fI g), 2⟩)], some (2 * len = 2 * len ∧ len ≤ 1000000)⟩ S v) = (
(∃ (i : Nat), i ≤ len ∧ (i = 0 ∧ (True ∧ len = len) ∧ (↑len : Int) = (↑len : Int) ∧ 0 = (↑i : Int) ∧ True) ∧ True ∧ (2 * len ≤ 2 * len ∧ ∀ (i : Nat), i < 2 * len → g i = g i) ∧ True ∧ 2 * i = 0
∧ True) ∧ ∀ (i : Nat), i ≤ len → (decide ((↑i : Int) < (↑len : Int)) = true → ((0 ≤ (↑i : Int) ∧ (↑i : Int) < (↑len : Int)) ∧ 1 ≤ 2 * len) ∧ 0 + Int.toNat (↑i : Int) * 2 + 2 ≤ 2 * len ∧ (2 * i = i * 2 ∧ (i + 1) * 16 ≤ 140737488355328 ∧ i + 1 ≤ 9223372036854775807) ∧ ∃ (i' : Nat), i' ≤ len ∧ len - i' < len - i ∧ ((True ∧ i + 1 = i') ∧ (True ∧ len = len) ∧ (↑len : Int) = (↑len
: Int) ∧ Go.IntKind.wrap .i64 ((↑i : Int) + 1) = (↑i' : Int) ∧ True) ∧ True ∧ (2 * len ≤ 2 * len ∧ ∀ (i : Nat), i < 2 * len → g i = g i) ∧ True ∧ (100 = 100 ∧ 2 = 2 ∧ 2 * i' ≤ 2 * i + List.length [ofI .f64 (g (0 + Int.toNat (↑i : Int) * 2)), ofI .f64 (g (0 + Int.toNat (↑i : Int) * 2 + 1))] ∧ ∀ (i_1 : Nat), i_1 < 2 * i' → more (2 * i)
(fI g) [ofI .f64 (g (0 + Int.toNat (↑i : Int) * 2)), ofI .f64 (g (0 + Int.toNat (↑i : Int) * 2 + 1))] 0 i_1 = fI g i_1) ∧ True) ∧ (decide ((↑i : Int) <
(↑len : Int)) = false → (True ∧ i = len) ∧ True ∧ (100 = 100 ∧ 2 = 2 ∧ 2 * len ≤ 2 * i ∧ ∀ (i : Nat), i < 2 * len → fI g i = fI g i) ∧ True)) := by kernel_rfl
theorem pts : ConOk Tryz.prog 74 (conR ptsC) := by
 refine con_of_vc gPT Tryz.func74 rfl (by kernel_rfl) fun args => ?_
 unfold ptsC
 split
 · rename_i n len
   intro o0
   show RdM.All _ (match intsFrom .i64 o0.c with | some (m, g) => _ | none => _) _
   split
   · rename_i m0 g hm0
     intro ho
     replace ho : m0 = 2 * len ∧ len ≤ 1000000 := ho
     obtain ⟨hsz0, ho⟩ := ho
     subst hsz0
     refine ⟨?_, _, _, (vc_pts len g).mpr ?_⟩
     · refine okFlag_mk rfl ⟨?_, ⟨trivial, (contR_ints hm0).1, trivial⟩⟩
       simp [eqvRL, eqvR, sgSig, fsts, nth, sameN_self]
     · refine ⟨⟨0, by omega, by simp⟩, fun i hi => ?_⟩
       have e : i * 2 = 2 * i := by omega
       simp only [Int.toNat_natCast, Nat.zero_add, e, true_and, and_true, implies_true, Nat.le_refl]
       refine ⟨fun h => ?_, fun h => ?_⟩
       · have h := of_decide_eq_true h
         have hw : IntKind.i64.wrap ((i : Int) + 1) = ((i + 1 : Nat) : Int) := by rw [wrap64 (by omega) (by omega)]; omega
         refine ⟨by omega, by omega, by omega, i + 1, by omega, by omega, ⟨rfl, hw⟩, ?_, more_twoF rfl rfl⟩
         show 2 * (i + 1) ≤ 2 * i + 2
         omega
       · have h := of_decide_eq_false h
         omega
   · trivial
 · trivial
end Go.Proofs.Tryz.Sx
