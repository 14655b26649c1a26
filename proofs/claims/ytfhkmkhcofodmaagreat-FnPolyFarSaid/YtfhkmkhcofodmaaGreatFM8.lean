/- Parts of a proof, in order: what each says stands at its head. No conditions. -/
import Derived.ProofKit
import Derived.Lib.SmallJoins
import Derived.Deep.Slices
import Derived.Test.YtfhkmkhcofodmaaGreatFM7
import Derived.Test.YtfhkmkhcofodmaaGreatFM5
import Derived.Test.YtfhkmkhcofodmaaGreatFM6
import Derived.Test.YtfhkmkhcofodmaaGreatFM3
import Derived.Test.YtfhkmkhcofodmaaGreatFM4
namespace Go.Proofs.Tryz.Sx
open Go Go.Sx Go.Proofs Go.Fl Go.Geo
set_option maxRecDepth 100000
def dOk (d : Int) : Prop := d.natAbs ≤ 2097500
section
variable {g : Nat → Int} {n : Nat} {dx dy : Int} (hg : ∀ j, j < 2 * n → small (g j)) (hx : dOk dx) (hy : dOk dy)
include hg hx hy
theorem mz_abs {j : Nat} (hj : j < 2 * n) : (mz g dx dy j).natAbs ≤ 4194304 := by
 have := hg j hj
 unfold mz
 unfold small at this
 unfold dOk at hx hy
 split <;> omega
theorem mvq {j : Nat} (hj : j < 2 * n) : fok .add .f64 (fI g j) (if j % 2 = 0 then ofI .f64 dx else ofI .f64 dy) ∧ FI (mvG g n dx dy j) (mz g dx dy j) ∧ toIok .f64 (mvG g n dx dy j) .i64 ∧ wI (mvG g n dx dy) j = mz g dx dy j := by
 have e : mvG g n dx dy j = fop .add .f64 (fI g j) (if j % 2 = 0 then ofI .f64 dx else ofI .f64 dy) := by
   unfold mvG mvI mvd
   rw [if_pos hj]
 have hs := hg j hj
 have hb := mz_abs hg hx hy hj
 have key : ∀ d : Int, dOk d → (g j + d).natAbs ≤ 4194304 → fok .add .f64 (fI g j) (ofI .f64 d) ∧ FI (fop .add .f64 (fI g j) (ofI .f64 d)) (g j + d) ∧ toIok .f64 (fop .add .f64 (fI g j) (ofI .f64 d)) .i64 ∧ toI .f64 (fop .add .f64 (fI g j) (ofI .f64 d)) .i64 = g j + d := by
   intro d hd hb
   obtain ⟨h1, h2⟩ := add_F (fi hs) (FI_ofInt (n := d) (by unfold dOk at hd; omega)) (by omega)
   obtain ⟨h3, h4⟩ := toI_FI h2 (by omega)
   exact ⟨h1, h2, h3, h4⟩
 unfold wI
 rw [e]
 unfold mz at hb ⊢
 split
 · rename_i hp
   rw [if_pos hp] at hb
   exact key dx hx hb
 · rename_i hp
   rw [if_neg hp] at hb
   exact key dy hy hb
theorem whl_q : Whl (mvG g n dx dy) (mz g dx dy) (2 * n) := fun _ hj => ⟨(mvq hg hx hy hj).2.1, mz_abs hg hx hy hj⟩
theorem whl_w : Whl (fI (wI (mvG g n dx dy))) (mz g dx dy) (2 * n) := fun j hj => by
 have hb := mz_abs hg hx hy hj
 refine ⟨?_, hb⟩
 show FI (ofI .f64 (wI (mvG g n dx dy) j)) _
 rw [(mvq hg hx hy hj).2.2.2]
 exact FI_ofInt (by omega)
theorem mdOk_q (hn : n ≤ 63) (cl : Bool) : mdOk cl n g dx dy :=
 ⟨by omega, fun hb => ppOk_F (by omega) (whl_fI hg) (pp_two hb), fun hb => ppOk_F (by omega) (whl_q hg hx hy) (pp_two hb), fun _ hj => (mvq hg hx hy hj).1, fun _ hj => (mvq hg hx hy hj).2.2.1⟩
theorem pp_w (hn : n ≤ 63) (cl : Bool) : n ≤ 1000000 ∧ (ppBig n cl = true → ppOk (fI (wI (mvG g n dx dy))) n) :=
 ⟨by omega, fun hb => ppOk_F (by omega) (whl_w hg hx hy) (pp_two hb)⟩
end
theorem rX_w {g z : Nat → Int} {n : Nat} {cl : Bool} (h : Whl (fI g) z (2 * n)) (hb : ppBig n cl = true) : FI (rX0 g n cl) (loZ z 0 n) ∧ FI (rX1 g n cl) (loZ z 1 n) ∧ FI (rX2 g n cl) (hiZ z 0 n) ∧ FI (rX3 g n cl) (hiZ z 1 n) := by
 unfold rX0 rX1 rX2 rX3
 rw [hb]
 exact ⟨(lo_F h (by decide) n (Nat.le_refl _)).1, (lo_F h (by decide) n (Nat.le_refl _)).1, (hi_F h (by decide) n (Nat.le_refl _)).1, (hi_F h (by decide) n (Nat.le_refl _)).1⟩
theorem lo_le_hi {z : Nat → Int} {k n : Nat} (h : 0 < n) : loZ z k n ≤ hiZ z k n := Int.le_trans (loZ_le (j := 0) h) (hiZ_ge (j := 0) h)
theorem apart_all {x y z w x2 y2 z2 w2 : Nat} {a b c d p q r s : Int} (hx : FI x a) (hy : FI y b) (hz : FI z c) (hw : FI w d) (hx2 : FI x2 p) (hy2 : FI y2 q) (hz2 : FI z2 r) (hw2 : FI w2 s)
   (h1 : a ≤ c) (h2 : b ≤ d) (h3 : p ≤ r) (h4 : q ≤ s) (h : c < p ∨ d < q) :
   (inF x y z w x2 y2 z2 w2 = false ∧ inF x2 y2 z2 w2 x y z w = false) ∧ mt4 x y z w x2 y2 z2 w2 = false ∧ mt4 x2 y2 z2 w2 x y z w = false := by
 unfold inF mt4
 simp only [flt_I hx2 hx, fgt_I hz2 hz, flt_I hy2 hy, fgt_I hw2 hw, flt_I hx hx2, fgt_I hz hz2, flt_I hy hy2, fgt_I hw hw2, fgt_I hy hw2, flt_I hw hy2, fgt_I hx hz2, flt_I hz hx2, fgt_I hy2 hw, flt_I hw2 hy, fgt_I hx2 hz, flt_I hz2 hx]
 refine ⟨⟨?_, ?_⟩, ?_, ?_⟩ <;> (simp; omega)
theorem far_rect {g z g2 z2 : Nat → Int} {n n2 : Nat} {cl cl2 : Bool} (h : Whl (fI g) z (2 * n)) (hb : ppBig n cl = true) (h2 : Whl (fI g2) z2 (2 * n2)) (hb2 : ppBig n2 cl2 = true) {k : Nat} (hk : k < 2)
   (hfar : ∀ i, i < n → ∀ j, j < n2 → z (2 * i + k) < z2 (2 * j + k)) :
   (inF (rX0 g n cl) (rX1 g n cl) (rX2 g n cl) (rX3 g n cl) (rX0 g2 n2 cl2) (rX1 g2 n2 cl2) (rX2 g2 n2 cl2) (rX3 g2 n2 cl2) = false ∧ inF (rX0 g2 n2 cl2) (rX1 g2 n2 cl2) (rX2 g2 n2 cl2) (rX3 g2 n2 cl2) (rX0 g n cl) (rX1 g n cl) (rX2 g n cl) (rX3 g n cl) = false) ∧
   mt4 (rX0 g n cl) (rX1 g n cl) (rX2 g n cl) (rX3 g n cl) (rX0 g2 n2 cl2) (rX1 g2 n2 cl2) (rX2 g2 n2 cl2) (rX3 g2 n2 cl2) = false ∧ mt4 (rX0 g2 n2 cl2) (rX1 g2 n2 cl2) (rX2 g2 n2 cl2) (rX3 g2 n2 cl2) (rX0 g n cl) (rX1 g n cl) (rX2 g n cl) (rX3 g n cl) = false := by
 obtain ⟨a1, a2, a3, a4⟩ := rX_w h hb
 obtain ⟨b1, b2, b3, b4⟩ := rX_w h2 hb2
 have n0 := pp_two hb
 have n02 := pp_two hb2
 refine apart_all a1 a2 a3 a4 b1 b2 b3 b4 (lo_le_hi (by omega)) (lo_le_hi (by omega)) (lo_le_hi (by omega)) (lo_le_hi (by omega)) ?_
 have key : hiZ z k n < loZ z2 k n2 := by
   obtain ⟨i, hi, e1⟩ := hiZ_at (z := z) (k := k) (show 0 < n by omega)
   obtain ⟨j, hj, e2⟩ := loZ_at (z := z2) (k := k) (show 0 < n2 by omega)
   rw [e1, e2]
   exact hfar i hi j hj
 have : k = 0 ∨ k = 1 := by omega
 rcases this with rfl | rfl
 · exact .inl key
 · exact .inr key
theorem mn_le {g : Nat → Int} {k : Nat} : ∀ {i j : Nat}, j < i → mn g k i ≤ g (2 * j + k)
 | i + 1, j, h => by
   show imin (mn g k i) (g (2 * i + k)) ≤ _
   unfold imin
   by_cases e : j = i
   · subst e; split <;> omega
   · have := mn_le (g := g) (k := k) (show j < i by omega)
     split <;> omega
theorem mx_ge {g : Nat → Int} {k : Nat} : ∀ {i j : Nat}, j < i → g (2 * j + k) ≤ mx g k i
 | i + 1, j, h => by
   show _ ≤ imax (mx g k i) (g (2 * i + k))
   unfold imax
   by_cases e : j = i
   · subst e; split <;> omega
   · have := mx_ge (g := g) (k := k) (show j < i by omega)
     split <;> omega
theorem mn_small {g : Nat → Int} {n k : Nat} (hk : k < 2) (hn : 0 < n) (hg : ∀ j, j < 2 * n → small (g j)) : ∀ i, i ≤ n → small (mn g k i)
 | 0, _ => hg k (by omega)
 | i + 1, h => by
   show small (imin (mn g k i) (g (2 * i + k)))
   unfold imin
   split
   · exact hg _ (by omega)
   · exact mn_small hk hn hg i (by omega)
theorem mx_small {g : Nat → Int} {n k : Nat} (hk : k < 2) (hn : 0 < n) (hg : ∀ j, j < 2 * n → small (g j)) : ∀ i, i ≤ n → small (mx g k i)
 | 0, _ => hg k (by omega)
 | i + 1, h => by
   show small (imax (mx g k i) (g (2 * i + k)))
   unfold imax
   split
   · exact hg _ (by omega)
   · exact mx_small hk hn hg i (by omega)
def fdW (D byI : Int) : Int := IntKind.i64.wrap (IntKind.i64.wrap (IntKind.i64.wrap D + 1) + IntKind.i64.wrap (IntKind.u8.wrap (byI.tdiv 2)))
theorem wrapu8 {n : Int} (h1 : 0 ≤ n) (h2 : n < 256) : IntKind.u8.wrap n = n := by
 show (if (false && decide (n % (256 : Int) ≥ 128)) = true then n % (256 : Int) - 256 else n % (256 : Int)) = n
 rw [Bool.false_and, if_neg (by decide)]
 omega
theorem fdW_eq {D byI : Int} (hD : D.natAbs ≤ 2097152) (h0 : 0 ≤ byI) (h1 : byI ≤ 255) : D < fdW D byI ∧ fdW D byI ≤ D + 200 := by
 unfold fdW
 have e : byI.tdiv 2 = byI / 2 := Int.tdiv_eq_ediv_of_nonneg h0
 rw [e, wrapu8 (by omega) (by omega), wrap64 (n := D) (by omega) (by omega), wrap64 (n := D + 1) (by omega) (by omega), wrap64 (n := byI / 2) (by omega) (by omega), wrap64 (by omega) (by omega)]
 omega
section
variable {g gb : Nat → Int} {n nb : Nat} (hg : ∀ j, j < 2 * n → small (g j)) (hb : ∀ j, j < 2 * nb → small (gb j)) (hn : 0 < n) (hnb : 0 < nb) {byI : Int} (h0 : 0 ≤ byI) (h1 : byI ≤ 255)
include hg hb hn hnb h0 h1
theorem far_d {k : Nat} (hk : k < 2) : dOk (fdW (mx g k n - mn gb k nb) byI) ∧ ∀ i, i < n → ∀ j, j < nb → g (2 * i + k) < gb (2 * j + k) + fdW (mx g k n - mn gb k nb) byI := by
 have a := mx_small hk hn hg n (Nat.le_refl _)
 have b := mn_small hk hnb hb nb (Nat.le_refl _)
 unfold small at a b
 obtain ⟨c, d⟩ := fdW_eq (D := mx g k n - mn gb k nb) (byI := byI) (by omega) h0 h1
 refine ⟨by unfold dOk; omega, fun i hi j hj => ?_⟩
 have e := mx_ge (g := g) (k := k) hi
 have f := mn_le (g := gb) (k := k) hj
 omega
theorem far_x : dOk (fdW (mx g 0 n - mn gb 0 nb) byI) ∧ dOk 0 ∧ ∀ i, i < n → ∀ j, j < nb → g (2 * i + 0) < mz gb (fdW (mx g 0 n - mn gb 0 nb) byI) 0 (2 * j + 0) := by
 obtain ⟨a, b⟩ := far_d hg hb hn hnb h0 h1 (k := 0) (by decide)
 refine ⟨a, by unfold dOk; decide, fun i hi j hj => ?_⟩
 unfold mz
 rw [if_pos (by omega)]
 exact b i hi j hj
theorem far_y : dOk (fdW (mx g 1 n - mn gb 1 nb) byI) ∧ dOk 0 ∧ ∀ i, i < n → ∀ j, j < nb → g (2 * i + 1) < mz gb 0 (fdW (mx g 1 n - mn gb 1 nb) byI) (2 * j + 1) := by
 obtain ⟨a, b⟩ := far_d hg hb hn hnb h0 h1 (k := 1) (by decide)
 refine ⟨a, by unfold dOk; decide, fun i hi j hj => ?_⟩
 unfold mz
 rw [if_neg (by omega)]
 exact b i hi j hj
end
def pgOk (len l0 l1 l2 l3 : Nat) (g g0 g1 g2 g3 : Nat → Int) : Prop := (len ≤ 40 ∧ PO g len) ∧ PO g0 l0 ∧ PO g1 l1 ∧ PO g2 l2 ∧ PO g3 l3
theorem po_pp {g : Nat → Int} {n : Nat} (h : PO g n) (cl : Bool) : n ≤ 1000000 ∧ (ppBig n cl = true → ppOk (fI g) n) := ⟨h.len, fun hb => h.ppOk hb⟩
def lens (len l0 l1 l2 l3 : Nat) : Prop := len ≤ 1000000 ∧ l0 ≤ 1000000 ∧ l1 ≤ 1000000 ∧ l2 ≤ 1000000 ∧ l3 ≤ 1000000
section
variable {len k l0 l1 l2 l3 lenb kb l0b l1b l2b l3b : Nat} {g g0 g1 g2 g3 gb g0b g1b g2b g3b : Nat → Int}
theorem pgOk.lens (p : pgOk len l0 l1 l2 l3 g g0 g1 g2 g3) : lens len l0 l1 l2 l3 := ⟨p.1.2.len, p.2.1.len, p.2.2.1.len, p.2.2.2.1.len, p.2.2.2.2.len⟩
theorem pgOk.sh (h : hab k l0 l1 l2 l3) (p : pgOk len l0 l1 l2 l3 g g0 g1 g2 g3) : shOk len k l0 l1 l2 l3 g g0 g1 g2 g3 := ⟨h, po_pp p.1.2 true, po_pp p.2.1 true, po_pp p.2.2.1 true, po_pp p.2.2.2.1 true, po_pp p.2.2.2.2 true⟩
variable {dx dy : Int}
theorem far_pp (ha : hab k l0 l1 l2 l3) (hb : hab kb l0b l1b l2b l3b) (p : pgOk len l0 l1 l2 l3 g g0 g1 g2 g3) (pb : pgOk lenb l0b l1b l2b l3b gb g0b g1b g2b g3b) (u : l0b ≤ 63 ∧ l1b ≤ 63 ∧ l2b ≤ 63 ∧ l3b ≤ 63) (hl : 3 ≤ len) (hlb : 3 ≤ lenb) (hx : dOk dx) (hy : dOk dy) {m : Nat} (hm : m < 2)
   (hfar : ∀ i, i < len → ∀ j, j < lenb → g (2 * i + m) < mz gb dx dy (2 * j + m)) :
   (hab kb l0b l1b l2b l3b ∧ mdOk true lenb gb dx dy ∧ mdOk true l0b g0b dx dy ∧ mdOk true l1b g1b dx dy ∧ mdOk true l2b g2b dx dy ∧ mdOk true l3b g3b dx dy) ∧ (hab k l0 l1 l2 l3 ∧ lens len l0 l1 l2 l3) ∧
   (shOk len k l0 l1 l2 l3 g g0 g1 g2 g3 ∧ shOk lenb kb l0b l1b l2b l3b (wI (mvG gb lenb dx dy)) (wI (mvG g0b l0b dx dy)) (wI (mvG g1b l1b dx dy)) (wI (mvG g2b l2b dx dy)) (wI (mvG g3b l3b dx dy)) ∧ inF (rX0 g len true) (rX1 g len true) (rX2 g len true) (rX3 g len true) (rX0 (wI (mvG gb lenb dx dy)) lenb true) (rX1 (wI (mvG gb lenb dx dy)) lenb true) (rX2 (wI (mvG gb lenb dx dy)) lenb true) (rX3 (wI (mvG gb lenb dx dy)) lenb true) = false ∧ mt4 (rX0 (wI (mvG gb lenb dx dy)) lenb true) (rX1 (wI (mvG gb lenb dx dy)) lenb true) (rX2 (wI (mvG gb lenb dx dy)) lenb true) (rX3 (wI (mvG gb lenb dx dy)) lenb true) (rX0 g len true) (rX1 g len true) (rX2 g len true) (rX3 g len true) = false) ∧ (hab k l0 l1 l2 l3 ∧ lens len l0 l1 l2 l3) ∧
   (shOk lenb kb l0b l1b l2b l3b (wI (mvG gb lenb dx dy)) (wI (mvG g0b l0b dx dy)) (wI (mvG g1b l1b dx dy)) (wI (mvG g2b l2b dx dy)) (wI (mvG g3b l3b dx dy)) ∧ shOk len k l0 l1 l2 l3 g g0 g1 g2 g3 ∧ inF (rX0 (wI (mvG gb lenb dx dy)) lenb true) (rX1 (wI (mvG gb lenb dx dy)) lenb true) (rX2 (wI (mvG gb lenb dx dy)) lenb true) (rX3 (wI (mvG gb lenb dx dy)) lenb true) (rX0 g len true) (rX1 g len true) (rX2 g len true) (rX3 g len true) = false ∧ mt4 (rX0 g len true) (rX1 g len true) (rX2 g len true) (rX3 g len true) (rX0 (wI (mvG gb lenb dx dy)) lenb true) (rX1 (wI (mvG gb lenb dx dy)) lenb true) (rX2 (wI (mvG gb lenb dx dy)) lenb true) (rX3 (wI (mvG gb lenb dx dy)) lenb true) = false) := by
 have hg := p.1.2.2
 have b := pb.1.2.2
 obtain ⟨⟨r1, r2⟩, r3, r4⟩ := far_rect (whl_fI hg) (show ppBig len true = true by unfold ppBig; simp; omega) (whl_w b hx hy) (show ppBig lenb true = true by unfold ppBig; simp; omega) hm hfar
 have sm := (⟨hb, pp_w b hx hy (by have := pb.1.1; omega) true, pp_w pb.2.1.2 hx hy u.1 true, pp_w pb.2.2.1.2 hx hy u.2.1 true, pp_w pb.2.2.2.1.2 hx hy u.2.2.1 true, pp_w pb.2.2.2.2.2 hx hy u.2.2.2 true⟩ : shOk lenb kb l0b l1b l2b l3b (wI (mvG gb lenb dx dy)) (wI (mvG g0b l0b dx dy)) (wI (mvG g1b l1b dx dy)) (wI (mvG g2b l2b dx dy)) (wI (mvG g3b l3b dx dy)))
 exact ⟨⟨hb, mdOk_q b hx hy (by have := pb.1.1; omega) true, mdOk_q pb.2.1.2 hx hy u.1 true, mdOk_q pb.2.2.1.2 hx hy u.2.1 true, mdOk_q pb.2.2.2.1.2 hx hy u.2.2.1 true, mdOk_q pb.2.2.2.2.2 hx hy u.2.2.2 true⟩, ⟨ha, p.lens⟩, ⟨p.sh ha, sm, r1, r4⟩, ⟨ha, p.lens⟩, sm, p.sh ha, r2, r3⟩
end
theorem PO.w22 {g : Nat → Int} {n : Nat} (h : PO g n) {cl : Bool} : W22 (rX0 g n cl) ∧ W22 (rX1 g n cl) ∧ W22 (rX2 g n cl) ∧ W22 (rX3 g n cl) := ⟨h.w4.1.w22, h.w4.2.1.w22, h.w4.2.2.1.w22, h.w4.2.2.2.w22⟩
theorem Whl.fl2 {g : Nat → Nat} {z : Nat → Int} {m : Nat} (h : Whl g z m) : FL2 g m := fun j hj => by
 have e := wh_FI (h j hj).1
 exact ⟨by rw [e]; exact (h j hj).1, by rw [e]; exact (h j hj).2⟩
theorem lcp_far {g z G zG : Nat → Int} {n ll : Nat} {cl : Bool} (h : Whl (fI g) z (2 * n)) (hb : ppBig n true = true) (hG : Whl (fI G) zG (2 * ll)) {k : Nat} (hk : k < 2) (hfar : ∀ i, i < n → ∀ j, j < ll → z (2 * i + k) < zG (2 * j + k)) :
   lcpV (fI G) ll cl n true (rX0 g n true) (rX1 g n true) (rX2 g n true) (rX3 g n true) = false := by
 have n0 := pp_two hb
 obtain ⟨a1, a2, _, _⟩ := rX_w h hb
 have key : anyB (lon (fI G) ll (rX0 g n true) (rX1 g n true) (rX2 g n true) (rX3 g n true)) (nsg cl ll (wz (fI G))) = false := by
   refine anyB_not fun j hj => ?_
   have hjl : j < ll := Nat.lt_of_lt_of_le hj (nsg_le _ _ _)
   have hn := nx_lt hjl
   unfold lon
   have : onW (fI G (2 * j)) (fI G (2 * j + 1)) (fI G (2 * nx ll j)) (fI G (2 * nx ll j + 1)) (rX0 g n true) (rX1 g n true) = false := by
     unfold onW
     rw [wh_FI (hG (2 * j) (by omega)).1, wh_FI (hG (2 * j + 1) (by omega)).1, wh_FI (hG (2 * nx ll j) (by omega)).1, wh_FI (hG (2 * nx ll j + 1) (by omega)).1, wh_FI a1, wh_FI a2]
     refine decide_eq_false ?_
     rintro ⟨c1, c2, _⟩
     have e1 := hfar 0 (by omega) j hjl
     have e2 := hfar 0 (by omega) (nx ll j) hn
     have f := loZ_le (z := z) (k := k) (j := 0) (show 0 < n by omega)
     unfold btw at c1 c2
     have : k = 0 ∨ k = 1 := by omega
     rcases this with rfl | rfl
     · simp only [Nat.add_zero] at e1 e2 f
       omega
     · omega
   rw [this]
   rfl
 unfold lcpV
 rw [key]
 simp
section
variable {len k l0 l1 l2 l3 ll : Nat} {g g0 g1 g2 g3 gl : Nat → Int} {dx dy : Int}
theorem far_pl (ha : hab k l0 l1 l2 l3) (p : pgOk len l0 l1 l2 l3 g g0 g1 g2 g3) (hll : ll ≤ 30) (b : PO gl ll) (hl : 3 ≤ len) (hlb : 2 ≤ ll) (hx : dOk dx) (hy : dOk dy) {m : Nat} (hm : m < 2)
   (hfar : ∀ i, i < len → ∀ j, j < ll → g (2 * i + m) < mz gl dx dy (2 * j + m)) :
   mdOk false ll gl dx dy ∧ (hab k l0 l1 l2 l3 ∧ lens len l0 l1 l2 l3) ∧
   (shOk len k l0 l1 l2 l3 g g0 g1 g2 g3 ∧ (ll ≤ 1000000 ∧ (ppBig ll false = true → ppOk (fI (wI (mvG gl ll dx dy))) ll)) ∧ inF (rX0 g len true) (rX1 g len true) (rX2 g len true) (rX3 g len true) (rX0 (wI (mvG gl ll dx dy)) ll false) (rX1 (wI (mvG gl ll dx dy)) ll false) (rX2 (wI (mvG gl ll dx dy)) ll false) (rX3 (wI (mvG gl ll dx dy)) ll false) = false ∧ mt4 (rX0 g len true) (rX1 g len true) (rX2 g len true) (rX3 g len true) (rX0 (wI (mvG gl ll dx dy)) ll false) (rX1 (wI (mvG gl ll dx dy)) ll false) (rX2 (wI (mvG gl ll dx dy)) ll false) (rX3 (wI (mvG gl ll dx dy)) ll false) = false) ∧ (hab k l0 l1 l2 l3 ∧ lens len l0 l1 l2 l3) ∧
   (shOk len k l0 l1 l2 l3 g g0 g1 g2 g3 ∧ (ll ≤ 1000000 ∧ (ppBig ll false = true → ppOk (fI (wI (mvG gl ll dx dy))) ll)) ∧ (FL2 (fI (wI (mvG gl ll dx dy))) (2 * ll) ∧ W22 (rX0 g len true) ∧ W22 (rX1 g len true) ∧ W22 (rX2 g len true) ∧ W22 (rX3 g len true)) ∧ mt4 (rX0 g len true) (rX1 g len true) (rX2 g len true) (rX3 g len true) (rX0 (wI (mvG gl ll dx dy)) ll false) (rX1 (wI (mvG gl ll dx dy)) ll false) (rX2 (wI (mvG gl ll dx dy)) ll false) (rX3 (wI (mvG gl ll dx dy)) ll false) = false) ∧
   lcpV (fI (wI (mvG gl ll dx dy))) ll false len true (rX0 g len true) (rX1 g len true) (rX2 g len true) (rX3 g len true) = false := by
 have hg := p.1.2.2
 have hb1 : ppBig len true = true := by unfold ppBig; simp; omega
 obtain ⟨⟨r1, _⟩, r3, _⟩ := far_rect (whl_fI hg) hb1 (whl_w b.2 hx hy) (show ppBig ll false = true by unfold ppBig; simp; omega) hm hfar
 exact ⟨mdOk_q b.2 hx hy (by omega) false, ⟨ha, p.lens⟩, ⟨p.sh ha, pp_w b.2 hx hy (by omega) false, r1, r3⟩, ⟨ha, p.lens⟩, ⟨p.sh ha, pp_w b.2 hx hy (by omega) false, ⟨(whl_w b.2 hx hy).fl2, p.1.2.w22⟩, r3⟩, lcp_far (whl_fI hg) hb1 (whl_w b.2 hx hy) hm hfar⟩
end
theorem pg_of {len l0 l1 l2 l3 : Nat} {g g0 g1 g2 g3 : Nat → Int} (h : (isPg 40 len g && isPg 20 l0 g0 && isPg 20 l1 g1 && isPg 20 l2 g2 && isPg 20 l3 g3) = true) :
   pgOk len l0 l1 l2 l3 g g0 g1 g2 g3 ∧ l0 ≤ 63 ∧ l1 ≤ 63 ∧ l2 ≤ 63 ∧ l3 ≤ 63 := by
 unfold isPg at h
 simp only [Bool.and_eq_true, decide_eq_true_eq] at h
 obtain ⟨⟨⟨⟨⟨a, a'⟩, b, b'⟩, c, c'⟩, d, d'⟩, e, e'⟩ := h
 exact ⟨⟨⟨by omega, by omega, of_decide_eq_true a'⟩, ⟨by omega, of_decide_eq_true b'⟩, ⟨by omega, of_decide_eq_true c'⟩, ⟨by omega, of_decide_eq_true d'⟩, ⟨by omega, of_decide_eq_true e'⟩⟩, by omega, by omega, by omega, by omega⟩
theorem ofI_zero : ofI .f64 0 = 0 := by decide +kernel
set_option maxHeartbeats 1000000
def isLn3 : List SV → Bool
 | [.agg (.int _ (.ofNat 2) :: _), _, _] => true
 | _ => false
def lnAt (i : Nat) (l : List SV) : Bool := match getL l i with
 | some (.agg (.int _ (.ofNat 2) :: _)) => true
 | _ => false
noncomputable def ask3 : Con := swC (lnAt 0) (conR asLPFC) (swC (lnAt 1) (conR asPLFC) (conR asPPFC))
theorem ask3_ok : ConOk Tryz.prog 39 ask3 := ConOk.sw asLPF (ConOk.sw asPLF asPPF)
noncomputable def GFAR : Ctx := ⟨⟨tys, FL⟩, [(45, conR zf2UC), (46, conR isPoUC), (19, conR isGeoC), (27, conR gRectC), (48, conR pShUC), (51, conR polyLnC), (52, swC isLn3 (conR moved2C) (conR moved3C)), (39, ask3), (50, pureCon polyAwF)]⟩
theorem gFAR : CtxOk Tryz.prog GFAR := ⟨⟨tysOk, flOk⟩, GamOk.cons zf2U (GamOk.cons isPoU (GamOk.cons isGeo (GamOk.cons gRect (GamOk.cons pShU (GamOk.cons polyLn (GamOk.cons (ConOk.sw moved2 moved3) (GamOk.cons ask3_ok (GamOk.cons (.pure polyAw) GamOk.nil)))))))), by kernel_rfl⟩
noncomputable def lawFarC : List SV → RdM
 | [.agg [.slcc n len, .slcc h k1], .agg [.slcc nb lenb, .slcc hb k1b], .slcc m ll, .int .u8 byI] => .read n fun o0 => (match intsFrom .i64 o0.c with
   | some (m0, g) => .read h fun o1 => (match holU o1.c with
   | some (k, q0, l0, q1, l1, q2, l2, q3, l3) => .read q0 fun o2 => (match intsFrom .i64 o2.c with
   | some (m2, g0) => .read q1 fun o3 => (match intsFrom .i64 o3.c with
   | some (m3, g1) => .read q2 fun o4 => (match intsFrom .i64 o4.c with
   | some (m4, g2) => .read q3 fun o5 => (match intsFrom .i64 o5.c with
   | some (m5, g3) => .read nb fun o6 => (match intsFrom .i64 o6.c with
   | some (m6, gb) => .read hb fun o7 => (match holU o7.c with
   | some (kb, q0b, l0b, q1b, l1b, q2b, l2b, q3b, l3b) => .read q0b fun o8 => (match intsFrom .i64 o8.c with
   | some (m8, g0b) => .read q1b fun o9 => (match intsFrom .i64 o9.c with
   | some (m9, g1b) => .read q2b fun o10 => (match intsFrom .i64 o10.c with
   | some (m10, g2b) => .read q3b fun o11 => (match intsFrom .i64 o11.c with
   | some (m11, g3b) => .read m fun o12 => (match intsFrom .i64 o12.c with
   | some (m12, gl) => .ret ⟨[.agg [.slcc 0 len, .slcc 1 k], .agg [.slcc 6 lenb, .slcc 7 kb], .slcc 12 ll, .int .u8 byI], [(0, ⟨false, 28, .ints .i64 m0 g, 0⟩), (1, ⟨false, 26, .upto k [.slcc 2 l0, .slcc 3 l1, .slcc 4 l2, .slcc 5 l3], 0⟩), (2, ⟨false, 28, .ints .i64 m2 g0, 0⟩), (3, ⟨false, 28, .ints .i64 m3 g1, 0⟩), (4, ⟨false, 28, .ints .i64 m4 g2, 0⟩), (5, ⟨false, 28, .ints .i64 m5 g3, 0⟩), (6, ⟨false, 28, .ints .i64 m6 gb, 0⟩), (7, ⟨false, 26, .upto kb [.slcc 8 l0b, .slcc 9 l1b, .slcc 10 l2b, .slcc 11 l3b], 0⟩), (8, ⟨false, 28, .ints .i64 m8 g0b, 0⟩), (9, ⟨false, 28, .ints .i64 m9 g1b, 0⟩), (10, ⟨false, 28, .ints .i64 m10 g2b, 0⟩), (11, ⟨false, 28, .ints .i64 m11 g3b, 0⟩), (12, ⟨false, 28, .ints .i64 m12 gl, 0⟩)], .tt, [], [], some (k = k1 ∧ kb = k1b ∧ m0 = 2 * len ∧ m2 = 2 * l0 ∧ m3 = 2 * l1 ∧ m4 = 2 * l2 ∧ m5 = 2 * l3 ∧ m6 = 2 * lenb ∧ m8 = 2 * l0b ∧ m9 = 2 * l1b ∧ m10 = 2 * l2b ∧ m11 = 2 * l3b ∧ m12 = 2 * ll ∧ hab k l0 l1 l2 l3 ∧ hab kb l0b l1b l2b l3b ∧ 0 ≤ byI ∧ byI ≤ 255)⟩
   | none => .fail)
   | none => .fail)
   | none => .fail)
   | none => .fail)
   | none => .fail)
   | none => .fail)
   | none => .fail)
   | none => .fail)
   | none => .fail)
   | none => .fail)
   | none => .fail)
   | none => .fail)
   | none => .fail)
 | _ => .fail
theorem vc_lawFar (len k l0 l1 l2 l3 : Nat) (_ _ _ _ : Nm) (lenb kb l0b l1b l2b l3b : Nat) (_ _ _ _ : Nm) (ll : Nat) (byI : Int)  (g : Nat → Int) (g0 : Nat → Int) (g1 : Nat → Int) (g2 : Nat → Int) (g3 : Nat → Int) (gb : Nat → Int) (g0b : Nat → Int) (g1b : Nat → Int) (g2b : Nat → Int) (g3b : Nat → Int) (gl : Nat → Int) : runA GFAR 13 [(7, .iter 3)] [(5, ⟨Nat, fun _ => ⟨147, [(2, .slcc 12 ll), (3, .int .u8 byI), (4, .ptr 13 0), (5, .ptr 14 0)], [(0, ⟨false, 28, .ints .i64 (2 * len) g, 0⟩), (1, ⟨false, 26, .upto k [.slcc 2 l0, .slcc 3 l1, .slcc 4 l2, .slcc 5 l3], 0⟩), (2, ⟨false, 28, .ints .i64 (2 * l0) g0, 0⟩), (3, ⟨false, 28, .ints .i64 (2 * l1) g1, 0⟩), (4, ⟨false, 28, .ints .i64 (2 * l2) g2, 0⟩), (5, ⟨false, 28, .ints .i64 (2 * l3) g3, 0⟩), (6, ⟨false, 28, .ints .i64 (2 * lenb) gb, 0⟩), (7, ⟨false, 26, .upto kb [.slcc 8 l0b, .slcc 9 l1b, .slcc 10 l2b, .slcc 11 l3b], 0⟩), (8, ⟨false, 28, .ints .i64 (2 * l0b) g0b, 0⟩), (9, ⟨false, 28, .ints .i64 (2 * l1b) g1b, 0⟩), (10, ⟨false, 28, .ints .i64 (2 * l2b) g2b, 0⟩), (11, ⟨false, 28, .ints .i64 (2 * l3b) g3b, 0⟩), (12, ⟨false, 28, .ints .i64 (2 * ll) gl, 0⟩), (13, ⟨true, 70, .cells [.slcc 0 len, .slcc 1 k], 0⟩), (14, ⟨true, 70, .cells [.slcc 6 lenb, .slcc 7 kb], 0⟩)], 15⟩, fun _ => pgOk len l0 l1 l2 l3 g g0 g1 g2 g3 ∧ pgOk lenb l0b l1b l2b l3b gb g0b g1b g2b g3b ∧ (ll ≤ 30 ∧ PO gl ll) ∧ (3 ≤ len ∧ 3 ≤ lenb ∧ 2 ≤ ll) ∧ l0b ≤ 63 ∧ l1b ≤ 63 ∧ l2b ≤ 63 ∧ l3b ≤ 63, fun _ => 0⟩)] (codeOf Tryz.f9) (init Tryz.f9.ntmps [.agg [.slcc 0 len, .slcc 1 k], .agg [.slcc 6 lenb, .slcc 7 kb], .slcc 12 ll, .int .u8 byI] [(0, ⟨false, 28, .ints .i64 (2 * len) g, 0⟩), (1, ⟨false, 26, .upto k [.slcc 2 l0, .slcc 3 l1, .slcc 4 l2, .slcc 5 l3], 0⟩), (2, ⟨false, 28, .ints .i64 (2 * l0) g0, 0⟩), (3, ⟨false, 28, .ints .i64 (2 * l1) g1, 0⟩), (4, ⟨false, 28, .ints .i64 (2 * l2) g2, 0⟩), (5, ⟨false, 28, .ints .i64 (2 * l3) g3, 0⟩), (6, ⟨false, 28, .ints .i64 (2 * lenb) gb, 0⟩), (7, ⟨false, 26, .upto kb [.slcc 8 l0b, .slcc 9 l1b, .slcc 10 l2b, .slcc 11 l3b], 0⟩), (8, ⟨false, 28, .ints .i64 (2 * l0b) g0b, 0⟩), (9, ⟨false, 28, .ints .i64 (2 * l1b) g1b, 0⟩), (10, ⟨false, 28, .ints .i64 (2 * l2b) g2b, 0⟩), (11, ⟨false, 28, .ints .i64 (2 * l3b) g3b, 0⟩), (12, ⟨false, 28, .ints .i64 (2 * ll) gl, 0⟩)] 13) (endK GFAR.E.T Tryz.f9.results.toList fun S v => postP 13 ⟨[.agg [.slcc 0 len, .slcc 1 k], .agg [.slcc 6 lenb, .slcc 7 kb], .slcc 12 ll, .int .u8 byI], [(0, ⟨false, 28, .ints .i64 (2 * len) g, 0⟩), (1, ⟨false, 26, .upto k [.slcc 2 l0, .slcc 3 l1, .slcc 4 l2, .slcc 5 l3], 0⟩), (2, ⟨false, 28, .ints .i64 (2 * l0) g0, 0⟩), (3, ⟨false, 28, .ints .i64 (2 * l1) g1, 0⟩), (4, ⟨false, 28, .ints .i64 (2 * l2) g2, 0⟩), (5, ⟨false, 28, .ints .i64 (2 * l3) g3, 0⟩), (6, ⟨false, 28, .ints .i64 (2 * lenb) gb, 0⟩), (7, ⟨false, 26, .upto kb [.slcc 8 l0b, .slcc 9 l1b, .slcc 10 l2b, .slcc 11 l3b], 0⟩), (8, ⟨false, 28, .ints .i64 (2 * l0b) g0b, 0⟩), (9, ⟨false, 28, .ints .i64 (2 * l1b) g1b, 0⟩), (10, ⟨false, 28, .ints .i64 (2 * l2b) g2b, 0⟩), (11, ⟨false, 28, .ints .i64 (2 * l3b) g3b, 0⟩), (12, ⟨false, 28, .ints .i64 (2 * ll) gl, 0⟩)], .tt, [], [], some (k = k ∧ kb = kb ∧ 2 * len = 2 * len ∧ 2 * l0 = 2 * l0 ∧ 2 * l1 = 2 * l1 ∧ 2 * l2 = 2 * l2 ∧ 2 * l3 = 2 * l3 ∧ 2 * lenb = 2 * lenb ∧ 2 * l0b = 2 * l0b ∧ 2 * l1b = 2 * l1b ∧ 2 * l2b = 2 * l2b ∧ 2 * l3b = 2 * l3b ∧ 2 * ll = 2 * ll ∧ hab k l0 l1 l2 l3 ∧ hab kb l0b l1b l2b l3b ∧ 0 ≤ byI ∧ byI ≤ 255)⟩ S v) = (
(k = k ∧ 2 * len = 2 * len ∧ 2 * l0 = 2 * l0 ∧ 2 * l1 = 2 * l1 ∧ 2 * l2 = 2 * l2 ∧ 2 * l3 = 2 * l3 ∧ hab k l0 l1 l2 l3) ∧ ((!(fitB len
&& fitB l0 && fitB l1 && fitB l2 && fitB l3)) = true → True ∧ True) ∧ ((!(fitB len && fitB l0 && fitB l1 &&
 fitB l2 && fitB l3)) = false → (kb = kb ∧ 2 * lenb = 2 * lenb ∧ 2 * l0b = 2 * l0b ∧ 2 * l1b = 2 * l1b ∧ 2 * l2b = 2 * l2b ∧ 2 * l3b = 2 * l3b ∧ hab kb l0b l1b l2b l3b) ∧ ((!(fitB lenb && fitB l0b && fitB l1b && fitB l2b && fitB l3b)) = true → True ∧ True) ∧
((!(fitB lenb && fitB l0b && fitB l1b && fitB l2b && fitB l3b)) = false → (decide (2147483647 < (↑ll : Int)) = true → True ∧ True) ∧ (decide
(2147483647 < (↑ll : Int)) = false → ((k = k ∧ 2 * len = 2 * len ∧ 2 * l0 = 2 * l0 ∧ 2 * l1 = 2 * l1 ∧ 2 * l2 = 2 * l2 ∧ 2 * l3 = 2 * l3 ∧ hab k
 l0 l1 l2 l3) ∧ ((!(isPg (40 : Int) len g && isPg (20 : Int) l0 g0 && isPg (20 : Int) l1 g1 && isPg (20 : Int) l2 g2 && isPg (20 : Int) l3 g3)) = true → True ∧
 True) ∧ ((!(isPg (40 : Int) len g && isPg (20 : Int) l0 g0 && isPg (20 : Int) l1 g1 && isPg (20 : Int) l2 g2 && isPg (20 : Int) l3 g3)) = false → (kb = kb ∧ 2 * lenb = 2 * lenb ∧ 2 * l0b = 2 * l0b ∧ 2 * l1b = 2 * l1b ∧ 2 * l2b = 2 * l2b ∧ 2 * l3b = 2 * l3b ∧ hab kb l0b l1b l2b l3b) ∧ ((!(isPg
(40 : Int) lenb gb && isPg (20 : Int) l0b g0b && isPg (20 : Int) l1b g1b && isPg (20 : Int) l2b g2b && isPg (20 : Int) l3b g3b)) = true → True ∧ True) ∧
((!(isPg (40 : Int) lenb gb && isPg (20 : Int) l0b g0b && isPg (20 : Int) l1b g1b && isPg (20 : Int) l2b g2b && isPg (20 : Int) l3b g3b)) = false → (decide ((30
: Int) < (↑ll : Int)) = true → True ∧ True) ∧ (decide (30 < (↑ll : Int)) = false → (2 * ll = 2 * ll ∧ ll ≤ 1000000) ∧ ((!geoAll (2 * ll) gl) = true → True ∧ True) ∧ ((!geoAll
(2 * ll) gl) = false → (decide ((↑len : Int) < 3) = true → True ∧ True) ∧ (decide ((↑len : Int) < 3) = false → (decide ((↑lenb : Int) < 3) = true → True ∧ True) ∧ (decide ((↑lenb : Int) < 3) = false → (decide
((↑ll : Int) < 2) = true → True ∧ True) ∧ (decide ((↑ll : Int) < 2) = false → ∃ (_ : Nat), (pgOk len l0 l1 l2 l3 g g0 g1 g2 g3 ∧ pgOk lenb l0b l1b l2b l3b gb g0b g1b g2b g3b ∧ (ll ≤ 30 ∧
 PO gl ll) ∧ (3 ≤ len ∧ 3 ≤ lenb ∧ 2 ≤ ll) ∧ l0b ≤ 63 ∧ l1b ≤ 63 ∧ l2b ≤ 63 ∧ l3b ≤ 63) ∧ ((True ∧ ll = ll) ∧ byI = byI ∧ (True ∧ 0 = 0) ∧ (True ∧ 0 = 0) ∧ True) ∧ True ∧ (2 * len ≤ 2 * len ∧ ∀ (i : Nat), i < 2 * len → g i = g i) ∧ True ∧ (k = k ∧ (0 < k → True ∧ l0 = l0) ∧ (1 < k → True ∧ l1 = l1) ∧ (2 < k → True ∧ l2 = l2) ∧ (3 < k →
 True ∧ l3 = l3) ∧ True) ∧ True ∧ (2 * l0 ≤ 2 * l0 ∧ ∀ (i : Nat), i < 2 * l0 → g0 i = g0 i) ∧ True ∧ (2 * l1 ≤ 2 * l1 ∧ ∀ (i : Nat), i < 2 * l1 → g1 i = g1 i) ∧ True ∧ (2 * l2 ≤ 2 * l2 ∧
∀ (i : Nat), i < 2 * l2 → g2 i = g2 i) ∧ True ∧ (2 * l3 ≤ 2 * l3 ∧ ∀ (i : Nat), i < 2 * l3 → g3 i = g3 i) ∧ True ∧ (2 * lenb ≤ 2 * lenb ∧ ∀ (i : Nat), i < 2 * lenb → gb i = gb i) ∧ True ∧ (kb =
 kb ∧ (0 < kb → True ∧ l0b = l0b) ∧ (1 < kb → True ∧ l1b = l1b) ∧ (2 < kb → True ∧ l2b = l2b) ∧ (3 < kb → True ∧ l3b = l3b) ∧ True) ∧ True ∧ (2 * l0b ≤ 2 * l0b ∧ ∀ (i : Nat), i < 2 * l0b → g0b i
= g0b i) ∧ True ∧ (2 * l1b ≤ 2 * l1b ∧ ∀ (i : Nat), i < 2 * l1b → g1b i = g1b i) ∧ True ∧ (2 * l2b ≤ 2 * l2b ∧ ∀ (i : Nat), i < 2 * l2b → g2b i = g2b i) ∧ True ∧ (2 * l3b ≤ 2 * l3b ∧ ∀
(i : Nat), i < 2 * l3b → g3b i = g3b i) ∧ True ∧ (2 * ll ≤ 2 * ll ∧ ∀ (i : Nat), i < 2 * ll → gl i = gl i) ∧ True ∧ (70 = 70 ∧ 0 = 0 ∧ (True ∧ len = len) ∧ (True ∧ k = k) ∧ True) ∧ True
∧ (70 = 70 ∧ 0 = 0 ∧ (True ∧ lenb = lenb) ∧ (True ∧ kb = kb) ∧ True) ∧ True)))))))) ∧ ∀ (_ : Nat), pgOk len l0 l1 l2 l3 g g0 g1 g2 g3 ∧ pgOk lenb l0b l1b l2b l3b gb g0b g1b g2b g3b ∧
(ll ≤ 30 ∧ PO gl ll) ∧ (3 ≤ len ∧ 3 ≤ lenb ∧ 2 ≤ ll) ∧ l0b ≤ 63 ∧ l1b ≤ 63 ∧ l2b ≤ 63 ∧ l3b ≤ 63 → (1 ≤ len ∧ 2 * len ≤ 2 * len ∧ len ≤ 1000000) ∧ (kb = kb ∧ 2 * lenb = 2 * lenb ∧ 2 * l0b = 2 * l0b ∧ 2 * l1b = 2 * l1b ∧ 2 * l2b = 2 * l2b ∧ 2 * l3b = 2 * l3b ∧ hab kb l0b l1b l2b l3b ∧ lenb
≤ 1000000 ∧ l0b ≤ 1000000 ∧ l1b ≤ 1000000 ∧ l2b ≤ 1000000 ∧ l3b ≤ 1000000) ∧ (1 ≤ lenb ∧ 2 * lenb ≤ 2 * lenb ∧ lenb ≤ 1000000) ∧ (2 * ll = 2 * ll ∧ ll ≤ 1000000) ∧ (1 ≤ ll ∧ 2 * ll ≤ 2 * ll ∧ ll ≤ 1000000) ∧ true = true ∧ (true = true → (((0 : Int) ≤ 0 ∧ (0 : Int) < 2) ∧ True) ∧ (((0 : Int) ≤ 1 ∧ (1 : Int) < 2) ∧ True) ∧ (((0 : Int) ≤ (0
: Int) ∧ (0 : Int) < 2) ∧ True) ∧ (2 : Int) ≠ 0 ∧ (2 : Int) ≠ 0 ∧ ((Int.tmod byI (2 : Int) == (1 : Int)) = true → (((0 : Int) ≤ 1 ∧ (1 : Int) < 2) ∧ True) ∧ (((0 : Int) ≤ 0 ∧ (0 : Int) < 2) ∧
 True) ∧ (2 : Int) ≠ 0 ∧ true = true ∧ (kb = kb ∧ 2 * lenb = 2 * lenb ∧ 2 * l0b = 2 * l0b ∧ 2 * l1b = 2 * l1b ∧ 2 * l2b = 2 * l2b ∧ 2 * l3b = 2 * l3b ∧
 hab kb l0b l1b l2b l3b ∧ mdOk true lenb gb (0 : Int) (Go.IntKind.wrap .i64 (Go.IntKind.wrap .i64 (Go.IntKind.wrap .i64 (mx g 1 len - mn gb 1 lenb) + (1 : Int)) +
 Go.IntKind.wrap .i64 (Go.IntKind.wrap .u8 (Int.tdiv byI (2 : Int))))) ∧ mdOk true l0b g0b (0 : Int) (Go.IntKind.wrap .i64 (Go.IntKind.wrap .i64 (Go.IntKind.wrap .i64 (mx g 1 len - mn gb 1 lenb) + (1 : Int)) + Go.IntKind.wrap .i64 (Go.IntKind.wrap .u8 (Int.tdiv byI (2 : Int))))) ∧ mdOk true l1b g1b (0 : Int) (Go.IntKind.wrap .i64 (Go.IntKind.wrap .i64 (Go.IntKind.wrap .i64 (mx g 1 len
- mn gb 1 lenb) + (1 : Int)) + Go.IntKind.wrap .i64 (Go.IntKind.wrap .u8 (Int.tdiv byI (2 : Int))))) ∧ mdOk true l2b g2b (0 : Int) (Go.IntKind.wrap .i64 (Go.IntKind.wrap .i64 (Go.IntKind.wrap .i64
(mx g 1 len - mn gb 1 lenb) + (1 : Int)) + Go.IntKind.wrap .i64 (Go.IntKind.wrap .u8 (Int.tdiv byI (2 : Int))))) ∧ mdOk true l3b g3b (0 : Int) (Go.IntKind.wrap .i64
(Go.IntKind.wrap .i64 (Go.IntKind.wrap .i64 (mx g 1 len - mn gb 1 lenb) + (1 : Int)) + Go.IntKind.wrap .i64 (Go.IntKind.wrap .u8 (Int.tdiv byI (2 : Int)))))) ∧ (k = k ∧ 2 * len = 2 *
 len ∧ 2 * l0 = 2 * l0 ∧ 2 * l1 = 2 * l1 ∧ 2 * l2 = 2 * l2 ∧ 2 * l3 = 2 * l3 ∧ hab k l0 l1 l2 l3 ∧ len ≤ 1000000 ∧ l0 ≤ 1000000 ∧ l1 ≤ 1000000 ∧
 l2 ≤ 1000000 ∧ l3 ≤ 1000000) ∧ (k = k ∧ kb = kb ∧ 2 * len = 2 * len ∧ 2 * l0 = 2 * l0 ∧ 2 * l1 = 2 * l1 ∧ 2 * l2 = 2 * l2 ∧ 2 * l3 = 2 * l3 ∧ 2 *
 lenb = 2 * lenb ∧ 2 * l0b = 2 * l0b ∧ 2 * l1b = 2 * l1b ∧ 2 * l2b = 2 * l2b ∧ 2 * l3b = 2 * l3b ∧ shOk len k l0 l1 l2 l3 g g0 g1 g2 g3 ∧ shOk
 lenb kb l0b l1b l2b l3b (wI (mvG gb lenb (0 : Int) (Go.IntKind.wrap .i64 (Go.IntKind.wrap .i64 (Go.IntKind.wrap .i64 (mx g 1 len - mn gb 1 lenb) + (1 : Int)) +
 Go.IntKind.wrap .i64 (Go.IntKind.wrap .u8 (Int.tdiv byI (2 : Int))))))) (wI (mvG g0b l0b (0 : Int) (Go.IntKind.wrap .i64 (Go.IntKind.wrap .i64 (Go.IntKind.wrap .i64 (mx g 1 len -
 mn gb 1 lenb) + (1 : Int)) + Go.IntKind.wrap .i64 (Go.IntKind.wrap .u8 (Int.tdiv byI (2 : Int))))))) (wI (mvG g1b l1b (0 : Int) (Go.IntKind.wrap .i64 (Go.IntKind.wrap .i64 (Go.IntKind.wrap
.i64 (mx g 1 len - mn gb 1 lenb) + (1 : Int)) + Go.IntKind.wrap .i64 (Go.IntKind.wrap .u8 (Int.tdiv byI (2 : Int))))))) (wI (mvG g2b l2b (0 : Int)
(Go.IntKind.wrap .i64 (Go.IntKind.wrap .i64 (Go.IntKind.wrap .i64 (mx g 1 len - mn gb 1 lenb) + (1 : Int)) + Go.IntKind.wrap .i64 (Go.IntKind.wrap .u8 (Int.tdiv byI (2 : Int)))))))
(wI (mvG g3b l3b (0 : Int) (Go.IntKind.wrap .i64 (Go.IntKind.wrap .i64 (Go.IntKind.wrap .i64 (mx g 1 len - mn gb 1 lenb) + (1 : Int)) + Go.IntKind.wrap .i64
(Go.IntKind.wrap .u8 (Int.tdiv byI (2 : Int))))))) ∧ inF (rX0 g len true) (rX1 g len true) (rX2 g len true) (rX3 g len true) (rX0
(wI (mvG gb lenb (0 : Int) (Go.IntKind.wrap .i64 (Go.IntKind.wrap .i64 (Go.IntKind.wrap .i64 (mx g 1 len - mn gb 1 lenb) + (1 : Int)) + Go.IntKind.wrap .i64
(Go.IntKind.wrap .u8 (Int.tdiv byI (2 : Int))))))) lenb true) (rX1 (wI (mvG gb lenb (0 : Int) (Go.IntKind.wrap .i64 (Go.IntKind.wrap .i64 (Go.IntKind.wrap .i64 (mx g 1
 len - mn gb 1 lenb) + (1 : Int)) + Go.IntKind.wrap .i64 (Go.IntKind.wrap .u8 (Int.tdiv byI (2 : Int))))))) lenb true) (rX2 (wI (mvG gb lenb (0 : Int) (Go.IntKind.wrap
.i64 (Go.IntKind.wrap .i64 (Go.IntKind.wrap .i64 (mx g 1 len - mn gb 1 lenb) + (1 : Int)) + Go.IntKind.wrap .i64 (Go.IntKind.wrap .u8 (Int.tdiv byI (2 : Int))))))) lenb true) (rX3
(wI (mvG gb lenb (0 : Int) (Go.IntKind.wrap .i64 (Go.IntKind.wrap .i64 (Go.IntKind.wrap .i64 (mx g 1 len - mn gb 1 lenb) + (1 : Int)) + Go.IntKind.wrap .i64
(Go.IntKind.wrap .u8 (Int.tdiv byI (2 : Int))))))) lenb true) = false ∧ mt4 (rX0 (wI (mvG gb lenb (0 : Int) (Go.IntKind.wrap .i64 (Go.IntKind.wrap .i64 (Go.IntKind.wrap .i64
(mx g 1 len - mn gb 1 lenb) + (1 : Int)) + Go.IntKind.wrap .i64 (Go.IntKind.wrap .u8 (Int.tdiv byI (2 : Int))))))) lenb true) (rX1 (wI (mvG gb
 lenb (0 : Int) (Go.IntKind.wrap .i64 (Go.IntKind.wrap .i64 (Go.IntKind.wrap .i64 (mx g 1 len - mn gb 1 lenb) + (1 : Int)) + Go.IntKind.wrap .i64 (Go.IntKind.wrap .u8 (Int.tdiv byI (2 : Int)))))))
 lenb true) (rX2 (wI (mvG gb lenb (0 : Int) (Go.IntKind.wrap .i64 (Go.IntKind.wrap .i64 (Go.IntKind.wrap .i64 (mx g 1 len - mn gb 1 lenb) + (1 :
 Int)) + Go.IntKind.wrap .i64 (Go.IntKind.wrap .u8 (Int.tdiv byI (2 : Int))))))) lenb true) (rX3 (wI (mvG gb lenb (0 : Int) (Go.IntKind.wrap .i64 (Go.IntKind.wrap .i64 (Go.IntKind.wrap .i64
(mx g 1 len - mn gb 1 lenb) + (1 : Int)) + Go.IntKind.wrap .i64 (Go.IntKind.wrap .u8 (Int.tdiv byI (2 : Int))))))) lenb true) (rX0 g len true) (rX1 g len true)
(rX2 g len true) (rX3 g len true) = false) ∧ true = true ∧ (k = k ∧ 2 * len = 2 * len ∧ 2 * l0 = 2 * l0 ∧ 2 * l1 = 2 * l1 ∧ 2 * l2 = 2 * l2 ∧ 2 * l3 = 2 * l3 ∧ hab k l0 l1 l2 l3 ∧ len ≤ 1000000 ∧ l0 ≤ 1000000 ∧ l1 ≤ 1000000 ∧ l2 ≤ 1000000 ∧ l3 ≤ 1000000) ∧ (kb = kb ∧ k = k ∧ 2 * lenb = 2 * lenb ∧ 2
* l0b = 2 * l0b ∧ 2 * l1b = 2 * l1b ∧ 2 * l2b = 2 * l2b ∧ 2 * l3b = 2 * l3b ∧ 2 * len = 2 * len ∧ 2 * l0 = 2 * l0 ∧ 2 * l1 = 2 * l1 ∧ 2 *
 l2 = 2 * l2 ∧ 2 * l3 = 2 * l3 ∧ shOk lenb kb l0b l1b l2b l3b (wI (mvG gb lenb (0 : Int) (Go.IntKind.wrap .i64 (Go.IntKind.wrap .i64 (Go.IntKind.wrap .i64
(mx g 1 len - mn gb 1 lenb) + (1 : Int)) + Go.IntKind.wrap .i64 (Go.IntKind.wrap .u8 (Int.tdiv byI (2 : Int))))))) (wI (mvG g0b l0b (0 : Int) (Go.IntKind.wrap
.i64 (Go.IntKind.wrap .i64 (Go.IntKind.wrap .i64 (mx g 1 len - mn gb 1 lenb) + (1 : Int)) + Go.IntKind.wrap .i64 (Go.IntKind.wrap .u8 (Int.tdiv byI (2 : Int))))))) (wI
(mvG g1b l1b (0 : Int) (Go.IntKind.wrap .i64 (Go.IntKind.wrap .i64 (Go.IntKind.wrap .i64 (mx g 1 len - mn gb 1 lenb) + (1 : Int)) + Go.IntKind.wrap .i64 (Go.IntKind.wrap .u8
(Int.tdiv byI (2 : Int))))))) (wI (mvG g2b l2b (0 : Int) (Go.IntKind.wrap .i64 (Go.IntKind.wrap .i64 (Go.IntKind.wrap .i64 (mx g 1 len - mn gb 1 lenb) + (1 :
 Int)) + Go.IntKind.wrap .i64 (Go.IntKind.wrap .u8 (Int.tdiv byI (2 : Int))))))) (wI (mvG g3b l3b (0 : Int) (Go.IntKind.wrap .i64 (Go.IntKind.wrap .i64 (Go.IntKind.wrap .i64 (mx g 1 len -
 mn gb 1 lenb) + (1 : Int)) + Go.IntKind.wrap .i64 (Go.IntKind.wrap .u8 (Int.tdiv byI (2 : Int))))))) ∧ shOk len k l0 l1 l2 l3 g g0 g1 g2 g3 ∧ inF (rX0
(wI (mvG gb lenb (0 : Int) (Go.IntKind.wrap .i64 (Go.IntKind.wrap .i64 (Go.IntKind.wrap .i64 (mx g 1 len - mn gb 1 lenb) + (1 : Int)) + Go.IntKind.wrap .i64
(Go.IntKind.wrap .u8 (Int.tdiv byI (2 : Int))))))) lenb true) (rX1 (wI (mvG gb lenb (0 : Int) (Go.IntKind.wrap .i64 (Go.IntKind.wrap .i64 (Go.IntKind.wrap .i64 (mx g 1
 len - mn gb 1 lenb) + (1 : Int)) + Go.IntKind.wrap .i64 (Go.IntKind.wrap .u8 (Int.tdiv byI (2 : Int))))))) lenb true) (rX2 (wI (mvG gb lenb (0 : Int) (Go.IntKind.wrap
.i64 (Go.IntKind.wrap .i64 (Go.IntKind.wrap .i64 (mx g 1 len - mn gb 1 lenb) + (1 : Int)) + Go.IntKind.wrap .i64 (Go.IntKind.wrap .u8 (Int.tdiv byI (2 : Int))))))) lenb true) (rX3
(wI (mvG gb lenb (0 : Int) (Go.IntKind.wrap .i64 (Go.IntKind.wrap .i64 (Go.IntKind.wrap .i64 (mx g 1 len - mn gb 1 lenb) + (1 : Int)) + Go.IntKind.wrap .i64
(Go.IntKind.wrap .u8 (Int.tdiv byI (2 : Int))))))) lenb true) (rX0 g len true) (rX1 g len true) (rX2 g len true) (rX3 g len true) = false ∧ mt4
(rX0 g len true) (rX1 g len true) (rX2 g len true) (rX3 g len true) (rX0 (wI (mvG gb lenb (0 : Int) (Go.IntKind.wrap .i64
(Go.IntKind.wrap .i64 (Go.IntKind.wrap .i64 (mx g 1 len - mn gb 1 lenb) + (1 : Int)) + Go.IntKind.wrap .i64 (Go.IntKind.wrap .u8 (Int.tdiv byI (2 : Int))))))) lenb true) (rX1
(wI (mvG gb lenb (0 : Int) (Go.IntKind.wrap .i64 (Go.IntKind.wrap .i64 (Go.IntKind.wrap .i64 (mx g 1 len - mn gb 1 lenb) + (1 : Int)) + Go.IntKind.wrap .i64
(Go.IntKind.wrap .u8 (Int.tdiv byI (2 : Int))))))) lenb true) (rX2 (wI (mvG gb lenb (0 : Int) (Go.IntKind.wrap .i64 (Go.IntKind.wrap .i64 (Go.IntKind.wrap .i64 (mx g 1
 len - mn gb 1 lenb) + (1 : Int)) + Go.IntKind.wrap .i64 (Go.IntKind.wrap .u8 (Int.tdiv byI (2 : Int))))))) lenb true) (rX3 (wI (mvG gb lenb (0 : Int) (Go.IntKind.wrap
.i64 (Go.IntKind.wrap .i64 (Go.IntKind.wrap .i64 (mx g 1 len - mn gb 1 lenb) + (1 : Int)) + Go.IntKind.wrap .i64 (Go.IntKind.wrap .u8 (Int.tdiv byI (2 : Int))))))) lenb true) = false) ∧ true = true
∧ (true = true → (((0 : Int) ≤ 1 ∧ (1 : Int) < 2) ∧ True) ∧ (((0 : Int) ≤ 1 ∧ (1 : Int) < 2) ∧ True) ∧ (((0 : Int) ≤ 0 ∧ (0 : Int) < 2) ∧ True) ∧ (2 : Int) ≠ 0 ∧ (2 : Int) ≠ 0 ∧
((Int.tmod byI (2 : Int) == (1 : Int)) = true → (((0 : Int) ≤ 1 ∧ (1 : Int) < 2) ∧ True) ∧ (((0 : Int) ≤ 0 ∧ (0 : Int) < 2) ∧ True) ∧ (2 : Int) ≠ 0 ∧ true = true ∧ (2 * ll = 2 * ll ∧ ll < 64 ∧ (ppBig ll false = true → ppOk (fI gl) ll) ∧ (ppBig ll false = true → ppOk (mvG gl ll (0 : Int) (Go.IntKind.wrap .i64 (Go.IntKind.wrap
.i64 (Go.IntKind.wrap .i64 (mx g 1 len - mn gl 1 ll) + (1 : Int)) + Go.IntKind.wrap .i64 (Go.IntKind.wrap .u8 (Int.tdiv byI (2 : Int)))))) ll) ∧ (∀ (j : Nat), j < 2 * ll → fok
 BinOp.add .f64 (fI gl j) (if j % 2 = 0 then 0 else ofI .f64 (Go.IntKind.wrap .i64 (Go.IntKind.wrap .i64 (Go.IntKind.wrap .i64 (mx g 1 len - mn gl 1
 ll) + (1 : Int)) + Go.IntKind.wrap .i64 (Go.IntKind.wrap .u8 (Int.tdiv byI (2 : Int))))))) ∧ ∀ (j : Nat), j < 2 * ll → toIok .f64 (mvG gl ll (0 : Int) (Go.IntKind.wrap .i64 (Go.IntKind.wrap .i64 (Go.IntKind.wrap .i64
(mx g 1 len - mn gl 1 ll) + (1 : Int)) + Go.IntKind.wrap .i64 (Go.IntKind.wrap .u8 (Int.tdiv byI (2 : Int))))) j) .i64) ∧ (k = k ∧ 2 * len = 2 * len ∧ 2 * l0 = 2 * l0
∧ 2 * l1 = 2 * l1 ∧ 2 * l2 = 2 * l2 ∧ 2 * l3 = 2 * l3 ∧ hab k l0 l1 l2 l3 ∧ len ≤ 1000000 ∧ l0 ≤ 1000000 ∧ l1 ≤ 1000000 ∧ l2 ≤ 1000000 ∧ l3 ≤ 1000000) ∧ (k = k ∧ 2 * len = 2 * len ∧ 2 * l0 = 2 * l0 ∧ 2 * l1 = 2 * l1 ∧ 2 * l2 = 2 * l2 ∧ 2 * l3 = 2 * l3 ∧ 2 * ll = 2 * ll ∧ shOk len
 k l0 l1 l2 l3 g g0 g1 g2 g3 ∧ (ll ≤ 1000000 ∧ (ppBig ll false = true → ppOk (fI (wI (mvG gl ll (0 : Int) (Go.IntKind.wrap .i64 (Go.IntKind.wrap .i64
(Go.IntKind.wrap .i64 (mx g 1 len - mn gl 1 ll) + (1 : Int)) + Go.IntKind.wrap .i64 (Go.IntKind.wrap .u8 (Int.tdiv byI (2 : Int)))))))) ll)) ∧ inF (rX0 g len
 true) (rX1 g len true) (rX2 g len true) (rX3 g len true) (rX0 (wI (mvG gl ll (0 : Int) (Go.IntKind.wrap .i64 (Go.IntKind.wrap .i64
(Go.IntKind.wrap .i64 (mx g 1 len - mn gl 1 ll) + (1 : Int)) + Go.IntKind.wrap .i64 (Go.IntKind.wrap .u8 (Int.tdiv byI (2 : Int))))))) ll false) (rX1 (wI
(mvG gl ll (0 : Int) (Go.IntKind.wrap .i64 (Go.IntKind.wrap .i64 (Go.IntKind.wrap .i64 (mx g 1 len - mn gl 1 ll) + (1 : Int)) + Go.IntKind.wrap .i64 (Go.IntKind.wrap .u8 (Int.tdiv
 byI (2 : Int))))))) ll false) (rX2 (wI (mvG gl ll (0 : Int) (Go.IntKind.wrap .i64 (Go.IntKind.wrap .i64 (Go.IntKind.wrap .i64 (mx g 1 len - mn gl 1 ll) + (1 : Int)) + Go.IntKind.wrap .i64 (Go.IntKind.wrap .u8 (Int.tdiv byI (2 : Int))))))) ll false) (rX3 (wI (mvG gl ll (0 : Int) (Go.IntKind.wrap .i64 (Go.IntKind.wrap .i64 (Go.IntKind.wrap
.i64 (mx g 1 len - mn gl 1 ll) + (1 : Int)) + Go.IntKind.wrap .i64 (Go.IntKind.wrap .u8 (Int.tdiv byI (2 : Int))))))) ll false) = false ∧ mt4 (rX0 g len true)
(rX1 g len true) (rX2 g len true) (rX3 g len true) (rX0 (wI (mvG gl ll (0 : Int) (Go.IntKind.wrap .i64 (Go.IntKind.wrap .i64 (Go.IntKind.wrap
.i64 (mx g 1 len - mn gl 1 ll) + (1 : Int)) + Go.IntKind.wrap .i64 (Go.IntKind.wrap .u8 (Int.tdiv byI (2 : Int))))))) ll false) (rX1 (wI (mvG gl
 ll (0 : Int) (Go.IntKind.wrap .i64 (Go.IntKind.wrap .i64 (Go.IntKind.wrap .i64 (mx g 1 len - mn gl 1 ll) + (1 : Int)) + Go.IntKind.wrap .i64 (Go.IntKind.wrap .u8 (Int.tdiv byI (2 : Int))))))) ll
 false) (rX2 (wI (mvG gl ll (0 : Int) (Go.IntKind.wrap .i64 (Go.IntKind.wrap .i64 (Go.IntKind.wrap .i64 (mx g 1 len - mn gl 1 ll) + (1 : Int)) +
 Go.IntKind.wrap .i64 (Go.IntKind.wrap .u8 (Int.tdiv byI (2 : Int))))))) ll false) (rX3 (wI (mvG gl ll (0 : Int) (Go.IntKind.wrap .i64 (Go.IntKind.wrap .i64 (Go.IntKind.wrap .i64
(mx g 1 len - mn gl 1 ll) + (1 : Int)) + Go.IntKind.wrap .i64 (Go.IntKind.wrap .u8 (Int.tdiv byI (2 : Int))))))) ll false) = false) ∧ true = true ∧ (k = k ∧ 2 * len = 2 * len ∧ 2 * l0 = 2 * l0 ∧ 2 * l1 = 2 * l1 ∧ 2 * l2 = 2 * l2 ∧ 2 * l3 = 2 * l3 ∧ hab k l0 l1 l2 l3 ∧ len ≤ 1000000 ∧ l0 ≤ 1000000 ∧ l1 ≤ 1000000 ∧ l2 ≤
1000000 ∧ l3 ≤ 1000000) ∧ (k = k ∧ 2 * len = 2 * len ∧ 2 * l0 = 2 * l0 ∧ 2 * l1 = 2 * l1 ∧ 2 * l2 = 2 * l2 ∧ 2 * l3 = 2 * l3 ∧ 2 * ll = 2
* ll ∧ shOk len k l0 l1 l2 l3 g g0 g1 g2 g3 ∧ (ll ≤ 1000000 ∧ (ppBig ll false = true → ppOk (fI (wI (mvG gl ll (0 : Int)
(Go.IntKind.wrap .i64 (Go.IntKind.wrap .i64 (Go.IntKind.wrap .i64 (mx g 1 len - mn gl 1 ll) + (1 : Int)) + Go.IntKind.wrap .i64 (Go.IntKind.wrap .u8 (Int.tdiv byI (2 : Int)))))))) ll)) ∧
(FL2 (fI (wI (mvG gl ll (0 : Int) (Go.IntKind.wrap .i64 (Go.IntKind.wrap .i64 (Go.IntKind.wrap .i64 (mx g 1 len - mn gl 1 ll)
+ (1 : Int)) + Go.IntKind.wrap .i64 (Go.IntKind.wrap .u8 (Int.tdiv byI (2 : Int)))))))) (2 * ll) ∧ W22 (rX0 g len true) ∧ W22 (rX1 g len true) ∧ W22
(rX2 g len true) ∧ W22 (rX3 g len true)) ∧ mt4 (rX0 g len true) (rX1 g len true) (rX2 g len true) (rX3 g
 len true) (rX0 (wI (mvG gl ll (0 : Int) (Go.IntKind.wrap .i64 (Go.IntKind.wrap .i64 (Go.IntKind.wrap .i64 (mx g 1 len - mn gl 1 ll) + (1 : Int))
+ Go.IntKind.wrap .i64 (Go.IntKind.wrap .u8 (Int.tdiv byI (2 : Int))))))) ll false) (rX1 (wI (mvG gl ll (0 : Int) (Go.IntKind.wrap .i64 (Go.IntKind.wrap .i64 (Go.IntKind.wrap .i64
(mx g 1 len - mn gl 1 ll) + (1 : Int)) + Go.IntKind.wrap .i64 (Go.IntKind.wrap .u8 (Int.tdiv byI (2 : Int))))))) ll false) (rX2 (wI (mvG gl ll
(0 : Int) (Go.IntKind.wrap .i64 (Go.IntKind.wrap .i64 (Go.IntKind.wrap .i64 (mx g 1 len - mn gl 1 ll) + (1 : Int)) + Go.IntKind.wrap .i64 (Go.IntKind.wrap .u8 (Int.tdiv byI (2 : Int))))))) ll false)
(rX3 (wI (mvG gl ll (0 : Int) (Go.IntKind.wrap .i64 (Go.IntKind.wrap .i64 (Go.IntKind.wrap .i64 (mx g 1 len - mn gl 1 ll) + (1 : Int)) +
 Go.IntKind.wrap .i64 (Go.IntKind.wrap .u8 (Int.tdiv byI (2 : Int))))))) ll false) = false) ∧ true = true ∧ (lcpV (fI (wI (mvG gl ll (0 : Int) (Go.IntKind.wrap .i64
(Go.IntKind.wrap .i64 (Go.IntKind.wrap .i64 (mx g 1 len - mn gl 1 ll) + (1 : Int)) + Go.IntKind.wrap .i64 (Go.IntKind.wrap .u8 (Int.tdiv byI (2 : Int)))))))) ll false len true (rX0
 g len true) (rX1 g len true) (rX2 g len true) (rX3 g len true) = true → False ∧ True) ∧ (lcpV (fI (wI (mvG gl ll (0 : Int)
(Go.IntKind.wrap .i64 (Go.IntKind.wrap .i64 (Go.IntKind.wrap .i64 (mx g 1 len - mn gl 1 ll) + (1 : Int)) + Go.IntKind.wrap .i64 (Go.IntKind.wrap .u8 (Int.tdiv byI (2 : Int)))))))) ll false len true
(rX0 g len true) (rX1 g len true) (rX2 g len true) (rX3 g len true) = false → (false = true → (((0 : Int) ≤ 2 ∧ (2 : Int) < 2) ∧ True) ∧ False) ∧ (false = false →
 True ∧ True))) ∧ ((Int.tmod byI (2 : Int) == (1 : Int)) = false → (2 * ll = 2 * ll ∧ ll < 64 ∧ (ppBig ll false = true → ppOk (fI gl) ll) ∧ (ppBig ll false
= true → ppOk (mvG gl ll (Go.IntKind.wrap .i64 (Go.IntKind.wrap .i64 (Go.IntKind.wrap .i64 (mx g 0 len - mn gl 0 ll) + (1 : Int)) + Go.IntKind.wrap .i64
(Go.IntKind.wrap .u8 (Int.tdiv byI (2 : Int))))) (0 : Int)) ll) ∧ (∀ (j : Nat), j < 2 * ll → fok BinOp.add .f64 (fI gl j) (if j % 2 = 0 then ofI .f64 (Go.IntKind.wrap .i64 (Go.IntKind.wrap .i64
(Go.IntKind.wrap .i64 (mx g 0 len - mn gl 0 ll) + (1 : Int)) + Go.IntKind.wrap .i64 (Go.IntKind.wrap .u8 (Int.tdiv byI (2 : Int))))) else 0)) ∧ ∀ (j : Nat), j < 2 * ll → toIok
.f64 (mvG gl ll (Go.IntKind.wrap .i64 (Go.IntKind.wrap .i64 (Go.IntKind.wrap .i64 (mx g 0 len - mn gl 0 ll) + (1 : Int)) + Go.IntKind.wrap .i64 (Go.IntKind.wrap .u8 (Int.tdiv byI
(2 : Int))))) (0 : Int) j) .i64) ∧ (k = k ∧ 2 * len = 2 * len ∧ 2 * l0 = 2 * l0 ∧ 2 * l1 = 2 * l1 ∧ 2 * l2 = 2 * l2 ∧ 2 * l3 = 2 * l3 ∧ hab k l0 l1 l2
 l3 ∧ len ≤ 1000000 ∧ l0 ≤ 1000000 ∧ l1 ≤ 1000000 ∧ l2 ≤ 1000000 ∧ l3 ≤ 1000000) ∧ (k = k ∧ 2 * len = 2 * len ∧ 2 * l0 = 2 * l0 ∧ 2 * l1 = 2 * l1 ∧ 2 * l2
= 2 * l2 ∧ 2 * l3 = 2 * l3 ∧ 2 * ll = 2 * ll ∧ shOk len k l0 l1 l2 l3 g g0 g1 g2 g3 ∧ (ll ≤ 1000000 ∧ (ppBig ll false = true → ppOk
(fI (wI (mvG gl ll (Go.IntKind.wrap .i64 (Go.IntKind.wrap .i64 (Go.IntKind.wrap .i64 (mx g 0 len - mn gl 0 ll) + (1 : Int)) + Go.IntKind.wrap
.i64 (Go.IntKind.wrap .u8 (Int.tdiv byI (2 : Int))))) (0 : Int)))) ll)) ∧ inF (rX0 g len true) (rX1 g len true) (rX2 g len true) (rX3 g len true)
(rX0 (wI (mvG gl ll (Go.IntKind.wrap .i64 (Go.IntKind.wrap .i64 (Go.IntKind.wrap .i64 (mx g 0 len - mn gl 0 ll) + (1 : Int)) + Go.IntKind.wrap
.i64 (Go.IntKind.wrap .u8 (Int.tdiv byI (2 : Int))))) (0 : Int))) ll false) (rX1 (wI (mvG gl ll (Go.IntKind.wrap .i64 (Go.IntKind.wrap .i64 (Go.IntKind.wrap .i64 (mx g 0
 len - mn gl 0 ll) + (1 : Int)) + Go.IntKind.wrap .i64 (Go.IntKind.wrap .u8 (Int.tdiv byI (2 : Int))))) (0 : Int))) ll false) (rX2 (wI (mvG gl ll (Go.IntKind.wrap .i64
(Go.IntKind.wrap .i64 (Go.IntKind.wrap .i64 (mx g 0 len - mn gl 0 ll) + (1 : Int)) + Go.IntKind.wrap .i64 (Go.IntKind.wrap .u8 (Int.tdiv byI (2 : Int))))) (0 : Int))) ll false)
(rX3 (wI (mvG gl ll (Go.IntKind.wrap .i64 (Go.IntKind.wrap .i64 (Go.IntKind.wrap .i64 (mx g 0 len - mn gl 0 ll) + (1 : Int)) + Go.IntKind.wrap
.i64 (Go.IntKind.wrap .u8 (Int.tdiv byI (2 : Int))))) (0 : Int))) ll false) = false ∧ mt4 (rX0 g len true) (rX1 g len true) (rX2 g len true) (rX3 g len true)
(rX0 (wI (mvG gl ll (Go.IntKind.wrap .i64 (Go.IntKind.wrap .i64 (Go.IntKind.wrap .i64 (mx g 0 len - mn gl 0 ll) + (1 : Int)) + Go.IntKind.wrap
.i64 (Go.IntKind.wrap .u8 (Int.tdiv byI (2 : Int))))) (0 : Int))) ll false) (rX1 (wI (mvG gl ll (Go.IntKind.wrap .i64 (Go.IntKind.wrap .i64 (Go.IntKind.wrap .i64 (mx g 0
 len - mn gl 0 ll) + (1 : Int)) + Go.IntKind.wrap .i64 (Go.IntKind.wrap .u8 (Int.tdiv byI (2 : Int))))) (0 : Int))) ll false) (rX2 (wI (mvG gl ll (Go.IntKind.wrap .i64
(Go.IntKind.wrap .i64 (Go.IntKind.wrap .i64 (mx g 0 len - mn gl 0 ll) + (1 : Int)) + Go.IntKind.wrap .i64 (Go.IntKind.wrap .u8 (Int.tdiv byI (2 : Int))))) (0 : Int))) ll false)
(rX3 (wI (mvG gl ll (Go.IntKind.wrap .i64 (Go.IntKind.wrap .i64 (Go.IntKind.wrap .i64 (mx g 0 len - mn gl 0 ll) + (1 : Int)) + Go.IntKind.wrap
.i64 (Go.IntKind.wrap .u8 (Int.tdiv byI (2 : Int))))) (0 : Int))) ll false) = false) ∧ true = true ∧ (k = k ∧ 2 * len = 2 * len ∧ 2 * l0 = 2 * l0 ∧ 2 * l1 = 2 * l1 ∧ 2 * l2 = 2 * l2 ∧ 2 * l3 = 2 * l3 ∧ hab k l0 l1 l2 l3 ∧ len ≤ 1000000 ∧ l0 ≤ 1000000 ∧ l1 ≤ 1000000 ∧ l2 ≤ 1000000 ∧ l3 ≤ 1000000) ∧ (k = k ∧ 2 * len = 2 * len ∧ 2 * l0 = 2 * l0 ∧ 2 * l1 = 2 * l1 ∧ 2 * l2 = 2 * l2 ∧ 2 * l3 = 2 * l3 ∧ 2 * ll = 2 * ll ∧ shOk len k l0 l1 l2 l3 g g0 g1 g2 g3 ∧ (ll ≤ 1000000 ∧
(ppBig ll false = true → ppOk (fI (wI (mvG gl ll (Go.IntKind.wrap .i64 (Go.IntKind.wrap .i64 (Go.IntKind.wrap .i64 (mx g 0 len -
 mn gl 0 ll) + (1 : Int)) + Go.IntKind.wrap .i64 (Go.IntKind.wrap .u8 (Int.tdiv byI (2 : Int))))) (0 : Int)))) ll)) ∧ (FL2 (fI (wI (mvG gl ll
(Go.IntKind.wrap .i64 (Go.IntKind.wrap .i64 (Go.IntKind.wrap .i64 (mx g 0 len - mn gl 0 ll) + (1 : Int)) + Go.IntKind.wrap .i64 (Go.IntKind.wrap .u8 (Int.tdiv byI (2 : Int))))) (0 : Int)))) (2 * ll) ∧ W22 (rX0 g len true) ∧ W22 (rX1 g len true) ∧ W22 (rX2 g len true) ∧ W22 (rX3 g len true)) ∧
 mt4 (rX0 g len true) (rX1 g len true) (rX2 g len true) (rX3 g len true) (rX0 (wI (mvG gl ll
(Go.IntKind.wrap .i64 (Go.IntKind.wrap .i64 (Go.IntKind.wrap .i64 (mx g 0 len - mn gl 0 ll) + (1 : Int)) + Go.IntKind.wrap .i64 (Go.IntKind.wrap .u8 (Int.tdiv byI (2 : Int))))) (0 : Int))) ll false)
(rX1 (wI (mvG gl ll (Go.IntKind.wrap .i64 (Go.IntKind.wrap .i64 (Go.IntKind.wrap .i64 (mx g 0 len - mn gl 0 ll) + (1 : Int)) + Go.IntKind.wrap
.i64 (Go.IntKind.wrap .u8 (Int.tdiv byI (2 : Int))))) (0 : Int))) ll false) (rX2 (wI (mvG gl ll (Go.IntKind.wrap .i64 (Go.IntKind.wrap .i64 (Go.IntKind.wrap .i64 (mx g 0
 len - mn gl 0 ll) + (1 : Int)) + Go.IntKind.wrap .i64 (Go.IntKind.wrap .u8 (Int.tdiv byI (2 : Int))))) (0 : Int))) ll false) (rX3 (wI (mvG gl ll (Go.IntKind.wrap .i64
(Go.IntKind.wrap .i64 (Go.IntKind.wrap .i64 (mx g 0 len - mn gl 0 ll) + (1 : Int)) + Go.IntKind.wrap .i64 (Go.IntKind.wrap .u8 (Int.tdiv byI (2 : Int))))) (0 : Int))) ll false) = false) ∧ true =
 true ∧ (lcpV (fI (wI (mvG gl ll (Go.IntKind.wrap .i64 (Go.IntKind.wrap .i64 (Go.IntKind.wrap .i64 (mx g 0 len - mn gl 0 ll) +
(1 : Int)) + Go.IntKind.wrap .i64 (Go.IntKind.wrap .u8 (Int.tdiv byI (2 : Int))))) (0 : Int)))) ll false len true (rX0 g len true) (rX1 g len true) (rX2 g len true) (rX3 g len
 true) = true → False ∧ True) ∧ (lcpV (fI (wI (mvG gl ll (Go.IntKind.wrap .i64 (Go.IntKind.wrap .i64 (Go.IntKind.wrap .i64 (mx g 0 len -
 mn gl 0 ll) + (1 : Int)) + Go.IntKind.wrap .i64 (Go.IntKind.wrap .u8 (Int.tdiv byI (2 : Int))))) (0 : Int)))) ll false len true (rX0 g len true) (rX1 g len true) (rX2 g
 len true) (rX3 g len true) = false → (false = true → (((0 : Int) ≤ 2 ∧ (2 : Int) < 2) ∧ True) ∧ False) ∧ (false = false → True ∧ True)))) ∧ (true = false → True ∧ True)) ∧ ((Int.tmod byI (2 : Int) == (1 : Int)) =
 false → (kb = kb ∧ 2 * lenb = 2 * lenb ∧ 2 * l0b = 2 * l0b ∧ 2 * l1b = 2 * l1b ∧ 2 * l2b = 2 * l2b ∧ 2 * l3b = 2 * l3b ∧ hab kb l0b l1b l2b l3b ∧
 mdOk true lenb gb (Go.IntKind.wrap .i64 (Go.IntKind.wrap .i64 (Go.IntKind.wrap .i64 (mx g 0 len - mn gb 0 lenb) + (1 : Int)) + Go.IntKind.wrap .i64 (Go.IntKind.wrap .u8 (Int.tdiv
 byI (2 : Int))))) (0 : Int) ∧ mdOk true l0b g0b (Go.IntKind.wrap .i64 (Go.IntKind.wrap .i64 (Go.IntKind.wrap .i64 (mx g 0 len - mn gb 0 lenb) + (1 : Int)) + Go.IntKind.wrap .i64
(Go.IntKind.wrap .u8 (Int.tdiv byI (2 : Int))))) (0 : Int) ∧ mdOk true l1b g1b (Go.IntKind.wrap .i64 (Go.IntKind.wrap .i64 (Go.IntKind.wrap .i64 (mx g 0 len - mn gb 0 lenb) + (1 :
 Int)) + Go.IntKind.wrap .i64 (Go.IntKind.wrap .u8 (Int.tdiv byI (2 : Int))))) (0 : Int) ∧ mdOk true l2b g2b (Go.IntKind.wrap .i64 (Go.IntKind.wrap .i64 (Go.IntKind.wrap .i64 (mx g 0 len -
 mn gb 0 lenb) + (1 : Int)) + Go.IntKind.wrap .i64 (Go.IntKind.wrap .u8 (Int.tdiv byI (2 : Int))))) (0 : Int) ∧ mdOk true l3b g3b (Go.IntKind.wrap .i64 (Go.IntKind.wrap .i64 (Go.IntKind.wrap .i64
(mx g 0 len - mn gb 0 lenb) + (1 : Int)) + Go.IntKind.wrap .i64 (Go.IntKind.wrap .u8 (Int.tdiv byI (2 : Int))))) (0 : Int)) ∧ (k = k ∧ 2 * len = 2 * len ∧ 2 * l0 = 2
* l0 ∧ 2 * l1 = 2 * l1 ∧ 2 * l2 = 2 * l2 ∧ 2 * l3 = 2 * l3 ∧ hab k l0 l1 l2 l3 ∧ len ≤ 1000000 ∧ l0 ≤ 1000000 ∧ l1 ≤ 1000000 ∧ l2 ≤ 1000000 ∧ l3 ≤
1000000) ∧ (k = k ∧ kb = kb ∧ 2 * len = 2 * len ∧ 2 * l0 = 2 * l0 ∧ 2 * l1 = 2 * l1 ∧ 2 * l2 = 2 * l2 ∧ 2 * l3 = 2 * l3 ∧ 2 * lenb = 2 * lenb ∧ 2 * l0b = 2 * l0b ∧ 2 * l1b = 2 * l1b ∧ 2 * l2b = 2 * l2b ∧ 2 * l3b = 2 * l3b ∧ shOk len k l0 l1 l2 l3 g g0 g1 g2 g3 ∧ shOk lenb kb l0b l1b l2b l3b
(wI (mvG gb lenb (Go.IntKind.wrap .i64 (Go.IntKind.wrap .i64 (Go.IntKind.wrap .i64 (mx g 0 len - mn gb 0 lenb) + (1 : Int)) + Go.IntKind.wrap .i64
(Go.IntKind.wrap .u8 (Int.tdiv byI (2 : Int))))) (0 : Int))) (wI (mvG g0b l0b (Go.IntKind.wrap .i64 (Go.IntKind.wrap .i64 (Go.IntKind.wrap .i64 (mx g 0 len - mn gb 0 lenb) + (1 : Int)) + Go.IntKind.wrap .i64 (Go.IntKind.wrap .u8 (Int.tdiv byI (2 : Int))))) (0 : Int))) (wI (mvG g1b l1b (Go.IntKind.wrap .i64 (Go.IntKind.wrap .i64 (Go.IntKind.wrap .i64 (mx g
0 len - mn gb 0 lenb) + (1 : Int)) + Go.IntKind.wrap .i64 (Go.IntKind.wrap .u8 (Int.tdiv byI (2 : Int))))) (0 : Int))) (wI (mvG g2b l2b (Go.IntKind.wrap .i64 (Go.IntKind.wrap .i64
(Go.IntKind.wrap .i64 (mx g 0 len - mn gb 0 lenb) + (1 : Int)) + Go.IntKind.wrap .i64 (Go.IntKind.wrap .u8 (Int.tdiv byI (2 : Int))))) (0 : Int))) (wI (mvG g3b
 l3b (Go.IntKind.wrap .i64 (Go.IntKind.wrap .i64 (Go.IntKind.wrap .i64 (mx g 0 len - mn gb 0 lenb) + (1 : Int)) + Go.IntKind.wrap .i64 (Go.IntKind.wrap .u8 (Int.tdiv byI (2 : Int))))) (0 : Int))) ∧
 inF (rX0 g len true) (rX1 g len true) (rX2 g len true) (rX3 g len true) (rX0 (wI (mvG gb lenb
(Go.IntKind.wrap .i64 (Go.IntKind.wrap .i64 (Go.IntKind.wrap .i64 (mx g 0 len - mn gb 0 lenb) + (1 : Int)) + Go.IntKind.wrap .i64 (Go.IntKind.wrap .u8 (Int.tdiv byI (2 : Int))))) (0 : Int))) lenb
 true) (rX1 (wI (mvG gb lenb (Go.IntKind.wrap .i64 (Go.IntKind.wrap .i64 (Go.IntKind.wrap .i64 (mx g 0 len - mn gb 0 lenb) + (1 : Int)) +
 Go.IntKind.wrap .i64 (Go.IntKind.wrap .u8 (Int.tdiv byI (2 : Int))))) (0 : Int))) lenb true) (rX2 (wI (mvG gb lenb (Go.IntKind.wrap .i64 (Go.IntKind.wrap .i64 (Go.IntKind.wrap .i64
(mx g 0 len - mn gb 0 lenb) + (1 : Int)) + Go.IntKind.wrap .i64 (Go.IntKind.wrap .u8 (Int.tdiv byI (2 : Int))))) (0 : Int))) lenb true) (rX3 (wI
(mvG gb lenb (Go.IntKind.wrap .i64 (Go.IntKind.wrap .i64 (Go.IntKind.wrap .i64 (mx g 0 len - mn gb 0 lenb) + (1 : Int)) + Go.IntKind.wrap .i64 (Go.IntKind.wrap .u8 (Int.tdiv byI (2
: Int))))) (0 : Int))) lenb true) = false ∧ mt4 (rX0 (wI (mvG gb lenb (Go.IntKind.wrap .i64 (Go.IntKind.wrap .i64 (Go.IntKind.wrap .i64 (mx g 0 len -
 mn gb 0 lenb) + (1 : Int)) + Go.IntKind.wrap .i64 (Go.IntKind.wrap .u8 (Int.tdiv byI (2 : Int))))) (0 : Int))) lenb true) (rX1 (wI (mvG gb lenb (Go.IntKind.wrap .i64
(Go.IntKind.wrap .i64 (Go.IntKind.wrap .i64 (mx g 0 len - mn gb 0 lenb) + (1 : Int)) + Go.IntKind.wrap .i64 (Go.IntKind.wrap .u8 (Int.tdiv byI (2 : Int))))) (0 : Int))) lenb true)
(rX2 (wI (mvG gb lenb (Go.IntKind.wrap .i64 (Go.IntKind.wrap .i64 (Go.IntKind.wrap .i64 (mx g 0 len - mn gb 0 lenb) + (1 : Int)) +
 Go.IntKind.wrap .i64 (Go.IntKind.wrap .u8 (Int.tdiv byI (2 : Int))))) (0 : Int))) lenb true) (rX3 (wI (mvG gb lenb (Go.IntKind.wrap .i64 (Go.IntKind.wrap .i64 (Go.IntKind.wrap .i64
(mx g 0 len - mn gb 0 lenb) + (1 : Int)) + Go.IntKind.wrap .i64 (Go.IntKind.wrap .u8 (Int.tdiv byI (2 : Int))))) (0 : Int))) lenb true) (rX0 g len true) (rX1 g
 len true) (rX2 g len true) (rX3 g len true) = false) ∧ true = true ∧ (k = k ∧ 2 * len = 2 * len ∧ 2 * l0 = 2 * l0 ∧ 2 * l1 = 2 * l1 ∧ 2 * l2 = 2 * l2
∧ 2 * l3 = 2 * l3 ∧ hab k l0 l1 l2 l3 ∧ len ≤ 1000000 ∧ l0 ≤ 1000000 ∧ l1 ≤ 1000000 ∧ l2 ≤ 1000000 ∧ l3 ≤ 1000000) ∧ (kb = kb ∧ k = k ∧ 2 * lenb = 2 * lenb ∧ 2 * l0b = 2 * l0b ∧ 2 * l1b = 2 * l1b ∧ 2 * l2b = 2 * l2b ∧ 2 * l3b = 2 * l3b ∧ 2 * len = 2 * len ∧ 2 * l0 = 2 * l0 ∧ 2 * l1 = 2 * l1 ∧ 2 * l2 = 2 * l2 ∧ 2 * l3 = 2 * l3 ∧ shOk lenb kb l0b l1b l2b l3b (wI (mvG gb lenb (Go.IntKind.wrap .i64 (Go.IntKind.wrap .i64 (Go.IntKind.wrap .i64 (mx
 g 0 len - mn gb 0 lenb) + (1 : Int)) + Go.IntKind.wrap .i64 (Go.IntKind.wrap .u8 (Int.tdiv byI (2 : Int))))) (0 : Int))) (wI (mvG g0b l0b (Go.IntKind.wrap .i64 (Go.IntKind.wrap
.i64 (Go.IntKind.wrap .i64 (mx g 0 len - mn gb 0 lenb) + (1 : Int)) + Go.IntKind.wrap .i64 (Go.IntKind.wrap .u8 (Int.tdiv byI (2 : Int))))) (0 : Int))) (wI (mvG
 g1b l1b (Go.IntKind.wrap .i64 (Go.IntKind.wrap .i64 (Go.IntKind.wrap .i64 (mx g 0 len - mn gb 0 lenb) + (1 : Int)) + Go.IntKind.wrap .i64 (Go.IntKind.wrap .u8 (Int.tdiv byI (2 : Int))))) (0 : Int)))
(wI (mvG g2b l2b (Go.IntKind.wrap .i64 (Go.IntKind.wrap .i64 (Go.IntKind.wrap .i64 (mx g 0 len - mn gb 0 lenb) + (1 : Int)) + Go.IntKind.wrap .i64
(Go.IntKind.wrap .u8 (Int.tdiv byI (2 : Int))))) (0 : Int))) (wI (mvG g3b l3b (Go.IntKind.wrap .i64 (Go.IntKind.wrap .i64 (Go.IntKind.wrap .i64 (mx g 0 len - mn gb 0 lenb) + (1 : Int)) + Go.IntKind.wrap .i64 (Go.IntKind.wrap .u8 (Int.tdiv byI (2 : Int))))) (0 : Int))) ∧ shOk len k l0 l1 l2 l3 g g0 g1 g2 g3 ∧ inF (rX0 (wI
(mvG gb lenb (Go.IntKind.wrap .i64 (Go.IntKind.wrap .i64 (Go.IntKind.wrap .i64 (mx g 0 len - mn gb 0 lenb) + (1 : Int)) + Go.IntKind.wrap .i64 (Go.IntKind.wrap .u8 (Int.tdiv byI (2
: Int))))) (0 : Int))) lenb true) (rX1 (wI (mvG gb lenb (Go.IntKind.wrap .i64 (Go.IntKind.wrap .i64 (Go.IntKind.wrap .i64 (mx g 0 len - mn gb 0
 lenb) + (1 : Int)) + Go.IntKind.wrap .i64 (Go.IntKind.wrap .u8 (Int.tdiv byI (2 : Int))))) (0 : Int))) lenb true) (rX2 (wI (mvG gb lenb (Go.IntKind.wrap .i64 (Go.IntKind.wrap .i64 (Go.IntKind.wrap
.i64 (mx g 0 len - mn gb 0 lenb) + (1 : Int)) + Go.IntKind.wrap .i64 (Go.IntKind.wrap .u8 (Int.tdiv byI (2 : Int))))) (0 : Int))) lenb true) (rX3 (wI
(mvG gb lenb (Go.IntKind.wrap .i64 (Go.IntKind.wrap .i64 (Go.IntKind.wrap .i64 (mx g 0 len - mn gb 0 lenb) + (1 : Int)) + Go.IntKind.wrap .i64 (Go.IntKind.wrap .u8 (Int.tdiv byI (2
: Int))))) (0 : Int))) lenb true) (rX0 g len true) (rX1 g len true) (rX2 g len true) (rX3 g len true) = false ∧ mt4 (rX0 g len true)
(rX1 g len true) (rX2 g len true) (rX3 g len true) (rX0 (wI (mvG gb lenb (Go.IntKind.wrap .i64 (Go.IntKind.wrap .i64 (Go.IntKind.wrap .i64
(mx g 0 len - mn gb 0 lenb) + (1 : Int)) + Go.IntKind.wrap .i64 (Go.IntKind.wrap .u8 (Int.tdiv byI (2 : Int))))) (0 : Int))) lenb true) (rX1 (wI
(mvG gb lenb (Go.IntKind.wrap .i64 (Go.IntKind.wrap .i64 (Go.IntKind.wrap .i64 (mx g 0 len - mn gb 0 lenb) + (1 : Int)) + Go.IntKind.wrap .i64 (Go.IntKind.wrap .u8 (Int.tdiv byI (2
: Int))))) (0 : Int))) lenb true) (rX2 (wI (mvG gb lenb (Go.IntKind.wrap .i64 (Go.IntKind.wrap .i64 (Go.IntKind.wrap .i64 (mx g 0 len - mn gb 0
 lenb) + (1 : Int)) + Go.IntKind.wrap .i64 (Go.IntKind.wrap .u8 (Int.tdiv byI (2 : Int))))) (0 : Int))) lenb true) (rX3 (wI (mvG gb lenb (Go.IntKind.wrap .i64 (Go.IntKind.wrap .i64 (Go.IntKind.wrap
.i64 (mx g 0 len - mn gb 0 lenb) + (1 : Int)) + Go.IntKind.wrap .i64 (Go.IntKind.wrap .u8 (Int.tdiv byI (2 : Int))))) (0 : Int))) lenb true) = false) ∧ true = true ∧ (true = true → (((0 : Int) ≤ (1
: Int) ∧ (1 : Int) < 2) ∧ True) ∧ (((0 : Int) ≤ 1 ∧ (1 : Int) < 2) ∧ True) ∧ (((0 : Int) ≤ 0 ∧ (0 : Int) < 2) ∧ True) ∧ (2 : Int) ≠ 0 ∧ (2 : Int) ≠ 0 ∧ ((Int.tmod byI (2 : Int) == (1 : Int)) =
 true → (((0 : Int) ≤ 1 ∧ (1 : Int) < 2) ∧ True) ∧ (((0 : Int) ≤ 0 ∧ (0 : Int) < 2) ∧ True) ∧ (2 : Int) ≠ 0 ∧ true = true ∧ (2 * ll = 2 * ll ∧ ll < 64 ∧ (ppBig ll false
= true → ppOk (fI gl) ll) ∧ (ppBig ll false = true → ppOk (mvG gl ll (0 : Int) (Go.IntKind.wrap .i64 (Go.IntKind.wrap .i64 (Go.IntKind.wrap .i64
(mx g 1 len - mn gl 1 ll) + (1 : Int)) + Go.IntKind.wrap .i64 (Go.IntKind.wrap .u8 (Int.tdiv byI (2 : Int)))))) ll) ∧ (∀ (j : Nat), j < 2 * ll → fok BinOp.add .f64
(fI gl j) (if j % 2 = 0 then 0 else ofI .f64 (Go.IntKind.wrap .i64 (Go.IntKind.wrap .i64 (Go.IntKind.wrap .i64 (mx g 1 len - mn gl 1 ll) + (1 : Int))
+ Go.IntKind.wrap .i64 (Go.IntKind.wrap .u8 (Int.tdiv byI (2 : Int))))))) ∧ ∀ (j : Nat), j < 2 * ll → toIok .f64 (mvG gl ll (0 : Int) (Go.IntKind.wrap .i64 (Go.IntKind.wrap .i64 (Go.IntKind.wrap .i64
(mx g 1 len - mn gl 1 ll) + (1 : Int)) + Go.IntKind.wrap .i64 (Go.IntKind.wrap .u8 (Int.tdiv byI (2 : Int))))) j) .i64) ∧ (k = k ∧ 2 * len = 2 * len ∧ 2 * l0 = 2 * l0
∧ 2 * l1 = 2 * l1 ∧ 2 * l2 = 2 * l2 ∧ 2 * l3 = 2 * l3 ∧ hab k l0 l1 l2 l3 ∧ len ≤ 1000000 ∧ l0 ≤ 1000000 ∧ l1 ≤ 1000000 ∧ l2 ≤ 1000000 ∧ l3 ≤ 1000000) ∧ (k = k ∧ 2 * len = 2 * len ∧ 2 * l0 = 2 * l0 ∧ 2 * l1 = 2 * l1 ∧ 2 * l2 = 2 * l2 ∧ 2 * l3 = 2 * l3 ∧ 2 * ll = 2 * ll ∧ shOk len
 k l0 l1 l2 l3 g g0 g1 g2 g3 ∧ (ll ≤ 1000000 ∧ (ppBig ll false = true → ppOk (fI (wI (mvG gl ll (0 : Int) (Go.IntKind.wrap .i64 (Go.IntKind.wrap .i64
(Go.IntKind.wrap .i64 (mx g 1 len - mn gl 1 ll) + (1 : Int)) + Go.IntKind.wrap .i64 (Go.IntKind.wrap .u8 (Int.tdiv byI (2 : Int)))))))) ll)) ∧ inF (rX0 g len
 true) (rX1 g len true) (rX2 g len true) (rX3 g len true) (rX0 (wI (mvG gl ll (0 : Int) (Go.IntKind.wrap .i64 (Go.IntKind.wrap .i64
(Go.IntKind.wrap .i64 (mx g 1 len - mn gl 1 ll) + (1 : Int)) + Go.IntKind.wrap .i64 (Go.IntKind.wrap .u8 (Int.tdiv byI (2 : Int))))))) ll false) (rX1 (wI
(mvG gl ll (0 : Int) (Go.IntKind.wrap .i64 (Go.IntKind.wrap .i64 (Go.IntKind.wrap .i64 (mx g 1 len - mn gl 1 ll) + (1 : Int)) + Go.IntKind.wrap .i64 (Go.IntKind.wrap .u8 (Int.tdiv
 byI (2 : Int))))))) ll false) (rX2 (wI (mvG gl ll (0 : Int) (Go.IntKind.wrap .i64 (Go.IntKind.wrap .i64 (Go.IntKind.wrap .i64 (mx g 1 len - mn gl 1 ll) + (1 : Int)) + Go.IntKind.wrap .i64 (Go.IntKind.wrap .u8 (Int.tdiv byI (2 : Int))))))) ll false) (rX3 (wI (mvG gl ll (0 : Int) (Go.IntKind.wrap .i64 (Go.IntKind.wrap .i64 (Go.IntKind.wrap
.i64 (mx g 1 len - mn gl 1 ll) + (1 : Int)) + Go.IntKind.wrap .i64 (Go.IntKind.wrap .u8 (Int.tdiv byI (2 : Int))))))) ll false) = false ∧ mt4 (rX0 g len true)
(rX1 g len true) (rX2 g len true) (rX3 g len true) (rX0 (wI (mvG gl ll (0 : Int) (Go.IntKind.wrap .i64 (Go.IntKind.wrap .i64 (Go.IntKind.wrap
.i64 (mx g 1 len - mn gl 1 ll) + (1 : Int)) + Go.IntKind.wrap .i64 (Go.IntKind.wrap .u8 (Int.tdiv byI (2 : Int))))))) ll false) (rX1 (wI (mvG gl
 ll (0 : Int) (Go.IntKind.wrap .i64 (Go.IntKind.wrap .i64 (Go.IntKind.wrap .i64 (mx g 1 len - mn gl 1 ll) + (1 : Int)) + Go.IntKind.wrap .i64 (Go.IntKind.wrap .u8 (Int.tdiv byI (2 : Int))))))) ll
 false) (rX2 (wI (mvG gl ll (0 : Int) (Go.IntKind.wrap .i64 (Go.IntKind.wrap .i64 (Go.IntKind.wrap .i64 (mx g 1 len - mn gl 1 ll) + (1 : Int)) +
 Go.IntKind.wrap .i64 (Go.IntKind.wrap .u8 (Int.tdiv byI (2 : Int))))))) ll false) (rX3 (wI (mvG gl ll (0 : Int) (Go.IntKind.wrap .i64 (Go.IntKind.wrap .i64 (Go.IntKind.wrap .i64
(mx g 1 len - mn gl 1 ll) + (1 : Int)) + Go.IntKind.wrap .i64 (Go.IntKind.wrap .u8 (Int.tdiv byI (2 : Int))))))) ll false) = false) ∧ true = true ∧ (k = k ∧ 2 * len = 2 * len ∧ 2 * l0 = 2 * l0 ∧ 2 * l1 = 2 * l1 ∧ 2 * l2 = 2 * l2 ∧ 2 * l3 = 2 * l3 ∧ hab k l0 l1 l2 l3 ∧ len ≤ 1000000 ∧ l0 ≤ 1000000 ∧ l1 ≤ 1000000 ∧ l2 ≤
1000000 ∧ l3 ≤ 1000000) ∧ (k = k ∧ 2 * len = 2 * len ∧ 2 * l0 = 2 * l0 ∧ 2 * l1 = 2 * l1 ∧ 2 * l2 = 2 * l2 ∧ 2 * l3 = 2 * l3 ∧ 2 * ll = 2
* ll ∧ shOk len k l0 l1 l2 l3 g g0 g1 g2 g3 ∧ (ll ≤ 1000000 ∧ (ppBig ll false = true → ppOk (fI (wI (mvG gl ll (0 : Int)
(Go.IntKind.wrap .i64 (Go.IntKind.wrap .i64 (Go.IntKind.wrap .i64 (mx g 1 len - mn gl 1 ll) + (1 : Int)) + Go.IntKind.wrap .i64 (Go.IntKind.wrap .u8 (Int.tdiv byI (2 : Int)))))))) ll)) ∧
(FL2 (fI (wI (mvG gl ll (0 : Int) (Go.IntKind.wrap .i64 (Go.IntKind.wrap .i64 (Go.IntKind.wrap .i64 (mx g 1 len - mn gl 1 ll)
+ (1 : Int)) + Go.IntKind.wrap .i64 (Go.IntKind.wrap .u8 (Int.tdiv byI (2 : Int)))))))) (2 * ll) ∧ W22 (rX0 g len true) ∧ W22 (rX1 g len true) ∧ W22
(rX2 g len true) ∧ W22 (rX3 g len true)) ∧ mt4 (rX0 g len true) (rX1 g len true) (rX2 g len true) (rX3 g
 len true) (rX0 (wI (mvG gl ll (0 : Int) (Go.IntKind.wrap .i64 (Go.IntKind.wrap .i64 (Go.IntKind.wrap .i64 (mx g 1 len - mn gl 1 ll) + (1 : Int))
+ Go.IntKind.wrap .i64 (Go.IntKind.wrap .u8 (Int.tdiv byI (2 : Int))))))) ll false) (rX1 (wI (mvG gl ll (0 : Int) (Go.IntKind.wrap .i64 (Go.IntKind.wrap .i64 (Go.IntKind.wrap .i64
(mx g 1 len - mn gl 1 ll) + (1 : Int)) + Go.IntKind.wrap .i64 (Go.IntKind.wrap .u8 (Int.tdiv byI (2 : Int))))))) ll false) (rX2 (wI (mvG gl ll
(0 : Int) (Go.IntKind.wrap .i64 (Go.IntKind.wrap .i64 (Go.IntKind.wrap .i64 (mx g 1 len - mn gl 1 ll) + (1 : Int)) + Go.IntKind.wrap .i64 (Go.IntKind.wrap .u8 (Int.tdiv byI (2 : Int))))))) ll false)
(rX3 (wI (mvG gl ll (0 : Int) (Go.IntKind.wrap .i64 (Go.IntKind.wrap .i64 (Go.IntKind.wrap .i64 (mx g 1 len - mn gl 1 ll) + (1 : Int)) +
 Go.IntKind.wrap .i64 (Go.IntKind.wrap .u8 (Int.tdiv byI (2 : Int))))))) ll false) = false) ∧ true = true ∧ (lcpV (fI (wI (mvG gl ll (0 : Int) (Go.IntKind.wrap .i64
(Go.IntKind.wrap .i64 (Go.IntKind.wrap .i64 (mx g 1 len - mn gl 1 ll) + (1 : Int)) + Go.IntKind.wrap .i64 (Go.IntKind.wrap .u8 (Int.tdiv byI (2 : Int)))))))) ll false len true (rX0
 g len true) (rX1 g len true) (rX2 g len true) (rX3 g len true) = true → False ∧ True) ∧ (lcpV (fI (wI (mvG gl ll (0 : Int)
(Go.IntKind.wrap .i64 (Go.IntKind.wrap .i64 (Go.IntKind.wrap .i64 (mx g 1 len - mn gl 1 ll) + (1 : Int)) + Go.IntKind.wrap .i64 (Go.IntKind.wrap .u8 (Int.tdiv byI (2 : Int)))))))) ll false len true
(rX0 g len true) (rX1 g len true) (rX2 g len true) (rX3 g len true) = false → (false = true → (((0 : Int) ≤ 2 ∧ (2 : Int) < 2) ∧ True) ∧ False) ∧ (false = false →
 True ∧ True))) ∧ ((Int.tmod byI (2 : Int) == (1 : Int)) = false → (2 * ll = 2 * ll ∧ ll < 64 ∧ (ppBig ll false = true → ppOk (fI gl) ll) ∧ (ppBig ll false
= true → ppOk (mvG gl ll (Go.IntKind.wrap .i64 (Go.IntKind.wrap .i64 (Go.IntKind.wrap .i64 (mx g 0 len - mn gl 0 ll) + (1 : Int)) + Go.IntKind.wrap .i64
(Go.IntKind.wrap .u8 (Int.tdiv byI (2 : Int))))) (0 : Int)) ll) ∧ (∀ (j : Nat), j < 2 * ll → fok BinOp.add .f64 (fI gl j) (if j % 2 = 0 then ofI .f64 (Go.IntKind.wrap .i64 (Go.IntKind.wrap .i64
(Go.IntKind.wrap .i64 (mx g 0 len - mn gl 0 ll) + (1 : Int)) + Go.IntKind.wrap .i64 (Go.IntKind.wrap .u8 (Int.tdiv byI (2 : Int))))) else 0)) ∧ ∀ (j : Nat), j < 2 * ll → toIok
.f64 (mvG gl ll (Go.IntKind.wrap .i64 (Go.IntKind.wrap .i64 (Go.IntKind.wrap .i64 (mx g 0 len - mn gl 0 ll) + (1 : Int)) + Go.IntKind.wrap .i64 (Go.IntKind.wrap .u8 (Int.tdiv byI
(2 : Int))))) (0 : Int) j) .i64) ∧ (k = k ∧ 2 * len = 2 * len ∧ 2 * l0 = 2 * l0 ∧ 2 * l1 = 2 * l1 ∧ 2 * l2 = 2 * l2 ∧ 2 * l3 = 2 * l3 ∧ hab k l0 l1 l2
 l3 ∧ len ≤ 1000000 ∧ l0 ≤ 1000000 ∧ l1 ≤ 1000000 ∧ l2 ≤ 1000000 ∧ l3 ≤ 1000000) ∧ (k = k ∧ 2 * len = 2 * len ∧ 2 * l0 = 2 * l0 ∧ 2 * l1 = 2 * l1 ∧ 2 * l2
= 2 * l2 ∧ 2 * l3 = 2 * l3 ∧ 2 * ll = 2 * ll ∧ shOk len k l0 l1 l2 l3 g g0 g1 g2 g3 ∧ (ll ≤ 1000000 ∧ (ppBig ll false = true → ppOk
(fI (wI (mvG gl ll (Go.IntKind.wrap .i64 (Go.IntKind.wrap .i64 (Go.IntKind.wrap .i64 (mx g 0 len - mn gl 0 ll) + (1 : Int)) + Go.IntKind.wrap
.i64 (Go.IntKind.wrap .u8 (Int.tdiv byI (2 : Int))))) (0 : Int)))) ll)) ∧ inF (rX0 g len true) (rX1 g len true) (rX2 g len true) (rX3 g len true)
(rX0 (wI (mvG gl ll (Go.IntKind.wrap .i64 (Go.IntKind.wrap .i64 (Go.IntKind.wrap .i64 (mx g 0 len - mn gl 0 ll) + (1 : Int)) + Go.IntKind.wrap
.i64 (Go.IntKind.wrap .u8 (Int.tdiv byI (2 : Int))))) (0 : Int))) ll false) (rX1 (wI (mvG gl ll (Go.IntKind.wrap .i64 (Go.IntKind.wrap .i64 (Go.IntKind.wrap .i64 (mx g 0
 len - mn gl 0 ll) + (1 : Int)) + Go.IntKind.wrap .i64 (Go.IntKind.wrap .u8 (Int.tdiv byI (2 : Int))))) (0 : Int))) ll false) (rX2 (wI (mvG gl ll (Go.IntKind.wrap .i64
(Go.IntKind.wrap .i64 (Go.IntKind.wrap .i64 (mx g 0 len - mn gl 0 ll) + (1 : Int)) + Go.IntKind.wrap .i64 (Go.IntKind.wrap .u8 (Int.tdiv byI (2 : Int))))) (0 : Int))) ll false)
(rX3 (wI (mvG gl ll (Go.IntKind.wrap .i64 (Go.IntKind.wrap .i64 (Go.IntKind.wrap .i64 (mx g 0 len - mn gl 0 ll) + (1 : Int)) + Go.IntKind.wrap
.i64 (Go.IntKind.wrap .u8 (Int.tdiv byI (2 : Int))))) (0 : Int))) ll false) = false ∧ mt4 (rX0 g len true) (rX1 g len true) (rX2 g len true) (rX3 g len true)
(rX0 (wI (mvG gl ll (Go.IntKind.wrap .i64 (Go.IntKind.wrap .i64 (Go.IntKind.wrap .i64 (mx g 0 len - mn gl 0 ll) + (1 : Int)) + Go.IntKind.wrap
.i64 (Go.IntKind.wrap .u8 (Int.tdiv byI (2 : Int))))) (0 : Int))) ll false) (rX1 (wI (mvG gl ll (Go.IntKind.wrap .i64 (Go.IntKind.wrap .i64 (Go.IntKind.wrap .i64 (mx g 0
 len - mn gl 0 ll) + (1 : Int)) + Go.IntKind.wrap .i64 (Go.IntKind.wrap .u8 (Int.tdiv byI (2 : Int))))) (0 : Int))) ll false) (rX2 (wI (mvG gl ll (Go.IntKind.wrap .i64
(Go.IntKind.wrap .i64 (Go.IntKind.wrap .i64 (mx g 0 len - mn gl 0 ll) + (1 : Int)) + Go.IntKind.wrap .i64 (Go.IntKind.wrap .u8 (Int.tdiv byI (2 : Int))))) (0 : Int))) ll false)
(rX3 (wI (mvG gl ll (Go.IntKind.wrap .i64 (Go.IntKind.wrap .i64 (Go.IntKind.wrap .i64 (mx g 0 len - mn gl 0 ll) + (1 : Int)) + Go.IntKind.wrap
.i64 (Go.IntKind.wrap .u8 (Int.tdiv byI (2 : Int))))) (0 : Int))) ll false) = false) ∧ true = true ∧ (k = k ∧ 2 * len = 2 * len ∧ 2 * l0 = 2 * l0 ∧ 2 * l1 = 2 * l1 ∧ 2 * l2 = 2 * l2 ∧ 2 * l3 = 2 * l3 ∧ hab k l0 l1 l2 l3 ∧ len ≤ 1000000 ∧ l0 ≤ 1000000 ∧ l1 ≤ 1000000 ∧ l2 ≤ 1000000 ∧ l3 ≤ 1000000) ∧ (k = k ∧ 2 * len = 2 * len ∧ 2 * l0 = 2 * l0 ∧ 2 * l1 = 2 * l1 ∧ 2 * l2 = 2 * l2 ∧ 2 * l3 = 2 * l3 ∧ 2 * ll = 2 * ll ∧ shOk len k l0 l1 l2 l3 g g0 g1 g2 g3 ∧ (ll ≤ 1000000 ∧
(ppBig ll false = true → ppOk (fI (wI (mvG gl ll (Go.IntKind.wrap .i64 (Go.IntKind.wrap .i64 (Go.IntKind.wrap .i64 (mx g 0 len -
 mn gl 0 ll) + (1 : Int)) + Go.IntKind.wrap .i64 (Go.IntKind.wrap .u8 (Int.tdiv byI (2 : Int))))) (0 : Int)))) ll)) ∧ (FL2 (fI (wI (mvG gl ll
(Go.IntKind.wrap .i64 (Go.IntKind.wrap .i64 (Go.IntKind.wrap .i64 (mx g 0 len - mn gl 0 ll) + (1 : Int)) + Go.IntKind.wrap .i64 (Go.IntKind.wrap .u8 (Int.tdiv byI (2 : Int))))) (0 : Int)))) (2 * ll) ∧ W22 (rX0 g len true) ∧ W22 (rX1 g len true) ∧ W22 (rX2 g len true) ∧ W22 (rX3 g len true)) ∧
 mt4 (rX0 g len true) (rX1 g len true) (rX2 g len true) (rX3 g len true) (rX0 (wI (mvG gl ll
(Go.IntKind.wrap .i64 (Go.IntKind.wrap .i64 (Go.IntKind.wrap .i64 (mx g 0 len - mn gl 0 ll) + (1 : Int)) + Go.IntKind.wrap .i64 (Go.IntKind.wrap .u8 (Int.tdiv byI (2 : Int))))) (0 : Int))) ll false)
(rX1 (wI (mvG gl ll (Go.IntKind.wrap .i64 (Go.IntKind.wrap .i64 (Go.IntKind.wrap .i64 (mx g 0 len - mn gl 0 ll) + (1 : Int)) + Go.IntKind.wrap
.i64 (Go.IntKind.wrap .u8 (Int.tdiv byI (2 : Int))))) (0 : Int))) ll false) (rX2 (wI (mvG gl ll (Go.IntKind.wrap .i64 (Go.IntKind.wrap .i64 (Go.IntKind.wrap .i64 (mx g 0
 len - mn gl 0 ll) + (1 : Int)) + Go.IntKind.wrap .i64 (Go.IntKind.wrap .u8 (Int.tdiv byI (2 : Int))))) (0 : Int))) ll false) (rX3 (wI (mvG gl ll (Go.IntKind.wrap .i64
(Go.IntKind.wrap .i64 (Go.IntKind.wrap .i64 (mx g 0 len - mn gl 0 ll) + (1 : Int)) + Go.IntKind.wrap .i64 (Go.IntKind.wrap .u8 (Int.tdiv byI (2 : Int))))) (0 : Int))) ll false) = false) ∧ true =
 true ∧ (lcpV (fI (wI (mvG gl ll (Go.IntKind.wrap .i64 (Go.IntKind.wrap .i64 (Go.IntKind.wrap .i64 (mx g 0 len - mn gl 0 ll) +
(1 : Int)) + Go.IntKind.wrap .i64 (Go.IntKind.wrap .u8 (Int.tdiv byI (2 : Int))))) (0 : Int)))) ll false len true (rX0 g len true) (rX1 g len true) (rX2 g len true) (rX3 g len
 true) = true → False ∧ True) ∧ (lcpV (fI (wI (mvG gl ll (Go.IntKind.wrap .i64 (Go.IntKind.wrap .i64 (Go.IntKind.wrap .i64 (mx g 0 len -
 mn gl 0 ll) + (1 : Int)) + Go.IntKind.wrap .i64 (Go.IntKind.wrap .u8 (Int.tdiv byI (2 : Int))))) (0 : Int)))) ll false len true (rX0 g len true) (rX1 g len true) (rX2 g
 len true) (rX3 g len true) = false → (false = true → (((0 : Int) ≤ 2 ∧ (2 : Int) < 2) ∧ True) ∧ False) ∧ (false = false → True ∧ True)))) ∧ (true = false → True ∧ True))) ∧ (true = false → True ∧ True))))) := by kernel_rfl
theorem lawFar : ConOk Tryz.prog 9 (conR lawFarC) := by
 refine con_of_vc gFAR Tryz.func9 rfl (by kernel_rfl) fun args => ?_
 unfold lawFarC
 split
 · rename_i n len h k1 nb lenb hb k1b m ll byI
   intro o0
   show RdM.All _ (match intsFrom .i64 o0.c with | some (m, g) => _ | none => _) _
   split
   · rename_i m0 g hm0
     intro o1
     show RdM.All _ (match holU o1.c with | some (k, q0, l0, q1, l1, q2, l2, q3, l3) => _ | none => _) _
     split
     · rename_i k q0 l0 q1 l1 q2 l2 q3 l3 hm1
       intro o2
       show RdM.All _ (match intsFrom .i64 o2.c with | some (m, g) => _ | none => _) _
       split
       · rename_i m2 g0 hm2
         intro o3
         show RdM.All _ (match intsFrom .i64 o3.c with | some (m, g) => _ | none => _) _
         split
         · rename_i m3 g1 hm3
           intro o4
           show RdM.All _ (match intsFrom .i64 o4.c with | some (m, g) => _ | none => _) _
           split
           · rename_i m4 g2 hm4
             intro o5
             show RdM.All _ (match intsFrom .i64 o5.c with | some (m, g) => _ | none => _) _
             split
             · rename_i m5 g3 hm5
               intro o6
               show RdM.All _ (match intsFrom .i64 o6.c with | some (m, g) => _ | none => _) _
               split
               · rename_i m6 gb hm6
                 intro o7
                 show RdM.All _ (match holU o7.c with | some (kb, q0b, l0b, q1b, l1b, q2b, l2b, q3b, l3b) => _ | none => _) _
                 split
                 · rename_i kb q0b l0b q1b l1b q2b l2b q3b l3b hm7
                   intro o8
                   show RdM.All _ (match intsFrom .i64 o8.c with | some (m, g) => _ | none => _) _
                   split
                   · rename_i m8 g0b hm8
                     intro o9
                     show RdM.All _ (match intsFrom .i64 o9.c with | some (m, g) => _ | none => _) _
                     split
                     · rename_i m9 g1b hm9
                       intro o10
                       show RdM.All _ (match intsFrom .i64 o10.c with | some (m, g) => _ | none => _) _
                       split
                       · rename_i m10 g2b hm10
                         intro o11
                         show RdM.All _ (match intsFrom .i64 o11.c with | some (m, g) => _ | none => _) _
                         split
                         · rename_i m11 g3b hm11
                           intro o12
                           show RdM.All _ (match intsFrom .i64 o12.c with | some (m, g) => _ | none => _) _
                           split
                           · rename_i m12 gl hm12
                             intro ho
                             replace ho : k = k1 ∧ kb = k1b ∧ m0 = 2 * len ∧ m2 = 2 * l0 ∧ m3 = 2 * l1 ∧ m4 = 2 * l2 ∧ m5 = 2 * l3 ∧ m6 = 2 * lenb ∧ m8 = 2 * l0b ∧ m9 = 2 * l1b ∧ m10 = 2 * l2b ∧ m11 = 2 * l3b ∧ m12 = 2 * ll ∧ hab k l0 l1 l2 l3 ∧ hab kb l0b l1b l2b l3b ∧ 0 ≤ byI ∧ byI ≤ 255 := ho
                             obtain ⟨heq0, heq1, hsz0, hsz2, hsz3, hsz4, hsz5, hsz6, hsz8, hsz9, hsz10, hsz11, hsz12, ho⟩ := ho
                             subst heq0
                             subst heq1
                             subst hsz0
                             subst hsz2
                             subst hsz3
                             subst hsz4
                             subst hsz5
                             subst hsz6
                             subst hsz8
                             subst hsz9
                             subst hsz10
                             subst hsz11
                             subst hsz12
                             refine ⟨?_, _, _, (vc_lawFar len k l0 l1 l2 l3 q0 q1 q2 q3 lenb kb l0b l1b l2b l3b q0b q1b q2b q3b ll byI g g0 g1 g2 g3 gb g0b g1b g2b g3b gl).mpr ?_⟩
                             · change callP _ _ [(n, o0), (h, o1), (q0, o2), (q1, o3), (q2, o4), (q3, o5), (nb, o6), (hb, o7), (q0b, o8), (q1b, o9), (q2b, o10), (q3b, o11), (m, o12)] _
                               refine okFlag_mk rfl ⟨?_, ⟨trivial, (contR_ints hm0).1, ⟨trivial, holU_spec hm1 sameN_self sameN_self sameN_self sameN_self, ⟨trivial, (contR_ints hm2).1, ⟨trivial, (contR_ints hm3).1, ⟨trivial, (contR_ints hm4).1, ⟨trivial, (contR_ints hm5).1, ⟨trivial, (contR_ints hm6).1, ⟨trivial, holU_spec hm7 sameN_self sameN_self sameN_self sameN_self, ⟨trivial, (contR_ints hm8).1, ⟨trivial, (contR_ints hm9).1, ⟨trivial, (contR_ints hm10).1, ⟨trivial, (contR_ints hm11).1, ⟨trivial, (contR_ints hm12).1, trivial⟩⟩⟩⟩⟩⟩⟩⟩⟩⟩⟩⟩⟩⟩
                               simp [eqvRL, eqvR, kEq_self, sgSig, fsts, nth, sameN_self]
                             · obtain ⟨h1, h2, hb0, hb1⟩ := ho
                               simp only [true_and, and_true, eq_self, Nat.le_refl, implies_true, true_implies, Bool.not_eq_false', Bool.false_eq_true, Bool.true_eq_false, false_implies]
                               refine ⟨h1, fun _ => ⟨h2, fun _ _ => ⟨⟨h1, fun f1 => ⟨h2, fun f2 f3 => ⟨by have := of_decide_eq_false f3; omega, fun f4 f5 f6 f7 => ?_⟩⟩⟩, fun _ hj => ?_⟩⟩⟩
                               · have f3 := of_decide_eq_false f3
                                 have f5 := of_decide_eq_false f5
                                 have f6 := of_decide_eq_false f6
                                 have f7 := of_decide_eq_false f7
                                 exact ⟨0, (pg_of f1).1, (pg_of f2).1, ⟨by omega, by omega, of_decide_eq_true f4⟩, ⟨by omega, by omega, by omega⟩, (pg_of f2).2⟩
                               · obtain ⟨p, pb, ⟨hll, b⟩, ⟨l3', lb3, ll2⟩, u⟩ := hj
                                 obtain ⟨dx1, z0, fx⟩ := far_x p.1.2.2 pb.1.2.2 (by omega) (by omega) hb0 hb1
                                 obtain ⟨dy1, _, fy⟩ := far_y p.1.2.2 pb.1.2.2 (by omega) (by omega) hb0 hb1
                                 obtain ⟨ex1, _, gx⟩ := far_x p.1.2.2 b.2 (by omega) (by omega) hb0 hb1
                                 obtain ⟨ey1, _, gy⟩ := far_y p.1.2.2 b.2 (by omega) (by omega) hb0 hb1
                                 have X := far_pp h1 h2 p pb u l3' lb3 dx1 z0 (by decide) fx
                                 have Y := far_pp h1 h2 p pb u l3' lb3 z0 dy1 (by decide) fy
                                 have LX := far_pl h1 p hll b l3' ll2 ex1 z0 (by decide) gx
                                 have LY := far_pl h1 p hll b l3' ll2 z0 ey1 (by decide) gy
                                 unfold mdOk at LX LY
                                 rw [ofI_zero] at LX LY
                                 unfold fdW at X Y LX LY
                                 obtain ⟨X1, X2, X3, X4, X5⟩ := X
                                 obtain ⟨Y1, Y2, Y3, Y4, Y5⟩ := Y
                                 obtain ⟨LX1, LX2, LX3, LX4, LX5, LX6⟩ := LX
                                 obtain ⟨LY1, LY2, LY3, LY4, LY5, LY6⟩ := LY
                                 have n1 : (0 : Int) ≤ 0 ∧ (0 : Int) < 2 := by decide
                                 have n2 : (0 : Int) ≤ 1 ∧ (1 : Int) < 2 := by decide
                                 have n3 : (2 : Int) ≠ 0 := by decide
                                 refine ⟨⟨by omega, p.1.2.len⟩, ⟨h2, pb.lens⟩, ⟨by omega, pb.1.2.len⟩, by omega, ⟨by omega, by omega⟩, n1, n2, n1, n3, n3, fun _ => ⟨n2, n1, n3, Y1, Y2, Y3, Y4, Y5, n2, n2, n1, n3, n3, fun _ => ⟨n2, n1, n3, LY1, LY2, LY3, LY4, LY5, fun q => ?_⟩, fun _ => ⟨LX1, LX2, LX3, LX4, LX5, fun q => ?_⟩⟩, fun _ => ⟨X1, X2, X3, X4, X5, n2, n2, n1, n3, n3, fun _ => ⟨n2, n1, n3, LY1, LY2, LY3, LY4, LY5, fun q => ?_⟩, fun _ => ⟨LX1, LX2, LX3, LX4, LX5, fun q => ?_⟩⟩⟩
                                 · rw [LY6] at q; cases q
                                 · rw [LX6] at q; cases q
                                 · rw [LY6] at q; cases q
                                 · rw [LX6] at q; cases q
                           · trivial
                         · trivial
                       · trivial
                     · trivial
                   · trivial
                 · trivial
               · trivial
             · trivial
           · trivial
         · trivial
       · trivial
     · trivial
   · trivial
 · trivial
set_option maxHeartbeats 1000000
def rowOf : List SV → Option Nm
 | [.agg [_, .slcc h _]] => some h
 | _ => none
def isUp : Cont → Bool
 | .upto _ _ => true
 | _ => false
noncomputable def GPUG : Ctx := ⟨⟨tys, FL⟩, [(45, kindS rowOf isUp (conR zf2UC) (conR zf2gC)), (46, kindS rowOf isUp (conR isPoUC) (conR isPogC))]⟩
theorem gPUG : CtxOk Tryz.prog GPUG := ⟨⟨tysOk, flOk⟩, GamOk.cons (ConOk.kindS zf2U zf2g) (GamOk.cons (ConOk.kindS isPoU isPog) GamOk.nil), by kernel_rfl⟩
noncomputable def lawFarGGC : List SV → RdM
 | [.agg [.slcc n len, .slcc h k], .agg [.slcc nb lenb, .slcc hb kb], .slcc m ll, .int .u8 byI] => .read n fun o0 => (match intsFrom .i64 o0.c with
   | some (m0, g) => .read h fun o1 => (match genOf o1.c with
   | some (kk, f) => .read nb fun o2 => (match intsFrom .i64 o2.c with
   | some (m2, gb) => .read hb fun o3 => (match genOf o3.c with
   | some (kkb, fb) => .read m fun o4 => (match intsFrom .i64 o4.c with
   | some (m4, gl) => .ret ⟨[.agg [.slcc 0 len, .slcc 1 k], .agg [.slcc 2 lenb, .slcc 3 kb], .slcc 4 ll, .int .u8 byI], [(0, ⟨false, 28, .ints .i64 m0 g, 0⟩), (1, ⟨false, 26, .gen kk (slG f), 0⟩), (2, ⟨false, 28, .ints .i64 m2 gb, 0⟩), (3, ⟨false, 26, .gen kkb (slG fb), 0⟩), (4, ⟨false, 28, .ints .i64 m4 gl, 0⟩)], .tt, [], [], some (m0 = 2 * len ∧ m2 = 2 * lenb ∧ m4 = 2 * ll ∧ (4 < k ∧ kk = k ∧ kkb = kb) ∧ isSl f kk ∧ isSl fb kkb)⟩
   | none => .fail)
   | none => .fail)
   | none => .fail)
   | none => .fail)
   | none => .fail)
 | _ => .fail
theorem vc_lawFarGG (len k kk : Nat) (f : Nat → SV) (lenb kb kkb : Nat) (fb : Nat → SV) (ll : Nat) (byI : Int)  (g : Nat → Int) (gb : Nat → Int) (gl : Nat → Int) : runA GPUG 5 [] [] (codeOf Tryz.f9) (init Tryz.f9.ntmps [.agg [.slcc 0 len, .slcc 1 k], .agg [.slcc 2 lenb, .slcc 3 kb], .slcc 4 ll, .int .u8 byI] [(0, ⟨false, 28, .ints .i64 (2 * len) g, 0⟩), (1, ⟨false, 26, .gen kk (slG f), 0⟩), (2, ⟨false, 28, .ints .i64 (2 * lenb) gb, 0⟩), (3, ⟨false, 26, .gen kkb (slG fb), 0⟩), (4, ⟨false, 28, .ints .i64 (2 * ll) gl, 0⟩)] 5) (endK GPUG.E.T Tryz.f9.results.toList fun S v => postP 5 ⟨[.agg [.slcc 0 len, .slcc 1 k], .agg [.slcc 2 lenb, .slcc 3 kb], .slcc 4 ll, .int .u8 byI], [(0, ⟨false, 28, .ints .i64 (2 * len) g, 0⟩), (1, ⟨false, 26, .gen kk (slG f), 0⟩), (2, ⟨false, 28, .ints .i64 (2 * lenb) gb, 0⟩), (3, ⟨false, 26, .gen kkb (slG fb), 0⟩), (4, ⟨false, 28, .ints .i64 (2 * ll) gl, 0⟩)], .tt, [], [], some (2 * len = 2 * len ∧ 2 * lenb = 2 * lenb ∧ 2 * ll = 2 * ll ∧ (4 < k ∧ kk = k ∧ kkb = kb) ∧ isSl f kk ∧ isSl fb kkb)⟩ S v) = (
(2 * len = 2 * len ∧ kk = k ∧ isSl (slG f) kk) ∧ ((!(fitB len && (fitB k && allB (fun (i : Nat) => fitB (lOf
(slG f) i)) k))) = true → True ∧ True) ∧ ((!(fitB len && (fitB k && allB (fun (i : Nat) => fitB (lOf (slG f) i)) k))) =
 false → (2 * lenb = 2 * lenb ∧ kkb = kb ∧ isSl (slG fb) kkb) ∧ ((!(fitB lenb && (fitB kb && allB (fun (i : Nat) => fitB
(lOf (slG fb) i)) kb))) = true → True ∧ True) ∧ ((!(fitB lenb && (fitB kb && allB (fun (i : Nat) => fitB (lOf
(slG fb) i)) kb))) = false → (decide (2147483647 < (↑ll : Int)) = true → True ∧ True) ∧ (decide (2147483647 < (↑ll : Int)) = false → (2 * len = 2 * len ∧ 4 < k ∧ kk = k ∧
 isSl (slG f) kk) ∧ True ∧ True)))) := by kernel_rfl
theorem lawFarGG : ConOk Tryz.prog 9 (conR lawFarGGC) := by
 refine con_of_vc gPUG Tryz.func9 rfl (by kernel_rfl) fun args => ?_
 unfold lawFarGGC
 split
 · rename_i n len h k nb lenb hb kb m ll byI
   intro o0
   show RdM.All _ (match intsFrom .i64 o0.c with | some (m, g) => _ | none => _) _
   split
   · rename_i m0 g hm0
     intro o1
     show RdM.All _ (match genOf o1.c with | some (kk, f) => _ | none => _) _
     split
     · rename_i kk f hm1
       intro o2
       show RdM.All _ (match intsFrom .i64 o2.c with | some (m, g) => _ | none => _) _
       split
       · rename_i m2 gb hm2
         intro o3
         show RdM.All _ (match genOf o3.c with | some (kkb, fb) => _ | none => _) _
         split
         · rename_i kkb fb hm3
           intro o4
           show RdM.All _ (match intsFrom .i64 o4.c with | some (m, g) => _ | none => _) _
           split
           · rename_i m4 gl hm4
             intro ho
             replace ho : m0 = 2 * len ∧ m2 = 2 * lenb ∧ m4 = 2 * ll ∧ (4 < k ∧ kk = k ∧ kkb = kb) ∧ isSl f kk ∧ isSl fb kkb := ho
             obtain ⟨hsz0, hsz2, hsz4, ho⟩ := ho
             subst hsz0
             subst hsz2
             subst hsz4
             refine ⟨?_, _, _, (vc_lawFarGG len k kk f lenb kb kkb fb ll byI g gb gl).mpr ?_⟩
             · refine okFlag_mk rfl ⟨?_, ⟨trivial, (contR_ints hm0).1, ⟨fun _ _ => rfl, genOf_spec hm1 ho.2.1, ⟨trivial, (contR_ints hm2).1, ⟨fun _ _ => rfl, genOf_spec hm3 ho.2.2, ⟨trivial, (contR_ints hm4).1, trivial⟩⟩⟩⟩⟩⟩
               simp [eqvRL, eqvR, kEq_self, sgSig, fsts, nth, sameN_self]
             · obtain ⟨⟨h4, rfl, rfl⟩, hs, hsb⟩ := ho
               simp [h4, slG_is]
           · trivial
         · trivial
       · trivial
     · trivial
   · trivial
 · trivial
noncomputable def lawFarUGC : List SV → RdM
 | [.agg [.slcc n len, .slcc h k1], .agg [.slcc nb lenb, .slcc hb kb], .slcc m ll, .int .u8 byI] => .read n fun o0 => (match intsFrom .i64 o0.c with
   | some (m0, g) => .read h fun o1 => (match holU o1.c with
   | some (k, q0, l0, q1, l1, q2, l2, q3, l3) => .read q0 fun o2 => (match intsFrom .i64 o2.c with
   | some (m2, g0) => .read q1 fun o3 => (match intsFrom .i64 o3.c with
   | some (m3, g1) => .read q2 fun o4 => (match intsFrom .i64 o4.c with
   | some (m4, g2) => .read q3 fun o5 => (match intsFrom .i64 o5.c with
   | some (m5, g3) => .read nb fun o6 => (match intsFrom .i64 o6.c with
   | some (m6, gb) => .read hb fun o7 => (match genOf o7.c with
   | some (kkb, fb) => .read m fun o8 => (match intsFrom .i64 o8.c with
   | some (m8, gl) => .ret ⟨[.agg [.slcc 0 len, .slcc 1 k], .agg [.slcc 6 lenb, .slcc 7 kb], .slcc 8 ll, .int .u8 byI], [(0, ⟨false, 28, .ints .i64 m0 g, 0⟩), (1, ⟨false, 26, .upto k [.slcc 2 l0, .slcc 3 l1, .slcc 4 l2, .slcc 5 l3], 0⟩), (2, ⟨false, 28, .ints .i64 m2 g0, 0⟩), (3, ⟨false, 28, .ints .i64 m3 g1, 0⟩), (4, ⟨false, 28, .ints .i64 m4 g2, 0⟩), (5, ⟨false, 28, .ints .i64 m5 g3, 0⟩), (6, ⟨false, 28, .ints .i64 m6 gb, 0⟩), (7, ⟨false, 26, .gen kkb (slG fb), 0⟩), (8, ⟨false, 28, .ints .i64 m8 gl, 0⟩)], .tt, [], [], some (k = k1 ∧ m0 = 2 * len ∧ m2 = 2 * l0 ∧ m3 = 2 * l1 ∧ m4 = 2 * l2 ∧ m5 = 2 * l3 ∧ m6 = 2 * lenb ∧ m8 = 2 * ll ∧ (hab k l0 l1 l2 l3 ∧ 4 < kb ∧ kkb = kb) ∧ isSl fb kkb)⟩
   | none => .fail)
   | none => .fail)
   | none => .fail)
   | none => .fail)
   | none => .fail)
   | none => .fail)
   | none => .fail)
   | none => .fail)
   | none => .fail)
 | _ => .fail
theorem vc_lawFarUG (len k l0 l1 l2 l3 : Nat) (_ _ _ _ : Nm) (lenb kb kkb : Nat) (fb : Nat → SV) (ll : Nat) (byI : Int)  (g : Nat → Int) (g0 : Nat → Int) (g1 : Nat → Int) (g2 : Nat → Int) (g3 : Nat → Int) (gb : Nat → Int) (gl : Nat → Int) : runA GPUG 9 [] [] (codeOf Tryz.f9) (init Tryz.f9.ntmps [.agg [.slcc 0 len, .slcc 1 k], .agg [.slcc 6 lenb, .slcc 7 kb], .slcc 8 ll, .int .u8 byI] [(0, ⟨false, 28, .ints .i64 (2 * len) g, 0⟩), (1, ⟨false, 26, .upto k [.slcc 2 l0, .slcc 3 l1, .slcc 4 l2, .slcc 5 l3], 0⟩), (2, ⟨false, 28, .ints .i64 (2 * l0) g0, 0⟩), (3, ⟨false, 28, .ints .i64 (2 * l1) g1, 0⟩), (4, ⟨false, 28, .ints .i64 (2 * l2) g2, 0⟩), (5, ⟨false, 28, .ints .i64 (2 * l3) g3, 0⟩), (6, ⟨false, 28, .ints .i64 (2 * lenb) gb, 0⟩), (7, ⟨false, 26, .gen kkb (slG fb), 0⟩), (8, ⟨false, 28, .ints .i64 (2 * ll) gl, 0⟩)] 9) (endK GPUG.E.T Tryz.f9.results.toList fun S v => postP 9 ⟨[.agg [.slcc 0 len, .slcc 1 k], .agg [.slcc 6 lenb, .slcc 7 kb], .slcc 8 ll, .int .u8 byI], [(0, ⟨false, 28, .ints .i64 (2 * len) g, 0⟩), (1, ⟨false, 26, .upto k [.slcc 2 l0, .slcc 3 l1, .slcc 4 l2, .slcc 5 l3], 0⟩), (2, ⟨false, 28, .ints .i64 (2 * l0) g0, 0⟩), (3, ⟨false, 28, .ints .i64 (2 * l1) g1, 0⟩), (4, ⟨false, 28, .ints .i64 (2 * l2) g2, 0⟩), (5, ⟨false, 28, .ints .i64 (2 * l3) g3, 0⟩), (6, ⟨false, 28, .ints .i64 (2 * lenb) gb, 0⟩), (7, ⟨false, 26, .gen kkb (slG fb), 0⟩), (8, ⟨false, 28, .ints .i64 (2 * ll) gl, 0⟩)], .tt, [], [], some (k = k ∧ 2 * len = 2 * len ∧ 2 * l0 = 2 * l0 ∧ 2 * l1 = 2 * l1 ∧ 2 * l2 = 2 * l2 ∧ 2 * l3 = 2 * l3 ∧ 2 * lenb = 2 * lenb ∧ 2 * ll = 2 * ll ∧ (hab k l0 l1 l2 l3 ∧ 4 < kb ∧ kkb = kb) ∧ isSl fb kkb)⟩ S v) = (
(k = k ∧ 2 * len = 2 * len ∧ 2 * l0 = 2 * l0 ∧ 2 * l1 = 2 * l1 ∧ 2 * l2 = 2 * l2 ∧ 2 * l3 = 2 * l3 ∧ hab k l0 l1 l2 l3) ∧ ((!(fitB len
&& fitB l0 && fitB l1 && fitB l2 && fitB l3)) = true → True ∧ True) ∧ ((!(fitB len && fitB l0 && fitB l1 &&
 fitB l2 && fitB l3)) = false → (2 * lenb = 2 * lenb ∧ kkb = kb ∧ isSl (slG fb) kkb) ∧ ((!(fitB lenb && (fitB kb &&
 allB (fun (i : Nat) => fitB (lOf (slG fb) i)) kb))) = true → True ∧ True) ∧ ((!(fitB lenb && (fitB kb && allB (fun (i : Nat)
=> fitB (lOf (slG fb) i)) kb))) = false → (decide (2147483647 < (↑ll : Int)) = true → True ∧ True) ∧ (decide (2147483647 < (↑ll : Int)) = false → (k = k ∧ 2 * len = 2 * len ∧ 2 * l0 = 2 * l0 ∧ 2 * l1 = 2 * l1 ∧ 2 * l2 = 2 * l2 ∧ 2 * l3 = 2 * l3 ∧ hab k l0 l1 l2 l3) ∧ ((!(isPg (40 : Int) len g &&
 isPg (20 : Int) l0 g0 && isPg (20 : Int) l1 g1 && isPg (20 : Int) l2 g2 && isPg (20 : Int) l3 g3)) = true → True ∧ True) ∧ ((!(isPg (40 : Int) len g &&
 isPg (20 : Int) l0 g0 && isPg (20 : Int) l1 g1 && isPg (20 : Int) l2 g2 && isPg (20 : Int) l3 g3)) = false → (2 * lenb = 2 * lenb ∧ 4 < kb ∧ kkb = kb ∧
 isSl (slG fb) kkb) ∧ True ∧ True))))) := by kernel_rfl
theorem lawFarUG : ConOk Tryz.prog 9 (conR lawFarUGC) := by
 refine con_of_vc gPUG Tryz.func9 rfl (by kernel_rfl) fun args => ?_
 unfold lawFarUGC
 split
 · rename_i n len h k1 nb lenb hb kb m ll byI
   intro o0
   show RdM.All _ (match intsFrom .i64 o0.c with | some (m, g) => _ | none => _) _
   split
   · rename_i m0 g hm0
     intro o1
     show RdM.All _ (match holU o1.c with | some (k, q0, l0, q1, l1, q2, l2, q3, l3) => _ | none => _) _
     split
     · rename_i k q0 l0 q1 l1 q2 l2 q3 l3 hm1
       intro o2
       show RdM.All _ (match intsFrom .i64 o2.c with | some (m, g) => _ | none => _) _
       split
       · rename_i m2 g0 hm2
         intro o3
         show RdM.All _ (match intsFrom .i64 o3.c with | some (m, g) => _ | none => _) _
         split
         · rename_i m3 g1 hm3
           intro o4
           show RdM.All _ (match intsFrom .i64 o4.c with | some (m, g) => _ | none => _) _
           split
           · rename_i m4 g2 hm4
             intro o5
             show RdM.All _ (match intsFrom .i64 o5.c with | some (m, g) => _ | none => _) _
             split
             · rename_i m5 g3 hm5
               intro o6
               show RdM.All _ (match intsFrom .i64 o6.c with | some (m, g) => _ | none => _) _
               split
               · rename_i m6 gb hm6
                 intro o7
                 show RdM.All _ (match genOf o7.c with | some (kkb, fb) => _ | none => _) _
                 split
                 · rename_i kkb fb hm7
                   intro o8
                   show RdM.All _ (match intsFrom .i64 o8.c with | some (m, g) => _ | none => _) _
                   split
                   · rename_i m8 gl hm8
                     intro ho
                     replace ho : k = k1 ∧ m0 = 2 * len ∧ m2 = 2 * l0 ∧ m3 = 2 * l1 ∧ m4 = 2 * l2 ∧ m5 = 2 * l3 ∧ m6 = 2 * lenb ∧ m8 = 2 * ll ∧ (hab k l0 l1 l2 l3 ∧ 4 < kb ∧ kkb = kb) ∧ isSl fb kkb := ho
                     obtain ⟨heq0, hsz0, hsz2, hsz3, hsz4, hsz5, hsz6, hsz8, ho⟩ := ho
                     subst heq0
                     subst hsz0
                     subst hsz2
                     subst hsz3
                     subst hsz4
                     subst hsz5
                     subst hsz6
                     subst hsz8
                     refine ⟨?_, _, _, (vc_lawFarUG len k l0 l1 l2 l3 q0 q1 q2 q3 lenb kb kkb fb ll byI g g0 g1 g2 g3 gb gl).mpr ?_⟩
                     · change callP _ _ [(n, o0), (h, o1), (q0, o2), (q1, o3), (q2, o4), (q3, o5), (nb, o6), (hb, o7), (m, o8)] _
                       refine okFlag_mk rfl ⟨?_, ⟨trivial, (contR_ints hm0).1, ⟨trivial, holU_spec hm1 sameN_self sameN_self sameN_self sameN_self, ⟨trivial, (contR_ints hm2).1, ⟨trivial, (contR_ints hm3).1, ⟨trivial, (contR_ints hm4).1, ⟨trivial, (contR_ints hm5).1, ⟨trivial, (contR_ints hm6).1, ⟨fun _ _ => rfl, genOf_spec hm7 ho.2, ⟨trivial, (contR_ints hm8).1, trivial⟩⟩⟩⟩⟩⟩⟩⟩⟩⟩
                       simp [eqvRL, eqvR, kEq_self, sgSig, fsts, nth, sameN_self]
                     · obtain ⟨⟨h1, h4, rfl⟩, hsb⟩ := ho
                       simp [h1, h4, slG_is]
                   · trivial
                 · trivial
               · trivial
             · trivial
           · trivial
         · trivial
       · trivial
     · trivial
   · trivial
 · trivial
end Go.Proofs.Tryz.Sx

namespace Go.Sx
open Go.RowKit Go.ChangeShapes Go.WideShapes Go.ChangeAt
section
variable {H : Type} {enc : TypeId × Value → H} {P : Program}
theorem trodAll_below (hl : laidOutB P = true) {W W' : World} (hb : Below W.heap.size W W') : ∀ {ts : List TypeId} {vs : List Value} {ds : List (DataW H)} {ps : List MemPlace},
   (ts.all fun t => P.readableRec t && decide (t < P.types.size)) = true → DataW.TrodAll enc P W 0 (fun _ => true) true ts vs ds ps → (∀ x ∈ ps, x.block < W.heap.size) →
   DataW.TrodAll enc P W' 0 (fun b => decide (b < W.heap.size)) true ts vs ds ps
 | [], vs, ds, ps, _, h, _ => by
   cases vs <;> cases ds <;> simp_all [DataW.TrodAll]
 | t :: ts, vs, ds, ps, ht, h, hlt => by
   obtain ⟨v, vs', d, ds', p, q, rfl, rfl, rfl, h1, h2⟩ := trodAll_cons h
   simp only [List.all_cons, Bool.and_eq_true, decide_eq_true_eq] at ht
   exact ⟨p, q, Below.trod hl ht.1.1 ht.1.2 h1 hb (fun x hx => hlt x (by simp [hx])), trodAll_below hl hb ht.2 h2 (fun x hx => hlt x (by simp [hx])), rfl⟩
theorem post_true (hl : laidOutB P = true) {f : Func} {s : ChangeSpec} {apart : Bool} {W W' : World} {args : Array Value} {ds : List (DataW H)} {before : List MemPlace}
   (hW : DataW.Whole enc P f.params.toList s.vars apart W args.toList ds [] before) (hb : Below W.heap.size W W') {bt : TypeId} (hbt : P.underlying bt = some .bool) (hr : f.resultTypes = #[bt])
   (hvars : s.vars = []) (hres : (s.fn H (ds ++ [])).results = [.lit (.bool true)]) (hargs : (s.fn H (ds ++ [])).args = ds) (hvs : (s.fn H (ds ++ [])).vars = [])
   (hp : (f.params.toList.all fun t => P.readableRec t && decide (t < P.types.size)) = true) :
   s.post enc P f apart true false false W args (.bool true) W' := by
 have hW' := hW
 obtain ⟨p, q, hA, hV, hpq, _, _⟩ := hW
 rw [hvars] at hV
 obtain ⟨_, rfl⟩ := trodVars_none hV
 rw [List.append_nil] at hpq
 subst hpq
 refine ⟨ds, [], before, [], before, [], hW', ?_, ?_, ?_, hb.frame _, fun h => by cases h⟩
 · rw [hres, hr]
   exact trodAll_mk1 (shut_bool hbt true)
 · rw [hargs]
   exact trodAll_below hl hb hp hA (fun x hx => by simpa using hW'.lt x hx)
 · rw [hvars, hvs]; rfl
end
end Go.Sx

namespace Go.Sx
open Go.RowKit Go.ChangeShapes Go.WideShapes Go.ChangeAt
end Go.Sx

namespace Go.Sx
open Go.RowKit Go.ChangeShapes Go.WideShapes Go.ChangeAt
section
variable {H : Type} {enc : TypeId × Value → H} {P : Program} {W : World} {r : Reach} {b0 : Nat}
def IntsAt (W : World) (a : Option Addr) (cap n : Nat) (g : Nat → Int) : Prop := match a with
 | none => n = 0 ∧ cap = 0
 | some a => (cap ≤ maxLen ∧ (a.spot = none ∨ n = 0 ∧ cap = 0)) ∧ ∀ j, j < n → W.cell? ⟨a.block, a.off + j, none⟩ = some (.int .i64 (g j))
theorem addr_add (a : Addr) (n : Nat) (h : a.spot = none) : a.add n = ⟨a.block, a.off + n, none⟩ := by
 obtain ⟨b, o, s⟩ := a
 simp only at h
 subst h
 exact Addr.add_lit ..
theorem open_pts {t e : TypeId} {f0 f1 : Field} (ht : P.underlying t = some (.slice e)) (he : P.underlying e = some (.struct #[f0, f1])) (ce : P.cellsOf e = 2) (o0 : f0.offset = 0) (o1 : f1.offset = 1)
   (c0 : P.cellsOf f0.type = 1) (c1 : P.cellsOf f1.type = 1) (u0 : P.underlying f0.type = some (.int .i64)) (u1 : P.underlying f1.type = some (.int .i64)) {v : Value} {d : DataW H} {ps : List MemPlace}
   (hv : Value.okWide P W r b0 t v) (hd : DataW.Trod enc P W 0 (fun _ => true) true t v d ps) : ∃ a len cap g, v = .slice a len cap ∧ cap ≤ maxLen ∧ IntsAt W a cap (2 * len) g := by
 obtain ⟨fuel, hf⟩ := hd
 have hok : Cell.okWide P W r b0 t v := by
   unfold Value.okWide at hv
   rw [ht] at hv
   exact hv
 have hvs : v.cells.toList = [v] ∨ ∃ cs, v = .agg cs := by
   cases v <;> first | exact .inr ⟨_, rfl⟩ | exact .inl rfl
 have hvc : v.cells.toList = [v] := by
   rcases hvs with h | ⟨cs, rfl⟩
   · exact h
   · unfold Cell.okWide Cell.ok at hok
     rw [ht] at hok
     exact hok.elim
 rw [hvc] at hf
 rcases Go.Deep.open_slice ht hf with ⟨hcs, _⟩ | ⟨a, len, cap, m, n, D, Pl, hcs, _, hl, hm, hmm, _, hx⟩
 · simp only [List.cons.injEq, and_true] at hcs
   subst hcs
   exact ⟨none, 0, 0, fun _ => 0, rfl, by decide, rfl, rfl⟩
 · simp only [List.cons.injEq, and_true] at hcs
   subst hcs
   have hspot : a.spot = none := by
     unfold Cell.okWide Cell.ok at hok
     rw [ht] at hok
     exact hok.2.2.2.1
   have hcells : ∀ i, i < len → ∃ x y : Int, W.cell? ⟨a.block, a.off + 2 * i, none⟩ = some (.int .i64 x) ∧ W.cell? ⟨a.block, a.off + (2 * i + 1), none⟩ = some (.int .i64 y) := by
     intro i hi
     have hlm : len ≤ m := by rw [hmm]; simpa using hl
     obtain ⟨cs', h1, h2⟩ := hx i (by omega)
     rw [ce] at h1
     obtain ⟨_, hlen, hcell⟩ := World.cells?_some h1
     obtain ⟨xs, k, _, _, _, hxl, hfs⟩ := DataW.trod_struct he h2
     match xs, hxl, cs', hlen with
     | [y0, y1], _, [v0, v1], _ =>
       have g0 := hfs 0 f0 rfl
       have g1 := hfs 1 f1 rfl
       simp [o0, o1, c0, c1] at g0 g1
       have e0 := hcell 0 (by omega)
       have e1 := hcell 1 (by omega)
       obtain ⟨x, hx', _⟩ := DataW.trod_int u0 g0
       obtain ⟨y, hy', _⟩ := DataW.trod_int u1 g1
       simp only [List.cons.injEq, and_true] at hx' hy'
       subst hx' hy'
       refine ⟨x, y, ?_, ?_⟩
       · rw [← show (a.add (i * 2)).add 0 = (⟨a.block, a.off + 2 * i, none⟩ : Addr) by rw [addr_add a _ hspot]; show Addr.mk _ _ _ = _; congr 1; simp; omega]
         simpa using e0
       · rw [← show (a.add (i * 2)).add 1 = (⟨a.block, a.off + (2 * i + 1), none⟩ : Addr) by rw [addr_add a _ hspot]; show Addr.mk _ _ _ = _; congr 1; simp; omega]
         simpa using e1
   obtain ⟨q, hq⟩ : ∃ q : Nat → Int × Int, ∀ i, i < len → W.cell? ⟨a.block, a.off + 2 * i, none⟩ = some (.int .i64 (q i).1) ∧ W.cell? ⟨a.block, a.off + (2 * i + 1), none⟩ = some (.int .i64 (q i).2) := by
     refine ⟨fun i => if h : i < len then ((hcells i h).choose, (hcells i h).choose_spec.choose) else (0, 0), fun i hi => ?_⟩
     simp only [hi, dif_pos]
     exact (hcells i hi).choose_spec.choose_spec
   refine ⟨some a, len, cap, fun j => if j % 2 = 0 then (q (j / 2)).1 else (q (j / 2)).2, rfl, hm, ⟨hm, .inl hspot⟩, fun j hj => ?_⟩
   have h2 := hq (j / 2) (by omega)
   by_cases hp : j % 2 = 0
   · have e : j = 2 * (j / 2) := by omega
     simp only [hp, if_pos]
     rw [← h2.1]
     congr 2
     omega
   · simp only [hp, if_false]
     rw [← h2.2]
     congr 2
     omega
end
section
variable {P : Program} {W : World}
theorem hsat_ro {k : Nat} {H : Heap} {ρ : Rho} (hk : ∀ n o, look H n = some o → n < k ∧ o.rw = false ∧ o.c.bd (· < k) ∧ OSat W ρ o (ρ n)) : HSat W (· < W.heap.size) (· < k) H ρ W where
 os := rfl
 tape := rfl
 output := rfl
 size := Nat.le_refl _
 frlt := fun _ h => h
 frame := fun _ _ => rfl
 used := fun n o h => (hk n o h).1
 bd := fun n o h => (hk n o h).2.2.1
 obj := fun n o h => (hk n o h).2.2.2
 inj := fun n _ o _ _ _ h _ _ hr => by rw [(hk n o h).2.1] at hr; cases hr
 free := fun n o _ h hr => by rw [(hk n o h).2.1] at hr; cases hr
theorem HSat.toBelow {U : Nm → Prop} {H : Heap} {ρ : Rho} {W' : World} (h : HSat W (· < W.heap.size) U H ρ W') : Below W.heap.size W W' :=
 ⟨h.os, h.tape, h.output, h.size, fun k hk => h.frame k hk⟩
theorem calls_of_con {f k : Nat} {C : Con} {fn : Func} (h : ConOk P f C) (hf : P.funcs[f]? = some fn) (hb : fn.body.isNone = false) (hnm : (fn.name == "runtime.NumGoroutine") = false)
   {args : List SV} {H : Heap} {ρ : Rho} {e : Eff} (hk : ∀ n o, look H n = some o → n < k ∧ o.rw = false ∧ o.c.bd (· < k) ∧ OSat W ρ o (ρ n)) (ha : bdL (· < k) args)
   (hc : C args (look H) k = some e) (ho : okP e.obl) (hv : e.val = some .tt) :
   Calls P f (denL ρ args).toArray W fun en w' => en = .returned (.bool true) ∧ Below W.heap.size W w' := by
 have := h.calls (hsat_ro hk) ha (fun j _ (h : k + j < k) => absurd h (by omega)) hc ho
 rcases this with ⟨_, h1⟩ | ⟨v', w', h1, _⟩
 · refine h1.mono ?_
   rintro en w' ⟨ρ', _, h2, v, h3, _, rfl⟩
   rw [hv] at h3
   simp only [Option.some.injEq] at h3
   subst h3
   exact ⟨rfl, h2.toBelow⟩
 · simp only [callFunc, Sem.run_bind, run_program, Result.andThen_ok, hf, hnm, hb, Bool.false_eq_true, if_false, Sem.run_pure] at h1
   cases h1
end
def rhoOf (a : Option Addr) (cap : Nat) : Option (Nat × Nat × Nat) := a.map fun a => (a.block, a.off, match a.spot with
 | none => cap
 | some k => maxLen + 1 + k)
theorem osat_ints {W : World} {ρ : Rho} {a : Option Addr} {cap n e : Nat} {g : Nat → Int} (h : IntsAt W a cap n g) : OSat W ρ ⟨false, e, .ints .i64 n g, 0⟩ (rhoOf a cap) := by
 cases a with
 | none => exact h.1
 | some a =>
   refine ⟨fun i hi => h.2 i hi, (nomatch ·), fun hn => ?_⟩
   have hn' : 0 < n := hn
   rcases h.1.2 with h1 | h1
   · rw [h1]; exact h.1.1
   · omega
theorem den_slcc {ρ : Rho} {n : Nm} {a : Option Addr} {cap len m : Nat} {W : World} {g : Nat → Int} (hρ : ρ n = rhoOf a cap) (h : IntsAt W a cap m g) : (SV.slcc n len).den ρ = .slice a len cap := by
 show Value.slice (ρ.addrC n) len (ρ.cap n) = _
 unfold Rho.addrC Rho.cap
 rw [hρ]
 cases a with
 | none => simp [rhoOf, h.2]
 | some a =>
   obtain ⟨b, o, s⟩ := a
   obtain ⟨⟨h1, h2⟩, _⟩ := h
   cases s with
   | none => simp [rhoOf, Rho.sp_le h1, Rho.cp_le h1]
   | some k =>
     have : cap = 0 := by rcases h2 with h2 | h2; · cases h2
                          · exact h2.2
     subst this
     have hk : ¬ maxLen + 1 + k ≤ maxLen := by omega
     simp [rhoOf, Rho.sp, Rho.cp, hk]
end Go.Sx

namespace Go.Sx
open Go.RowKit Go.ChangeShapes Go.WideShapes Go.ChangeAt
section
variable {H : Type} {enc : TypeId × Value → H} {P : Program} {W : World} {r : Reach} {b0 : Nat}
theorem open_ptsC {t e : TypeId} {f0 f1 : Field} (ht : P.underlying t = some (.slice e)) (he : P.underlying e = some (.struct #[f0, f1])) (ce : P.cellsOf e = 2) (o0 : f0.offset = 0) (o1 : f1.offset = 1)
   (c0 : P.cellsOf f0.type = 1) (c1 : P.cellsOf f1.type = 1) (u0 : P.underlying f0.type = some (.int .i64)) (u1 : P.underlying f1.type = some (.int .i64)) {v : Value}
   {n0 : Nat} {x0 : DataW H × List MemPlace} (hf : DataW.trod enc P W 0 (fun _ => true) true n0 t [v] = some x0) : ∃ a len cap g, v = .slice a len cap ∧ cap ≤ maxLen ∧ IntsAt W a cap (2 * len) g := by
 rcases Go.Deep.open_slice ht hf with ⟨hcs, _⟩ | ⟨a, len, cap, m, n, D, Pl, hcs, _, hl, hm, hmm, _, hx⟩
 · simp only [List.cons.injEq, and_true] at hcs
   subst hcs
   exact ⟨none, 0, 0, fun _ => 0, rfl, by decide, rfl, rfl⟩
 · simp only [List.cons.injEq, and_true] at hcs
   subst hcs
   by_cases hc0 : cap = 0
   · subst hc0
     have : len = 0 := by omega
     subst this
     exact ⟨some a, 0, 0, fun _ => 0, rfl, by decide, ⟨by decide, .inr ⟨rfl, rfl⟩⟩, fun j hj => by omega⟩
   have hm0 : 0 < m := by rw [hmm]; simp; omega
   have hspot : a.spot = none := by
     obtain ⟨cs', h1, _⟩ := hx 0 hm0
     rw [ce] at h1
     obtain ⟨_, hlen, hcell⟩ := World.cells?_some h1
     have := hcell 0 (by omega)
     have h2 : W.cell? a = cs'[0]? := by simpa [Addr.add] using this
     match cs', hlen with
     | [v0, v1], _ => exact World.cell?_spot (by simpa using h2)
   have hcells : ∀ i, i < len → ∃ x y : Int, W.cell? ⟨a.block, a.off + 2 * i, none⟩ = some (.int .i64 x) ∧ W.cell? ⟨a.block, a.off + (2 * i + 1), none⟩ = some (.int .i64 y) := by
     intro i hi
     have hlm : len ≤ m := by rw [hmm]; simpa using hl
     obtain ⟨cs', h1, h2⟩ := hx i (by omega)
     rw [ce] at h1
     obtain ⟨_, hlen, hcell⟩ := World.cells?_some h1
     obtain ⟨xs, k, _, _, _, hxl, hfs⟩ := DataW.trod_struct he h2
     match xs, hxl, cs', hlen with
     | [y0, y1], _, [v0, v1], _ =>
       have g0 := hfs 0 f0 rfl
       have g1 := hfs 1 f1 rfl
       simp [o0, o1, c0, c1] at g0 g1
       have e0 := hcell 0 (by omega)
       have e1 := hcell 1 (by omega)
       obtain ⟨x, hx', _⟩ := DataW.trod_int u0 g0
       obtain ⟨y, hy', _⟩ := DataW.trod_int u1 g1
       simp only [List.cons.injEq, and_true] at hx' hy'
       subst hx' hy'
       refine ⟨x, y, ?_, ?_⟩
       · rw [← show (a.add (i * 2)).add 0 = (⟨a.block, a.off + 2 * i, none⟩ : Addr) by rw [addr_add a _ hspot]; show Addr.mk _ _ _ = _; congr 1; simp; omega]
         simpa using e0
       · rw [← show (a.add (i * 2)).add 1 = (⟨a.block, a.off + (2 * i + 1), none⟩ : Addr) by rw [addr_add a _ hspot]; show Addr.mk _ _ _ = _; congr 1; simp; omega]
         simpa using e1
   obtain ⟨q, hq⟩ : ∃ q : Nat → Int × Int, ∀ i, i < len → W.cell? ⟨a.block, a.off + 2 * i, none⟩ = some (.int .i64 (q i).1) ∧ W.cell? ⟨a.block, a.off + (2 * i + 1), none⟩ = some (.int .i64 (q i).2) := by
     refine ⟨fun i => if h : i < len then ((hcells i h).choose, (hcells i h).choose_spec.choose) else (0, 0), fun i hi => ?_⟩
     simp only [hi, dif_pos]
     exact (hcells i hi).choose_spec.choose_spec
   refine ⟨some a, len, cap, fun j => if j % 2 = 0 then (q (j / 2)).1 else (q (j / 2)).2, rfl, hm, ⟨hm, .inl hspot⟩, fun j hj => ?_⟩
   have h2 := hq (j / 2) (by omega)
   by_cases hp : j % 2 = 0
   · have e : j = 2 * (j / 2) := by omega
     simp only [hp, if_pos]
     rw [← h2.1]
     congr 2
     omega
   · simp only [hp, if_false]
     rw [← h2.2]
     congr 2
     omega
def HolesAt (W : World) (a : Option Addr) (cap k : Nat) (ha : Nat → Option Addr) (hl hc : Nat → Nat) (hg : Nat → Nat → Int) : Prop := match a with
 | none => k = 0 ∧ cap = 0
 | some a => (cap ≤ maxLen ∧ a.spot = none) ∧ ∀ i, i < k → W.cell? ⟨a.block, a.off + i, none⟩ = some (.slice (ha i) (hl i) (hc i)) ∧ IntsAt W (ha i) (hc i) (2 * hl i) (hg i)
theorem spot_of_cell {u e : TypeId} (hu : P.underlying u = some (.slice e)) {a : Addr} {len cap : Nat} (h : Cell.okWide P W r b0 u (.slice (some a) len cap)) : a.spot = none := by
 unfold Cell.okWide at h
 rw [hu] at h
 unfold Cell.ok at h
 rw [hu] at h
 exact h.2.2.2.1
theorem open_holes {t68 t e : TypeId} {f0 f1 : Field} (h68 : P.underlying t68 = some (.slice t)) (c26 : P.cellsOf t = 1) (ht : P.underlying t = some (.slice e)) (he : P.underlying e = some (.struct #[f0, f1])) (ce : P.cellsOf e = 2) (o0 : f0.offset = 0) (o1 : f1.offset = 1)
   (c0 : P.cellsOf f0.type = 1) (c1 : P.cellsOf f1.type = 1) (u0 : P.underlying f0.type = some (.int .i64)) (u1 : P.underlying f1.type = some (.int .i64)) {v : Value}
   {n0 : Nat} {x0 : DataW H × List MemPlace} (hf : DataW.trod enc P W 0 (fun _ => true) true n0 t68 [v] = some x0) (hok : Cell.okWide P W r b0 t68 v) :
   ∃ a k cap ha hl hc hg, v = .slice a k cap ∧ HolesAt W a cap k ha hl hc hg := by
 rcases Go.Deep.open_slice1 h68 c26 hf with ⟨hcs, _⟩ | ⟨a, len, cap, m, n, V, D, Pl, hcs, _, hl, hm, hmm, _, hx⟩
 · simp only [List.cons.injEq, and_true] at hcs
   subst hcs
   exact ⟨none, 0, 0, fun _ => none, fun _ => 0, fun _ => 0, fun _ _ => 0, rfl, rfl, rfl⟩
 · simp only [List.cons.injEq, and_true] at hcs
   subst hcs
   have hspot := spot_of_cell h68 hok
   have key : ∀ i, ∃ q : Option Addr × Nat × Nat × (Nat → Int), i < len → V i = .slice q.1 q.2.1 q.2.2.1 ∧ IntsAt W q.1 q.2.2.1 (2 * q.2.1) q.2.2.2 := by
     intro i
     by_cases hi : i < len
     · obtain ⟨_, h2⟩ := hx i (by rw [hmm]; simp; omega)
       obtain ⟨a', l', c', g', h3, _, h4⟩ := open_ptsC ht he ce o0 o1 c0 c1 u0 u1 h2
       exact ⟨(a', l', c', g'), fun _ => ⟨h3, h4⟩⟩
     · exact ⟨(none, 0, 0, fun _ => 0), fun h => absurd h hi⟩
   obtain ⟨q, hq⟩ : ∃ q : Nat → Option Addr × Nat × Nat × (Nat → Int), ∀ i, i < len → V i = .slice (q i).1 (q i).2.1 (q i).2.2.1 ∧ IntsAt W (q i).1 (q i).2.2.1 (2 * (q i).2.1) (q i).2.2.2 :=
     ⟨fun i => (key i).choose, fun i hi => (key i).choose_spec hi⟩
   refine ⟨some a, len, cap, fun i => (q i).1, fun i => (q i).2.1, fun i => (q i).2.2.1, fun i => (q i).2.2.2, rfl, ⟨hm, hspot⟩, fun i hi => ⟨?_, (hq i hi).2⟩⟩
   obtain ⟨h1, _⟩ := hx i (by rw [hmm]; simp; omega)
   rw [(hq i hi).1, addr_add a _ hspot] at h1
   exact h1
theorem open_poly {t70 t68 t e : TypeId} {p0 p1 f0 f1 : Field} (h70 : P.underlying t70 = some (.struct #[p0, p1])) (hct : P.cellTypes P.depth t70 = some [t, t68]) (c70 : P.cellsOf t70 = 2) (p0o : p0.offset = 0) (p1o : p1.offset = 1) (p0t : p0.type = t) (p1t : p1.type = t68)
   (h68 : P.underlying t68 = some (.slice t)) (c26 : P.cellsOf t = 1) (c68 : P.cellsOf t68 = 1) (ht : P.underlying t = some (.slice e)) (he : P.underlying e = some (.struct #[f0, f1])) (ce : P.cellsOf e = 2) (o0 : f0.offset = 0) (o1 : f1.offset = 1)
   (c0 : P.cellsOf f0.type = 1) (c1 : P.cellsOf f1.type = 1) (u0 : P.underlying f0.type = some (.int .i64)) (u1 : P.underlying f1.type = some (.int .i64)) {v : Value} {d : DataW H} {ps : List MemPlace}
   (hv : Value.okWide P W r b0 t70 v) (hd : DataW.Trod enc P W 0 (fun _ => true) true t70 v d ps) :
   ∃ a len cap g ah k kcap ha hl hc hg, v = .agg #[.slice a len cap, .slice ah k kcap] ∧ IntsAt W a cap (2 * len) g ∧ HolesAt W ah kcap k ha hl hc hg := by
 have key : ∃ cs, v = .agg cs ∧ cs.size = P.cellsOf t70 ∧ Row.okWide P W r b0 t70 cs := by
   unfold Value.okWide at hv
   rw [h70] at hv; exact hv
 obtain ⟨cs, rfl, hsz, ts', hts', _, hcell⟩ := key
 rw [hct] at hts'
 simp only [Option.some.injEq] at hts'
 subst hts'
 rw [c70] at hsz
 obtain ⟨fuel, hf⟩ := hd
 obtain ⟨cl⟩ := cs
 match cl, hsz with
 | [x0, x1], _ =>
   obtain ⟨y0, y1, n, _, _, g0, g1⟩ := trod_struct2 h70 hf
   subst p0t p1t
   have g0' : DataW.trod enc P W 0 (fun _ => true) true n p0.type [x0] = some y0 := by simpa [p0o, c26, Value.cells] using g0
   have g1' : DataW.trod enc P W 0 (fun _ => true) true n p1.type [x1] = some y1 := by simpa [p1o, c68, Value.cells] using g1
   obtain ⟨u, hu, hok⟩ := hcell 1 x1 rfl
   simp only [List.length_cons, List.length_nil, Nat.reduceAdd, Nat.reduceMod, List.getElem?_cons_succ, List.getElem?_cons_zero, Option.some.injEq] at hu
   subst hu
   obtain ⟨a, len, cap, g, rfl, _, hI⟩ := open_ptsC ht he ce o0 o1 c0 c1 u0 u1 g0'
   obtain ⟨ah, k, kcap, ha, hl, hc, hg, rfl, hH⟩ := open_holes h68 c26 ht he ce o0 o1 c0 c1 u0 u1 g1' hok
   exact ⟨a, len, cap, g, ah, k, kcap, ha, hl, hc, hg, rfl, hI, hH⟩
end
def HK (W : World) (ρ : Rho) (K : Nat) (L : Heap) : Prop := ∀ n o, look L n = some o → n < K ∧ o.rw = false ∧ o.c.bd (· < K) ∧ OSat W ρ o (ρ n)
theorem HK.nil {W : World} {ρ : Rho} {K : Nat} : HK W ρ K [] := fun _ _ h => by cases h
theorem HK.cons {W : World} {ρ : Rho} {K n : Nat} {o : Ob} {L : Heap} (h1 : n < K) (h2 : o.rw = false) (h3 : o.c.bd (· < K)) (h4 : OSat W ρ o (ρ n)) (h : HK W ρ K L) : HK W ρ K ((n, o) :: L) := fun m o' hm => by
 rw [look_cons] at hm
 split at hm
 · rename_i e; subst e; cases hm; exact ⟨h1, h2, h3, h4⟩
 · exact h m o' hm
section
variable {W : World} {ρ : Rho} {K b : Nat} {a : Option Addr} {cap k : Nat} {ha : Nat → Option Addr} {hl hc : Nat → Nat} {hg : Nat → Nat → Int}
theorem HolesAt.hole (h : HolesAt W a cap k ha hl hc hg) {i : Nat} (hi : i < k) : IntsAt W (ha i) (hc i) (2 * hl i) (hg i) := by
 cases a with
 | none => have := h.1; omega
 | some a => exact (h.2 i hi).2
theorem HolesAt.gen (h : HolesAt W a cap k ha hl hc hg) : OSat W ρ ⟨false, 26, .gen k fun i => .sla (ha i) (hl i) (hc i), 0⟩ (rhoOf a cap) := by
 cases a with
 | none => exact h.1
 | some a =>
   obtain ⟨⟨h1, h2⟩, h3⟩ := h
   refine ⟨fun i hi => (h3 i hi).1, (nomatch ·), fun _ => ?_⟩
   rw [h2]; exact h1
theorem HolesAt.den (h : HolesAt W a cap k ha hl hc hg) {n : Nm} (hρ : ρ n = rhoOf a cap) : (SV.slcc n k).den ρ = .slice a k cap := by
 cases a with
 | none =>
   obtain ⟨rfl, rfl⟩ := h
   simp [SV.den, Rho.addrC, Rho.cap, hρ, rhoOf]
 | some a =>
   obtain ⟨⟨h1, h2⟩, _⟩ := h
   obtain ⟨b, o, s⟩ := a
   simp only at h2
   subst h2
   simp [SV.den, Rho.addrC, Rho.cap, hρ, rhoOf, Rho.sp_le h1, Rho.cp_le h1]
end
end Go.Sx

namespace Go.Sx
open Go.RowKit
def rhoL (L : List (Option (Nat × Nat × Nat))) : Rho := fun n => L.getD n none
def hL (k : Nat) (hl : Nat → Nat) (i : Nat) : Nat := if i < k then hl i else 0
def hR (k : Nat) (ha : Nat → Option Addr) (hc : Nat → Nat) (i : Nat) : Option (Nat × Nat × Nat) := if i < k then rhoOf (ha i) (hc i) else none
section
variable {W : World} {ρ : Rho} {b : Nat} {a : Option Addr} {cap k : Nat} {ha : Nat → Option Addr} {hl hc : Nat → Nat} {hg : Nat → Nat → Int}
theorem HolesAt.hole4 (h : HolesAt W a cap k ha hl hc hg) (i : Nat) : OSat W ρ ⟨false, 28, .ints .i64 (2 * hL k hl i) (hg i), 0⟩ (hR k ha hc i) := by
 unfold hL hR
 split
 · rename_i hi
   exact osat_ints (h.hole hi)
 · show 2 * 0 = 0
   rfl
theorem HolesAt.upto (h : HolesAt W a cap k ha hl hc hg) (hk : k ≤ 4) (hρ : ∀ i : Nat, i < 4 → ρ (b + 1 + i) = hR k ha hc i) :
   OSat W ρ ⟨false, 26, .upto k [.slcc (b + 1 + 0) (hL k hl 0), .slcc (b + 1 + 1) (hL k hl 1), .slcc (b + 1 + 2) (hL k hl 2), .slcc (b + 1 + 3) (hL k hl 3)], 0⟩ (rhoOf a cap) := by
 cases a with
 | none => exact h.1
 | some a =>
   obtain ⟨⟨h1, h2⟩, h3⟩ := h
   refine ⟨fun i hi => ?_, (nomatch ·), fun _ => by rw [h2]; exact h1⟩
   have hi' : i < k := hi
   have hρ' := hρ i (by omega)
   have hR' : hR k ha hc i = rhoOf (ha i) (hc i) := if_pos hi'
   have hL' : hL k hl i = hl i := if_pos hi'
   have e : (Cont.upto k [.slcc (b + 1 + 0) (hL k hl 0), .slcc (b + 1 + 1) (hL k hl 1), .slcc (b + 1 + 2) (hL k hl 2), .slcc (b + 1 + 3) (hL k hl 3)]).at i = .slcc (b + 1 + i) (hL k hl i) := by
     have : i = 0 ∨ i = 1 ∨ i = 2 ∨ i = 3 := by omega
     rcases this with rfl | rfl | rfl | rfl <;> rfl
   show W.cell? ⟨a.block, a.off + i, none⟩ = some ((Cont.at _ i).den ρ)
   rw [e, hL', den_slcc (by rw [hρ', hR']) (h3 i hi').2]
   exact (h3 i hi').1
end
end Go.Sx
