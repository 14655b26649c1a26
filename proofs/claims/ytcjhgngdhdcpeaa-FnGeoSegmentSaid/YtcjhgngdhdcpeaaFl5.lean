/- Comparisons of floats, as the walk has them, by their values. -/
import Derived.Test.YtcjhgngdhdcpeaaFl4
import Derived.Test.YtcjhgngdhdcpeaaSx4
namespace Go.Fl
open Go.Sx Ieee

def infw : Nat := 9218868437227405312

theorem fin_order {x y : Nat} (hx : Fin x) (hy : Fin y) : FloatKind.f64.format.order x y = some (compare (V x) (V y)) := order_fin hx hy
theorem fin_zero : Fin 0 := ⟨by decide, by decide⟩
theorem V_zero : V 0 = 0 := by decide
theorem read_inf : Ieee.Format.read Ieee.double infw = .infinity false := by decide
theorem order_inf {x : Nat} (hx : Fin x) : FloatKind.f64.format.order x infw = some .lt := by
  obtain ⟨s, m, i, h1, _⟩ := read_fin hx
  show (Ieee.Format.read Ieee.double x).order (Ieee.Format.read Ieee.double infw) = _
  rw [h1, read_inf]; rfl
theorem inf_order {x : Nat} (hx : Fin x) : FloatKind.f64.format.order infw x = some .gt := by
  obtain ⟨s, m, i, h1, _⟩ := read_fin hx
  show (Ieee.Format.read Ieee.double infw).order (Ieee.Format.read Ieee.double x) = _
  rw [h1, read_inf]; rfl
theorem fne_self {x : Nat} (hx : Fin x) : fNe .f64 x x = false := by
  unfold fNe; rw [fin_order hx hx, cmp_int]; simp
theorem feq_inf {x : Nat} (hx : Fin x) : fEq .f64 x infw = false := by
  unfold fEq; rw [order_inf hx]; rfl
theorem fgt_inf {x : Nat} (hx : Fin x) : fGt .f64 infw x = true := by
  unfold fGt; rw [inf_order hx]; rfl

/-- Comparisons of numbers. -/
theorem feq_V {x y : Nat} (hx : Fin x) (hy : Fin y) : fEq .f64 x y = decide (V x = V y) := by
  unfold fEq; rw [fin_order hx hy, cmp_int]
  split
  · rename_i h; rw [decide_eq_false (by omega)]; rfl
  · split
    · rename_i h; rw [decide_eq_true h]; rfl
    · rename_i h; rw [decide_eq_false h]; rfl
theorem flt_V {x y : Nat} (hx : Fin x) (hy : Fin y) : fLt .f64 x y = decide (V x < V y) := by
  unfold fLt; rw [fin_order hx hy, cmp_int]
  split
  · rename_i h; rw [decide_eq_true h]; rfl
  · rename_i h; rw [decide_eq_false h]; split <;> rfl
theorem fle_V {x y : Nat} (hx : Fin x) (hy : Fin y) : fLe .f64 x y = decide (V x ≤ V y) := by
  unfold fLe; rw [fin_order hx hy, cmp_int]
  split
  · rename_i h; rw [decide_eq_true (by omega)]; rfl
  · split
    · rename_i h; rw [decide_eq_true (by omega)]; rfl
    · rename_i h; rw [decide_eq_false (by omega)]; rfl
theorem fgt_V {x y : Nat} (hx : Fin x) (hy : Fin y) : fGt .f64 x y = decide (V y < V x) := by
  unfold fGt; rw [fin_order hx hy, cmp_int]
  split
  · rename_i h; rw [decide_eq_false (by omega)]; rfl
  · split
    · rename_i h; rw [decide_eq_false (by omega)]; rfl
    · rename_i h; rw [decide_eq_true (by omega)]; rfl
theorem fge_V {x y : Nat} (hx : Fin x) (hy : Fin y) : fGe .f64 x y = decide (V y ≤ V x) := by
  unfold fGe; rw [fin_order hx hy, cmp_int]
  split
  · rename_i h; rw [decide_eq_false (by omega)]; rfl
  · split
    · rename_i h; rw [decide_eq_true (by omega)]; rfl
    · rename_i h; rw [decide_eq_true (by omega)]; rfl
theorem feq_zero {x : Nat} (hx : Fin x) : fEq .f64 x 0 = decide (V x = 0) := by rw [feq_V hx fin_zero, V_zero]
theorem fgt_zero {x : Nat} (hx : Fin x) : fGt .f64 x 0 = decide (0 < V x) := by rw [fgt_V hx fin_zero, V_zero]


/-- Comparisons of whole numbers. -/
theorem ord_I {x y : Nat} {a b : Int} (hx : FI x a) (hy : FI y b) : FloatKind.f64.format.order x y = some (compare a b) := hx.order hy
theorem flt_I {x y : Nat} {a b : Int} (hx : FI x a) (hy : FI y b) : fLt .f64 x y = decide (a < b) := by
  unfold fLt; rw [ord_I hx hy, cmp_int]
  split
  · rename_i h; rw [decide_eq_true h]; rfl
  · rename_i h; rw [decide_eq_false h]; split <;> rfl
theorem fgt_I {x y : Nat} {a b : Int} (hx : FI x a) (hy : FI y b) : fGt .f64 x y = decide (b < a) := by
  unfold fGt; rw [ord_I hx hy, cmp_int]
  split
  · rename_i h; rw [decide_eq_false (by omega)]; rfl
  · split
    · rename_i h; rw [decide_eq_false (by omega)]; rfl
    · rename_i h; rw [decide_eq_true (by omega)]; rfl
theorem feq_I {x y : Nat} {a b : Int} (hx : FI x a) (hy : FI y b) : fEq .f64 x y = decide (a = b) := by
  unfold fEq; rw [ord_I hx hy, cmp_int]
  split
  · rename_i h; rw [decide_eq_false (by omega)]; rfl
  · split
    · rename_i h; rw [decide_eq_true h]; rfl
    · rename_i h; rw [decide_eq_false h]; rfl
theorem fle_I {x y : Nat} {a b : Int} (hx : FI x a) (hy : FI y b) : fLe .f64 x y = decide (a ≤ b) := by
  unfold fLe; rw [ord_I hx hy, cmp_int]
  split
  · rename_i h; rw [decide_eq_true (by omega)]; rfl
  · split
    · rename_i h; rw [decide_eq_true (by omega)]; rfl
    · rename_i h; rw [decide_eq_false (by omega)]; rfl
theorem fge_I {x y : Nat} {a b : Int} (hx : FI x a) (hy : FI y b) : fGe .f64 x y = decide (b ≤ a) := by
  unfold fGe; rw [ord_I hx hy, cmp_int]
  split
  · rename_i h; rw [decide_eq_false (by omega)]; rfl
  · split
    · rename_i h; rw [decide_eq_true (by omega)]; rfl
    · rename_i h; rw [decide_eq_true (by omega)]; rfl

end Go.Fl
