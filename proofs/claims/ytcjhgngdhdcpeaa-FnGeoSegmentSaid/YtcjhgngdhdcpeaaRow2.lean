/- Arguments that are whole numbers in a row, opened. -/
import Derived.Test.YtcjhgngdhdcpeaaRow1
namespace Go.Sx
open Go.RowKit Go.ChangeShapes Go.WideShapes Go.ChangeAt

section
variable {P : Program} {W : World} {r : Reach} {b0 : Nat}

theorem int_cell {u : TypeId} {v : Value} (hu : P.underlying u = some (.int .i64)) (h : Cell.okWide P W r b0 u v) : ∃ n : Int, v = .int .i64 n := by
  unfold Cell.okWide at h
  rw [hu] at h
  simp only at h
  unfold Cell.ok at h
  rw [hu] at h
  cases v <;> simp only at h
  exact ⟨_, by rw [h.1]⟩

/-- The value of a struct or an array all of whose cells are of the kind int64. -/
theorem open_ints {t : TypeId} {v : Value} {ts : List TypeId} {n : Nat} (ha : (∃ fs, P.underlying t = some (.struct fs)) ∨ (∃ m e, P.underlying t = some (.array m e))) (hc : P.cellTypes P.depth t = some ts)
    (hts : ∀ u ∈ ts, P.underlying u = some (.int .i64)) (hn : P.cellsOf t = n) (hv : Value.okWide P W r b0 t v) : ∃ l : List Int, l.length = n ∧ v = .agg (l.map (Value.int .i64)).toArray := by
  have key : ∃ cs, v = .agg cs ∧ cs.size = P.cellsOf t ∧ Row.okWide P W r b0 t cs := by
    unfold Value.okWide at hv
    rcases ha with ⟨fs, h⟩ | ⟨m, e, h⟩ <;> (rw [h] at hv; exact hv)
  obtain ⟨cs, rfl, hsz, ts', hts', _, hcell⟩ := key
  rw [hc] at hts'
  simp only [Option.some.injEq] at hts'
  subst hts'
  have hall : ∀ v ∈ cs.toList, ∃ n : Int, v = .int .i64 n := by
    intro v hv
    obtain ⟨i, hi, rfl⟩ := List.getElem_of_mem hv
    obtain ⟨u, hu, hok⟩ := hcell i _ (by rw [Array.getElem?_eq_getElem (by simpa using hi)])
    exact int_cell (hts u (List.mem_of_getElem? hu)) hok
  have : ∃ l : List Int, cs.toList = l.map (Value.int .i64) := by
    clear hcell hsz hv
    generalize cs.toList = L at hall
    induction L with
    | nil => exact ⟨[], rfl⟩
    | cons x r ih =>
      obtain ⟨n, rfl⟩ := hall x (by simp)
      obtain ⟨l, hl⟩ := ih (fun v hv => hall v (by simp [hv]))
      exact ⟨n :: l, by simp [hl]⟩
  obtain ⟨l, hl⟩ := this
  refine ⟨l, ?_, ?_⟩
  · have := congrArg List.length hl
    simp at this
    omega
  · rw [← hl]

theorem list2 {α : Type} {l : List α} (h : l.length = 2) : ∃ a b, l = [a, b] := by
  match l, h with
  | [a, b], _ => exact ⟨a, b, rfl⟩
theorem list4 {α : Type} {l : List α} (h : l.length = 4) : ∃ a b c d, l = [a, b, c, d] := by
  match l, h with
  | [a, b, c, d], _ => exact ⟨a, b, c, d, rfl⟩
end
end Go.Sx
