/- Slots, types, and the effect of one operation. -/
import Derived.Test.YtcjhgngdhdcpeaaSx2
import Derived.Laws.FloatArith
import Derived.Laws.StructEq
namespace Go.Sx
open Go.RowKit

/-! ### Slots -/
abbrev Slots := List (Nat × SV)

def slot : Slots → Nat → Option SV
  | [], _ => none
  | (m, v) :: r, n => match Nat.beq m n with
    | true => some v
    | false => slot r n

theorem slot_cons (m n : Nat) (v : SV) (r : Slots) : slot ((m, v) :: r) n = if m = n then some v else slot r n := by
  show (match Nat.beq m n with | true => some v | false => slot r n) = _
  cases h : Nat.beq m n
  · have : m ≠ n := fun e => by subst e; simp at h
    simp [this]
  · have : m = n := Nat.eq_of_beq_eq_true h
    simp [this]

structure SSat (U : Nm → Prop) (nt : Nat) (sl : Slots) (ρ : Rho) (a : Act) : Prop where
  nd : a.defers = []
  size : a.tmps.size = nt
  bd : ∀ t v, slot sl t = some v → v.bd U
  val : ∀ t v, slot sl t = some v → a.tmps[t]? = some (v.den ρ)

theorem SSat.mono {U U' : Nm → Prop} {nt : Nat} {sl : Slots} {ρ ρ' : Rho} {a : Act} (h : SSat U nt sl ρ a) (hu : ∀ n, U n → U' n) (hr : ∀ n, U n → ρ' n = ρ n) : SSat U' nt sl ρ' a :=
  { h with
    bd := fun t v hv => SV.bd_mono hu v (h.bd t v hv)
    val := fun t v hv => by rw [SV.den_congr hr v (h.bd t v hv)]; exact h.val t v hv }

theorem SSat.put {U : Nm → Prop} {nt : Nat} {sl : Slots} {ρ : Rho} {a : Act} (h : SSat U nt sl ρ a) {d : Nat} (hd : d < nt) {v : SV} (hv : v.bd U) : SSat U nt ((d, v) :: sl) ρ (a.put (some d) (v.den ρ)) where
  nd := h.nd
  size := by simpa [Act.put] using h.size
  bd := fun t u hu => by
    rw [slot_cons] at hu
    split at hu
    · cases hu; exact hv
    · exact h.bd t u hu
  val := fun t u hu => by
    rw [slot_cons] at hu
    have := h.size
    split at hu
    · rename_i e; subst e; cases hu
      simp only [Act.put]
      rw [Array.getElem?_setIfInBounds_self]
      rw [if_pos (by omega)]
    · rename_i e
      simp only [Act.put]
      rw [Array.getElem?_setIfInBounds, if_neg e]
      exact h.val t u hu

/-- A slot of which nothing is said any more. -/
def drop (d : Nat) : Slots → Slots
  | [] => []
  | (m, v) :: r => match Nat.beq m d with
    | true => drop d r
    | false => (m, v) :: drop d r

theorem slot_drop (d : Nat) : ∀ (sl : Slots) (t : Nat) (v : SV), slot (drop d sl) t = some v → t ≠ d ∧ slot sl t = some v
  | [], t, v, h => by simp [drop, slot] at h
  | (m, u) :: r, t, v, h => by
    unfold drop at h
    rw [slot_cons]
    cases hb : Nat.beq m d
    · rw [hb] at h
      simp only [] at h
      rw [slot_cons] at h
      have hm : m ≠ d := fun e => by subst e; simp at hb
      split at h
      · rename_i e; subst e; exact ⟨hm, by simpa using h⟩
      · rename_i e
        obtain ⟨h1, h2⟩ := slot_drop d r t v h
        exact ⟨h1, by rw [if_neg e]; exact h2⟩
    · rw [hb] at h
      simp only [] at h
      have hm : m = d := Nat.eq_of_beq_eq_true hb
      obtain ⟨h1, h2⟩ := slot_drop d r t v h
      exact ⟨h1, by rw [if_neg (by omega)]; exact h2⟩

theorem SSat.putAny {U : Nm → Prop} {nt : Nat} {sl : Slots} {ρ : Rho} {a : Act} (h : SSat U nt sl ρ a) (d : Nat) (x : Value) : SSat U nt (drop d sl) ρ (a.put (some d) x) where
  nd := h.nd
  size := by simpa [Act.put] using h.size
  bd := fun t u hu => h.bd t u (slot_drop d sl t u hu).2
  val := fun t u hu => by
    obtain ⟨h1, h2⟩ := slot_drop d sl t u hu
    simp only [Act.put]
    rw [Array.getElem?_setIfInBounds, if_neg (fun e => h1 e.symm)]
    exact h.val t u h2

/-! ### Constants -/
def ofV : Value → Option SV
  | .bool true => some .tt
  | .bool false => some .ff
  | .int k n => some (.int k n)
  | .float k n => some (.flt k n)
  | .string s => some (.str s)
  | .pointer none => some .nilp
  | .slice none 0 0 => some .nils
  | .nilIface => some .nili
  | .nilFunc => some .nilf
  | _ => none

theorem ofV_den {v : Value} {s : SV} (h : ofV v = some s) (ρ : Rho) (U : Nm → Prop) : s.den ρ = v ∧ s.bd U := by
  unfold ofV at h
  split at h <;> simp_all <;> subst h <;> simp [SV.den, SV.bd]

def opr (sl : Slots) : Operand → Option SV
  | .tmp t => slot sl t
  | .const v => ofV v
  | .func f => some (.fn (.func f) [] [])
  | .global _ => none

theorem opr_sat {U : Nm → Prop} {nt : Nat} {sl : Slots} {ρ : Rho} {a : Act} (h : SSat U nt sl ρ a) {x : Operand} {v : SV} (hx : opr sl x = some v) : a.eval x = v.den ρ ∧ v.bd U := by
  cases x with
  | tmp t =>
    have h1 := h.val t v hx
    refine ⟨?_, h.bd t v hx⟩
    simp [Act.eval, Array.getD_eq_getD_getElem?, h1]
  | const c => exact ⟨((ofV_den hx ρ U).1).symm, (ofV_den hx ρ U).2⟩
  | func f => simp only [opr, Option.some.injEq] at hx; subst hx; simp [Act.eval, SV.den, denL, SV.bd, bdL]
  | global g => simp [opr] at hx

/-! ### Types -/
inductive TK where
  | bool | int (k : IntKind) | flt (k : FloatKind) | str | ptr (e : Nat) | slice (e : Nat) | array (n e : Nat) | struct (fs : List (Nat × Nat)) | iface | func | other

def tkOf : TypeDesc → TK
  | .bool => .bool
  | .int k => .int k
  | .float k => .flt k
  | .string => .str
  | .pointer e => .ptr e
  | .slice e => .slice e
  | .array n e => .array n e
  | .struct fs => .struct (fs.toList.map fun f => (f.offset, f.type))
  | .interface _ => .iface
  | .func _ _ _ => .func
  | _ => .other

mutual
def SV.closed : SV → Bool
  | .ptr _ _ => false
  | .slc _ _ _ _ => false
  | .slcc _ _ => false
  | .agg cs => closedL cs
  | .tup vs => closedL vs
  | .ifc _ v => v.closed
  | .fn _ a c => closedL a && closedL c
  | _ => true
def closedL : List SV → Bool
  | [] => true
  | v :: r => v.closed && closedL r
end

mutual
theorem SV.bd_closed (U : Nm → Prop) : ∀ v : SV, v.closed = true → v.bd U
  | .ptr _ _ => by simp [SV.closed]
  | .slc _ _ _ _ => by simp [SV.closed]
  | .slcc _ _ => by simp [SV.closed]
  | .agg cs => by simpa [SV.bd, SV.closed] using bdL_closed U cs
  | .tup cs => by simpa [SV.bd, SV.closed] using bdL_closed U cs
  | .ifc _ v => by simpa [SV.bd, SV.closed] using SV.bd_closed U v
  | .fn _ a c => by simpa [SV.bd, SV.closed] using fun h1 h2 => ⟨bdL_closed U a h1, bdL_closed U c h2⟩
  | .tt | .ff | .bool _ | .int _ _ | .flt _ _ | .str _ | .nilp | .nils | .nili | .nilf => by simp [SV.bd]
theorem bdL_closed (U : Nm → Prop) : ∀ l : List SV, closedL l = true → bdL U l
  | [] => by simp [bdL]
  | v :: r => by simpa [bdL, closedL] using fun h1 h2 => ⟨SV.bd_closed U v h1, bdL_closed U r h2⟩
end

theorem SV.den_closed (ρ ρ' : Rho) {v : SV} (h : v.closed = true) : v.den ρ' = v.den ρ :=
  SV.den_congr (U := fun _ => False) (fun _ h => h.elim) v (SV.bd_closed _ v h)

/-- What a type's row says: its kind, its cells, its bytes, its zero value. -/
structure TI where
  tk : TK
  size : Nat
  bytes : Nat
  zero : Cont

def zvals (c : Cont) : List Value := (List.range c.size).map fun i => (c.at i).den fun _ => none

structure TOk (P : Program) (t : Nat) (ti : TI) : Prop where
  tk : (P.underlying t).map tkOf = some ti.tk
  sz : (P.info? t).map (fun i => (i.size, i.bytes)) = some (ti.size, ti.bytes)
  zero : ((P.info? t).bind (·.zero)).map (fun z => z.cells.toList) = some (zvals ti.zero)
  zsz : ti.zero.size = ti.size
  cl : ∀ i, i < ti.zero.size → (ti.zero.at i).closed = true

def zclosed : Cont → Bool
  | .cells l => closedL l
  | .ints _ _ _ => true
  | .flts _ _ _ => true
  | .gen _ _ => false

theorem TOk.mk' {P : Program} {t : Nat} {ti : TI} (h1 : (P.underlying t).map tkOf = some ti.tk) (h2 : (P.info? t).map (fun i => (i.size, i.bytes)) = some (ti.size, ti.bytes))
    (h3 : ((P.info? t).bind (·.zero)).map (fun z => z.cells.toList) = some (zvals ti.zero)) (h4 : ti.zero.size = ti.size) (h5 : zclosed ti.zero = true) : TOk P t ti :=
  ⟨h1, h2, h3, h4, fun i hi => by
    cases hz : ti.zero with
    | cells l =>
      rw [hz] at h5 hi
      clear h1 h2 h3 h4 hz
      simp only [zclosed] at h5
      simp only [Cont.at]
      induction l generalizing i with
      | nil => simp [Cont.size] at hi
      | cons x r ih =>
        simp only [closedL, Bool.and_eq_true] at h5
        cases i with
        | zero => simpa [getL] using h5.1
        | succ i => simpa [getL] using ih i (by simpa [Cont.size] using hi) h5.2
    | ints k n g => rfl
    | flts k n g => rfl
    | gen n f => rw [hz] at h5; simp [zclosed] at h5⟩

abbrev Tys := List (Nat × TI)
def ty : Tys → Nat → Option TI
  | [], _ => none
  | (m, v) :: r, n => match Nat.beq m n with
    | true => some v
    | false => ty r n

def TysOk (P : Program) (T : Tys) : Prop := ∀ t ti, ty T t = some ti → TOk P t ti

theorem TysOk.nil {P : Program} : TysOk P [] := fun _ _ h => by simp [ty] at h
theorem TysOk.cons {P : Program} {t : Nat} {ti : TI} {T : Tys} (h1 : TOk P t ti) (h2 : TysOk P T) : TysOk P ((t, ti) :: T) := fun u ui h => by
  simp only [ty] at h
  cases hb : Nat.beq t u
  · rw [hb] at h; exact h2 u ui h
  · rw [hb] at h
    have : t = u := Nat.eq_of_beq_eq_true hb
    subst this
    simp only [Option.some.injEq] at h
    subst h
    exact h1

section
variable {P : Program} {t : Nat} {ti : TI} (h : TOk P t ti) (w : World)
include h

theorem TOk.desc : ∃ d, P.underlying t = some d ∧ tkOf d = ti.tk := by
  have := h.tk
  simpa [Option.map_eq_some_iff] using this

theorem TOk.run_size : (sizeOf t).run P w = .ok ti.size w := by
  have := h.sz
  rw [Option.map_eq_some_iff] at this
  obtain ⟨i, hi, he⟩ := this
  injection he with h1 h2
  simp [sizeOf, typeInfo, hi, h1]

theorem TOk.run_info : ∃ i, P.info? t = some i ∧ i.size = ti.size ∧ i.bytes = ti.bytes := by
  have := h.sz
  rw [Option.map_eq_some_iff] at this
  obtain ⟨i, hi, he⟩ := this
  injection he with h1 h2
  exact ⟨i, hi, h1, h2⟩

theorem TOk.run_zero : ∃ z, (zeroValue t).run P w = .ok z w ∧ z.cells.size = ti.zero.size ∧ ∀ ρ i, i < ti.zero.size → z.cells[i]? = some ((ti.zero.at i).den ρ) := by
  have := h.zero
  rw [Option.map_eq_some_iff] at this
  obtain ⟨z, hz, he⟩ := this
  rw [Option.bind_eq_some_iff] at hz
  obtain ⟨i, hi, hz⟩ := hz
  refine ⟨z, by simp [zeroValue, typeInfo, hi, hz], ?_, fun ρ j hj => ?_⟩
  · have := congrArg List.length he
    simpa [zvals] using this
  · have h2 : z.cells.toList[j]? = (zvals ti.zero)[j]? := by rw [he]
    rw [Array.getElem?_toList] at h2
    rw [h2]
    simp [zvals, hj]
    exact SV.den_closed _ _ (h.cl j hj)

theorem TOk.zero_bd (U : Nm → Prop) : ti.zero.bd U := fun i hi => SV.bd_closed U _ (h.cl i hi)

theorem TOk.isAgg : (isAgg t).run P w = .ok (match ti.tk with | .struct _ | .array _ _ => true | _ => false) w := by
  obtain ⟨d, hd, hk⟩ := h.desc
  rw [← hk]
  cases d <;> simp [Go.isAgg, run_underlying hd, tkOf]
end

end Go.Sx
