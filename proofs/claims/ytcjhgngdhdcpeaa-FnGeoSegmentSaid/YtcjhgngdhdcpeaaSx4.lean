/- Binary and unary operators, conversions, on symbolic values. -/
import Derived.Test.YtcjhgngdhdcpeaaSx3
namespace Go.Sx
open Go.RowKit

/-- An obligation, or none. -/
def okP : Option Prop → Prop
  | none => True
  | some p => p

def kIx : IntKind → Nat
  | .i8 => 0 | .i16 => 1 | .i32 => 2 | .i64 => 3 | .u8 => 4 | .u16 => 5 | .u32 => 6 | .u64 => 7
def kEq (k k' : IntKind) : Bool := Nat.beq (kIx k) (kIx k')
theorem kEq_eq {k k' : IntKind} (h : kEq k k' = true) : k = k' := by
  have := Nat.eq_of_beq_eq_true h
  cases k <;> cases k' <;> simp_all [kIx]
def fIx : FloatKind → Nat
  | .f32 => 0 | .f64 => 1
def fkEq (k k' : FloatKind) : Bool := Nat.beq (fIx k) (fIx k')
theorem fkEq_eq {k k' : FloatKind} (h : fkEq k k' = true) : k = k' := by
  have := Nat.eq_of_beq_eq_true h
  cases k <;> cases k' <;> simp_all [fIx]

/-- Bits of integers. -/
def ibits (op : BinOp) (k : IntKind) (x y : Int) : Int :=
  let a := BitVec.ofInt k.bits x
  let b := BitVec.ofInt k.bits y
  k.wrap (match op with
    | .and => a &&& b
    | .or => a ||| b
    | .xor => a ^^^ b
    | _ => a &&& ~~~b).toNat

def evInt (op : BinOp) (k : IntKind) (a b : Int) : Option (SV × Option Prop) :=
  match op with
  | .add => some (.int k (k.wrap (a + b)), none)
  | .sub => some (.int k (k.wrap (a - b)), none)
  | .mul => some (.int k (k.wrap (a * b)), none)
  | .quo => some (.int k (k.wrap (a.tdiv b)), some (b ≠ 0))
  | .rem => some (.int k (a.tmod b), some (b ≠ 0))
  | .and => some (.int k (ibits .and k a b), none)
  | .or => some (.int k (ibits .or k a b), none)
  | .xor => some (.int k (ibits .xor k a b), none)
  | .andNot => some (.int k (ibits .andNot k a b), none)
  | .eql => some (.bool (a == b), none)
  | .neq => some (.bool (a != b), none)
  | .lss => some (.bool (decide (a < b)), none)
  | .leq => some (.bool (decide (a ≤ b)), none)
  | .gtr => some (.bool (decide (b < a)), none)
  | .geq => some (.bool (decide (b ≤ a)), none)
  | _ => none

def shl (k : IntKind) (a b : Int) : Int := k.wrap (a * 2 ^ (min b.toNat k.bits))
def shr (k : IntKind) (a b : Int) : Int := a.fdiv (2 ^ (min b.toNat k.bits))

def evShift (op : BinOp) (k : IntKind) (a b : Int) : Option (SV × Option Prop) :=
  match op with
  | .shl => some (.int k (shl k a b), some (0 ≤ b))
  | .shr => some (.int k (shr k a b), some (0 ≤ b))
  | _ => none

/-- The result of a float operation that is valid. -/
def fop (op : BinOp) (k : FloatKind) (x y : Nat) : Nat := (floatBits op k x y).getD 0
def fok (op : BinOp) (k : FloatKind) (x y : Nat) : Prop := (floatBits op k x y).isSome = true
def fEq (k : FloatKind) (x y : Nat) : Bool := k.format.order x y == some .eq
def fNe (k : FloatKind) (x y : Nat) : Bool := k.format.order x y != some .eq
def fLt (k : FloatKind) (x y : Nat) : Bool := k.format.order x y == some .lt
def fLe (k : FloatKind) (x y : Nat) : Bool := k.format.order x y == some .lt || k.format.order x y == some .eq
def fGt (k : FloatKind) (x y : Nat) : Bool := k.format.order x y == some .gt
def fGe (k : FloatKind) (x y : Nat) : Bool := k.format.order x y == some .gt || k.format.order x y == some .eq

def evFlt (op : BinOp) (k : FloatKind) (x y : Nat) : Option (SV × Option Prop) :=
  match op with
  | .add => some (.flt k (fop .add k x y), some (fok .add k x y))
  | .sub => some (.flt k (fop .sub k x y), some (fok .sub k x y))
  | .mul => some (.flt k (fop .mul k x y), some (fok .mul k x y))
  | .quo => some (.flt k (fop .quo k x y), some (fok .quo k x y))
  | .eql => some (.bool (fEq k x y), none)
  | .neq => some (.bool (fNe k x y), none)
  | .lss => some (.bool (fLt k x y), none)
  | .leq => some (.bool (fLe k x y), none)
  | .gtr => some (.bool (fGt k x y), none)
  | .geq => some (.bool (fGe k x y), none)
  | _ => none

def SV.toB : SV → Option Bool
  | .tt => some true
  | .ff => some false
  | .bool b => some b
  | _ => none

theorem SV.toB_den {v : SV} {b : Bool} (h : v.toB = some b) (ρ : Rho) : v.den ρ = .bool b := by
  cases v <;> simp_all [SV.toB, SV.den]

/-- Equality of two values that lie in one cell each (t: the cells' type). -/
def sEq (x y : SV) : Option Bool :=
  match x, y with
  | .int k a, .int k' b => match kEq k k' with | true => some (a == b) | false => none
  | .flt k a, .flt k' b => match fkEq k k' with | true => some (fEq k a b) | false => none
  | _, _ => none

def lEq : List SV → List SV → Option Bool
  | [], [] => some true
  | x :: xs, y :: ys => match sEq x y with
    | some a => match lEq xs ys with
      | some b => some (a && b)
      | none => none
    | none => none
  | _, _ => none

/-- '==' at a type of structs or arrays of numbers is the equality of all cells. -/
def hasK : List Bool → List SV → Bool
  | [], [] => true
  | k :: ks, v :: r => match v with
    | .flt _ _ => k && hasK ks r
    | .int _ _ => !k && hasK ks r
    | _ => false
  | _, _ => false

def FlatEq (P : Program) (t : Nat) (n : List Bool) : Prop :=
  P.eqGuardType P.depth t = false ∧ ∀ (xs ys : List SV) (b : Bool), hasK n xs = true → lEq xs ys = some b → ∀ (ρ : Rho) (w : World),
    (Op.equal t (.agg (denL ρ xs).toArray) (.agg (denL ρ ys).toArray)).run P w = .ok b w

def evStr (op : BinOp) (x y : ByteArray) : Option (SV × Option Prop) :=
  match op with
  | .eql => some (.bool (x.toList == y.toList), none)
  | .neq => some (.bool (!(x.toList == y.toList)), none)
  | .lss => some (.bool (Op.bytesLess x.toList y.toList), none)
  | .add => some (.str (x ++ y), some (((x.size + y.size : Nat) : Int) ≤ IntKind.i64.max))
  | _ => none

/-- The flat types, with their cells. -/
abbrev Flats := List (Nat × List Bool)
def flat : Flats → Nat → Option (List Bool)
  | [], _ => none
  | (m, v) :: r, n => match Nat.beq m n with
    | true => some v
    | false => flat r n
def FlatsOk (P : Program) (F : Flats) : Prop := ∀ t n, flat F t = some n → FlatEq P t n
theorem FlatsOk.nil {P : Program} : FlatsOk P [] := fun _ _ h => by simp [flat] at h
theorem FlatsOk.cons {P : Program} {t : Nat} {n : List Bool} {F : Flats} (h1 : FlatEq P t n) (h2 : FlatsOk P F) : FlatsOk P ((t, n) :: F) := fun u ui h => by
  simp only [flat] at h
  cases hb : Nat.beq t u
  · rw [hb] at h; exact h2 u ui h
  · rw [hb] at h
    have : t = u := Nat.eq_of_beq_eq_true hb
    subst this
    simp only [Option.some.injEq] at h
    subst h
    exact h1

def eqTo (op : BinOp) (b : Bool) : Option (SV × Option Prop) :=
  match op with
  | .eql => some (.bool b, none)
  | .neq => some (.bool (!b), none)
  | _ => none
def eqLit (op : BinOp) (b : Bool) : Option (SV × Option Prop) :=
  match op, b with
  | .eql, true => some (.tt, none)
  | .eql, false => some (.ff, none)
  | .neq, true => some (.ff, none)
  | .neq, false => some (.tt, none)
  | _, _ => none

def isShift : BinOp → Bool
  | .shl | .shr => true
  | _ => false

def isConst : Operand → Bool
  | .const _ => true
  | _ => false

def evBin (T : Tys) (F : Flats) (op : BinOp) (t : Nat) (xo yo : Operand) (x y : SV) : Option (SV × Option Prop) :=
  match x, y with
  | .int k a, .int k' b => match isShift op with
    | true => evShift op k a b
    | false => match kEq k k' with
      | true => evInt op k a b
      | false => none
  | .flt k a, .flt k' b => match fkEq k k' with
    | true => evFlt op k a b
    | false => none
  | .str a, .str b => evStr op a b
  | .agg xs, .agg ys => match flat F t with
    | some n => match hasK n xs with
      | true => match lEq xs ys with
        | some b => eqTo op b
        | none => none
      | false => none
    | none => none
  | .ifc _ _, .nili => match ty T t with
    | some { tk := .iface, .. } => eqLit op false
    | _ => none
  | .nili, .nili => match ty T t with
    | some { tk := .iface, .. } => match isConst xo || isConst yo with
      | true => eqLit op true
      | false => none
    | _ => none
  | x, y => match x.toB, y.toB with
    | some a, some b => match ty T t with
      | some { tk := .bool, .. } => eqTo op (a == b)
      | _ => none
    | _, _ => none

section
variable {P : Program} {T : Tys} {F : Flats} (hT : TysOk P T) (hF : FlatsOk P F) (w : World) (ρ : Rho)

theorem evInt_sound {op : BinOp} {k : IntKind} {a b : Int} {v : SV} {o : Option Prop} (h : evInt op k a b = some (v, o)) (ho : okP o) (t : Nat) :
    (binOp op t (.int k a) (.int k b)).run P w = .ok (v.den ρ) w ∧ v.closed = true := by
  cases op <;> simp only [evInt, Option.some.injEq, Prod.mk.injEq, reduceCtorEq] at h <;> obtain ⟨rfl, rfl⟩ := h <;>
    simp_all [okP, binOp, Op.intArith, Op.intDiv, Op.intBits, Op.intCmp, SV.den, SV.closed, ibits]

theorem evShift_sound {op : BinOp} {k k' : IntKind} {a b : Int} {v : SV} {o : Option Prop} (h : evShift op k a b = some (v, o)) (ho : okP o) (t : Nat) :
    (binOp op t (.int k a) (.int k' b)).run P w = .ok (v.den ρ) w ∧ v.closed = true := by
  cases op <;> simp only [evShift, Option.some.injEq, Prod.mk.injEq, reduceCtorEq] at h <;> obtain ⟨rfl, rfl⟩ := h <;>
    simp [binOp, Op.shift, SV.den, SV.closed, shl, shr, Int.not_lt.2 (show 0 ≤ b from ho)]

theorem evFlt_sound {op : BinOp} {k : FloatKind} {a b : Nat} {v : SV} {o : Option Prop} (h : evFlt op k a b = some (v, o)) (ho : okP o) (t : Nat) :
    (binOp op t (.float k a) (.float k b)).run P w = .ok (v.den ρ) w ∧ v.closed = true := by
  have key : ∀ op, fok op k a b → (binOp op t (.float k a) (.float k b)).run P w = .ok (.float k (fop op k a b)) w := by
    intro op hk
    obtain ⟨r, hr⟩ := Option.isSome_iff_exists.1 hk
    rw [run_float_arith w op t k a b r hr]
    simp [fop, hr]
  cases op <;> simp only [evFlt, Option.some.injEq, Prod.mk.injEq, reduceCtorEq] at h <;> obtain ⟨rfl, rfl⟩ := h <;>
    first | exact ⟨key _ ho, rfl⟩ | simp [binOp, Op.floatCmp, SV.den, SV.closed, fEq, fNe, fLt, fLe, fGt, fGe]

theorem evStr_sound {op : BinOp} {a b : ByteArray} {v : SV} {o : Option Prop} (h : evStr op a b = some (v, o)) (ho : okP o) (t : Nat) :
    (binOp op t (.string a) (.string b)).run P w = .ok (v.den ρ) w ∧ v.closed = true := by
  cases op <;> simp only [evStr, Option.some.injEq, Prod.mk.injEq, reduceCtorEq] at h <;> obtain ⟨rfl, rfl⟩ := h <;>
    simp_all [okP, binOp, Op.stringOp, SV.den, SV.closed, Int.not_lt.2]

end
end Go.Sx
