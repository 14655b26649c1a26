/- The domain of the symbolic walk: symbolic values, named memory, what they stand for. -/
import Derived.Calls
import Derived.Laws.Entries
import Derived.Below
namespace Go.Sx

abbrev Nm := Nat
/-- A name's block, place in it, and capacity (in elements, where it is a row of those). -/
abbrev Rho := Nm → Option (Nat × Nat × Nat)

inductive SV where
  | tt
  | ff
  | bool (b : Bool)
  | int (k : IntKind) (n : Int)
  | flt (k : FloatKind) (bits : Nat)
  | str (s : ByteArray)
  | ptr (n : Nm) (off : Nat)
  | nilp
  | slc (n : Nm) (off len cap : Nat)
  | nils
  | slcc (n : Nm) (len : Nat)
  | agg (cs : List SV)
  | tup (vs : List SV)
  | ifc (t : Nat) (v : SV)
  | nili
  | fn (f : Fn) (first captured : List SV)
  | nilf

def Rho.addr (ρ : Rho) (n : Nm) (off : Nat) : Option Addr := (ρ n).map fun p => ⟨p.1, p.2.1 + off, none⟩
def Rho.cap (ρ : Rho) (n : Nm) : Nat := match ρ n with
  | none => 0
  | some p => p.2.2

mutual
def SV.den (ρ : Rho) : SV → Value
  | .tt => .bool true
  | .ff => .bool false
  | .bool b => .bool b
  | .int k n => .int k n
  | .flt k n => .float k n
  | .str s => .string s
  | .ptr n o => .pointer (ρ.addr n o)
  | .nilp => .pointer none
  | .slc n o l c => .slice (ρ.addr n o) l c
  | .nils => .slice none 0 0
  | .slcc n l => .slice (ρ.addr n 0) l (ρ.cap n)
  | .agg cs => .agg (denL ρ cs).toArray
  | .tup vs => .tuple (denL ρ vs).toArray
  | .ifc t v => .iface t (v.den ρ)
  | .nili => .nilIface
  | .fn f a c => .func f (denL ρ a).toArray (denL ρ c).toArray
  | .nilf => .nilFunc
def denL (ρ : Rho) : List SV → List Value
  | [] => []
  | v :: r => v.den ρ :: denL ρ r
end

theorem denL_eq (ρ : Rho) : ∀ l, denL ρ l = l.map (SV.den ρ)
  | [] => rfl
  | v :: r => by simp [denL, denL_eq ρ r]

mutual
/-- Every name in it is used. -/
def SV.bd (U : Nm → Prop) : SV → Prop
  | .ptr n _ => U n
  | .slc n _ _ _ => U n
  | .slcc n _ => U n
  | .agg cs => bdL U cs
  | .tup vs => bdL U vs
  | .ifc _ v => v.bd U
  | .fn _ a c => bdL U a ∧ bdL U c
  | _ => True
def bdL (U : Nm → Prop) : List SV → Prop
  | [] => True
  | v :: r => v.bd U ∧ bdL U r
end

theorem bdL_iff (U : Nm → Prop) : ∀ l, bdL U l ↔ ∀ v ∈ l, v.bd U
  | [] => by simp [bdL]
  | v :: r => by simp [bdL, bdL_iff U r]

mutual
theorem SV.bd_mono {U U' : Nm → Prop} (h : ∀ n, U n → U' n) : ∀ v : SV, v.bd U → v.bd U'
  | .ptr n _ => by simpa [SV.bd] using h n
  | .slc n _ _ _ => by simpa [SV.bd] using h n
  | .slcc n _ => by simpa [SV.bd] using h n
  | .agg cs => by simpa [SV.bd] using bdL_mono h cs
  | .tup vs => by simpa [SV.bd] using bdL_mono h vs
  | .ifc _ v => by simpa [SV.bd] using SV.bd_mono h v
  | .fn _ a c => by simpa [SV.bd] using fun h1 h2 => ⟨bdL_mono h a h1, bdL_mono h c h2⟩
  | .tt | .ff | .bool _ | .int _ _ | .flt _ _ | .str _ | .nilp | .nils | .nili | .nilf => by simp [SV.bd]
theorem bdL_mono {U U' : Nm → Prop} (h : ∀ n, U n → U' n) : ∀ l : List SV, bdL U l → bdL U' l
  | [] => by simp [bdL]
  | v :: r => by simpa [bdL] using fun h1 h2 => ⟨SV.bd_mono h v h1, bdL_mono h r h2⟩
end

mutual
theorem SV.den_congr {U : Nm → Prop} {ρ ρ' : Rho} (h : ∀ n, U n → ρ' n = ρ n) : ∀ v : SV, v.bd U → v.den ρ' = v.den ρ
  | .ptr n _ => by intro hb; simp only [SV.bd] at hb; simp [SV.den, Rho.addr, h n hb]
  | .slc n _ _ _ => by intro hb; simp only [SV.bd] at hb; simp [SV.den, Rho.addr, h n hb]
  | .slcc n _ => by intro hb; simp only [SV.bd] at hb; simp [SV.den, Rho.addr, Rho.cap, h n hb]
  | .agg cs => by intro hb; simp only [SV.bd] at hb; simp [SV.den, denL_congr h cs hb]
  | .tup vs => by intro hb; simp only [SV.bd] at hb; simp [SV.den, denL_congr h vs hb]
  | .ifc _ v => by intro hb; simp only [SV.bd] at hb; simp [SV.den, SV.den_congr h v hb]
  | .fn _ a c => by intro hb; simp only [SV.bd] at hb; simp [SV.den, denL_congr h a hb.1, denL_congr h c hb.2]
  | .tt | .ff | .bool _ | .int _ _ | .flt _ _ | .str _ | .nilp | .nils | .nili | .nilf => by simp [SV.den]
theorem denL_congr {U : Nm → Prop} {ρ ρ' : Rho} (h : ∀ n, U n → ρ' n = ρ n) : ∀ l : List SV, bdL U l → denL ρ' l = denL ρ l
  | [] => by simp [denL]
  | v :: r => by intro hb; simp only [bdL] at hb; simp [denL, SV.den_congr h v hb.1, denL_congr h r hb.2]
end

/-- The cells of a value. -/
def SV.cells : SV → List SV
  | .agg cs => cs
  | v => [v]

theorem SV.den_cells (ρ : Rho) (v : SV) : (v.den ρ).cells = (denL ρ v.cells).toArray := by
  cases v <;> simp [SV.den, SV.cells, Value.cells, denL]

theorem SV.bd_cells {U : Nm → Prop} {v : SV} (h : v.bd U) : bdL U v.cells := by
  cases v <;> simp_all [SV.bd, SV.cells, bdL]

/-- A value that lies in one cell. -/
def SV.one : SV → Bool
  | .agg _ | .tup _ => false
  | _ => true

theorem SV.one_den (ρ : Rho) {v : SV} (h : v.one = true) : (v.den ρ).oneCell' = true := by
  cases v <;> simp_all [SV.one, SV.den, Value.oneCell']

/-- What lies in a named piece of memory. -/
inductive Cont where
  | cells (l : List SV)
  | ints (k : IntKind) (n : Nat) (g : Nat → Int)
  | flts (k : FloatKind) (n : Nat) (g : Nat → Nat)
  | gen (n : Nat) (f : Nat → SV)

def getL : List SV → Nat → Option SV
  | [], _ => none
  | x :: _, 0 => some x
  | _ :: r, n + 1 => getL r n

theorem getL_eq : ∀ (l : List SV) (i : Nat), getL l i = l[i]?
  | [], _ => by simp [getL]
  | _ :: _, 0 => by simp [getL]
  | _ :: r, n + 1 => by simp [getL, getL_eq r n]

def Cont.size : Cont → Nat
  | .cells l => l.length
  | .ints _ n _ => n
  | .flts _ n _ => n
  | .gen n _ => n

/-- The cell's value (under i < size). -/
def Cont.at (c : Cont) (i : Nat) : SV :=
  match c with
  | .cells l => (getL l i).getD .nilp
  | .ints k _ g => .int k (g i)
  | .flts k _ g => .flt k (g i)
  | .gen _ f => f i

def Cont.bd (U : Nm → Prop) (c : Cont) : Prop := ∀ i, i < c.size → (c.at i).bd U

theorem Cont.bd_mono {U U' : Nm → Prop} (h : ∀ n, U n → U' n) {c : Cont} (hc : c.bd U) : c.bd U' := fun i hi => SV.bd_mono h _ (hc i hi)

structure Ob where
  rw : Bool
  elem : Nat
  c : Cont
  es : Nat

/-- A named piece of memory holds what is said of it. -/
def OSat (w : World) (ρ : Rho) (o : Ob) : Option (Nat × Nat × Nat) → Prop
  | none => o.c.size = 0
  | some (b, off, cp) => (∀ i, i < o.c.size → w.cell? ⟨b, off + i, none⟩ = some ((o.c.at i).den ρ)) ∧
      (o.rw = true → off = 0 ∧ ∃ arr, w.heap[b]? = some (.cells arr o.elem (0, 0)) ∧ o.c.size ≤ arr.size ∧ (0 < o.es → arr.size = cp * o.es) ∧ cp ≤ maxLen)

abbrev Heap := List (Nm × Ob)

def look : Heap → Nm → Option Ob
  | [], _ => none
  | (m, o) :: r, n => match Nat.beq m n with
    | true => some o
    | false => look r n

theorem look_cons (m n : Nm) (o : Ob) (r : Heap) : look ((m, o) :: r) n = if m = n then some o else look r n := by
  show (match Nat.beq m n with | true => some o | false => look r n) = _
  cases h : Nat.beq m n
  · have : m ≠ n := fun e => by subst e; simp at h
    simp [this]
  · have : m = n := Nat.eq_of_beq_eq_true h
    simp [this]

structure HSat (W0 : World) (Fr : Nat → Prop) (U : Nm → Prop) (H : Heap) (ρ : Rho) (w : World) : Prop where
  os : w.os = W0.os
  tape : w.tape = W0.tape
  output : w.output = W0.output
  size : W0.heap.size ≤ w.heap.size
  frlt : ∀ b, Fr b → b < W0.heap.size
  frame : ∀ b, Fr b → w.heap[b]? = W0.heap[b]?
  used : ∀ n o, look H n = some o → U n
  bd : ∀ n o, look H n = some o → o.c.bd U
  obj : ∀ n o, look H n = some o → OSat w ρ o (ρ n)
  inj : ∀ n m o o' p q, look H n = some o → look H m = some o' → n ≠ m → o.rw = true → (o'.rw = true ∨ 0 < o'.c.size) → ρ n = some p → ρ m = some q → p.1 ≠ q.1
  free : ∀ n o p, look H n = some o → o.rw = true → ρ n = some p → ¬ Fr p.1

end Go.Sx
