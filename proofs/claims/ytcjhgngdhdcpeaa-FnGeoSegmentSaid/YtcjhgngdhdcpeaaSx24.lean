/- Names found by matching. -/
import Derived.Test.YtcjhgngdhdcpeaaSx23
namespace Go.Sx
open Go.RowKit

def hasKey : SigL → Nm → Bool
  | [], _ => false
  | (m, _) :: r, n => Nat.beq m n || hasKey r n

/-- n' (from N0 on) stands for m. -/
def bindN (N0 : Nat) (n' : Nm) (m : Option Nm) (s : SigL) : SigL :=
  match Nat.ble N0 n' with
  | true => match hasKey s n' with
    | true => s
    | false => (n', m) :: s
  | false => s

mutual
def bindV (N0 : Nat) : SV → SV → SigL → SigL
  | .ptr n _, .ptr n' _, s => bindN N0 n' (some n) s
  | .slc n _ _ _, .slc n' _ _ _, s => bindN N0 n' (some n) s
  | .slcc n _, .slcc n' _, s => bindN N0 n' (some n) s
  | .nils, .slcc n' _, s => bindN N0 n' none s
  | .agg a, .agg b, s => bindL N0 a b s
  | .tup a, .tup b, s => bindL N0 a b s
  | .ifc _ v, .ifc _ v', s => bindV N0 v v' s
  | .fn _ a c, .fn _ a' c', s => bindL N0 c c' (bindL N0 a a' s)
  | _, _, s => s
def bindL (N0 : Nat) : List SV → List SV → SigL → SigL
  | x :: xs, y :: ys, s => bindL N0 xs ys (bindV N0 x y s)
  | _, _, s => s
end

def bindSl (N0 : Nat) (sl : Slots) : Slots → SigL → SigL
  | [], s => s
  | (t, v') :: r, s => bindSl N0 sl r (match slot sl t with
    | some v => bindV N0 v v' s
    | none => s)

def bindC (N0 : Nat) (c c' : Cont) (s : SigL) : SigL :=
  match c, c' with
  | .cells l, .cells l' => bindL N0 l l' s
  | _, _ => s

def keyAt : SigL → Nm → Option (Option Nm)
  | [], _ => none
  | (m, x) :: r, n => match Nat.beq m n with
    | true => some x
    | false => keyAt r n

def bindH (N0 : Nat) (H : Heap) : Heap → SigL → SigL
  | [], s => s
  | (n', o') :: r, s => bindH N0 H r (match (match Nat.ble N0 n' with | true => keyAt s n' | false => some (some n')) with
    | some (some m) => match look H m with
      | some o => bindC N0 o.c o'.c s
      | none => s
    | _ => s)

def autoSig (N0 : Nat) (S S' : St) : SigL := bindH N0 S.H S'.H (bindH N0 S.H S'.H (bindSl N0 S.sl S'.sl []))

theorem Refines.auto {N0 : Nat} {S S' : St} (h : FitsOk N0 (autoSig N0 S S') S S') : Refines N0 S S' := Refines.by_names _ h

def tauAt (s : SigL) (n : Nm) : Option Nm := match keyAt s n with
  | some x => x
  | none => none

def autoTau (k : Nat) (hc : HC) (S : St) (v : SV) : List (Option Nm) :=
  let s := bindH k S.H (hc.wr ++ hc.news) (bindH k S.H (hc.wr ++ hc.news) (bindV k v hc.val []))
  [tauAt s k, tauAt s (k + 1), tauAt s (k + 2), tauAt s (k + 3)]

theorem PostOk.auto {k : Nat} {hc : HC} {S : St} {v : SV} (h : PostOk k hc S v (autoTau k hc S v)) : ∃ tau, PostOk k hc S v tau := ⟨_, h⟩

theorem sameN_self {n : Nm} : sameN (some n) n := by simp [sameN]

mutual
theorem SV.bd_all : ∀ v : SV, v.bd fun _ => True
  | .ptr _ _ => trivial
  | .slc _ _ _ _ => trivial
  | .slcc _ _ => trivial
  | .agg cs => bdL_all cs
  | .tup cs => bdL_all cs
  | .ifc _ v => SV.bd_all v
  | .fn _ a c => ⟨bdL_all a, bdL_all c⟩
  | .tt | .ff | .bool _ | .int _ _ | .flt _ _ | .str _ | .nilp | .nils | .nili | .nilf => by simp [SV.bd]
theorem bdL_all : ∀ l : List SV, bdL (fun _ => True) l
  | [] => trivial
  | v :: r => ⟨SV.bd_all v, bdL_all r⟩
end

/-- A function's text. -/
def codeOf (fn : Func) : Code := match fn.body with
  | some c => c
  | none => .skip

theorem wrap64 {n : Int} (h1 : -9223372036854775808 ≤ n) (h2 : n < 9223372036854775808) : IntKind.i64.wrap n = n := by
  show (if (true && decide (n % (18446744073709551616 : Int) ≥ 9223372036854775808)) = true then n % (18446744073709551616 : Int) - 18446744073709551616 else n % (18446744073709551616 : Int)) = n
  rw [Bool.true_and]
  split
  · rename_i h; have h := of_decide_eq_true h; omega
  · rename_i h; have h : ¬ _ := fun h' => h (decide_eq_true h'); omega

theorem wrapu64 {n : Int} (h1 : 0 ≤ n) (h2 : n < 18446744073709551616) : IntKind.u64.wrap n = n := by
  show (if (false && decide (n % (18446744073709551616 : Int) ≥ 9223372036854775808)) = true then n % (18446744073709551616 : Int) - 18446744073709551616 else n % (18446744073709551616 : Int)) = n
  rw [Bool.false_and, if_neg (by decide)]
  omega

/-! ### Pieces of numbers -/
def intsFrom (k : IntKind) : Cont → Option (Nat × (Nat → Int))
  | .cells l => match intsOf k l with
    | some xs => some (xs.length, fun i => xs.getD i 0)
    | none => none
  | .ints k' n g => match kEq k' k with
    | true => some (n, g)
    | false => none
  | _ => none

def fltsFrom (k : FloatKind) : Cont → Option (Nat × (Nat → Nat))
  | .cells l => match fltsOf k l with
    | some xs => some (xs.length, fun i => xs.getD i 0)
    | none => none
  | .flts k' n g => match fkEq k' k with
    | true => some (n, g)
    | false => none
  | _ => none

theorem intsFrom_spec {k : IntKind} {c : Cont} {n : Nat} {g : Nat → Int} (h : intsFrom k c = some (n, g)) : c.size = n ∧ ∀ i, i < n → c.at i = .int k (g i) := by
  unfold intsFrom at h
  split at h
  · split at h
    · rename_i l xs hxs
      simp only [Option.some.injEq, Prod.mk.injEq] at h
      obtain ⟨rfl, rfl⟩ := h
      have := intsOf_spec hxs
      subst this
      refine ⟨by simp [Cont.size], fun i hi => ?_⟩
      simp [Cont.at, getL_eq, hi]
    · cases h
  · split at h
    · rename_i hk
      have := kEq_eq hk
      subst this
      simp only [Option.some.injEq, Prod.mk.injEq] at h
      obtain ⟨rfl, rfl⟩ := h
      exact ⟨rfl, fun i _ => rfl⟩
    · cases h
  · cases h

theorem fltsFrom_spec {k : FloatKind} {c : Cont} {n : Nat} {g : Nat → Nat} (h : fltsFrom k c = some (n, g)) : c.size = n ∧ ∀ i, i < n → c.at i = .flt k (g i) := by
  unfold fltsFrom at h
  split at h
  · split at h
    · rename_i l xs hxs
      simp only [Option.some.injEq, Prod.mk.injEq] at h
      obtain ⟨rfl, rfl⟩ := h
      have := fltsOf_spec hxs
      subst this
      refine ⟨by simp [Cont.size], fun i hi => ?_⟩
      simp [Cont.at, getL_eq, hi]
    · cases h
  · split at h
    · rename_i hk
      have := fkEq_eq hk
      subst this
      simp only [Option.some.injEq, Prod.mk.injEq] at h
      obtain ⟨rfl, rfl⟩ := h
      exact ⟨rfl, fun i _ => rfl⟩
    · cases h
  · cases h

theorem kEq_self (k : IntKind) : kEq k k = true := by cases k <;> rfl
theorem fkEq_self (k : FloatKind) : fkEq k k = true := by cases k <;> rfl

theorem eqvRL_ints (σ : Sig) (k : IntKind) : ∀ xs : List Int, eqvRL σ (xs.map (SV.int k)) (xs.map (SV.int k))
  | [] => trivial
  | x :: r => ⟨by simp [eqvR, kEq_self], eqvRL_ints σ k r⟩

theorem contR_ints {σ : Sig} {k : IntKind} {c : Cont} {n : Nat} {g : Nat → Int} (h : intsFrom k c = some (n, g)) : contR σ c (.ints k n g) ∧ contR σ (.ints k n g) c ∧ ∀ N, c.und N := by
  obtain ⟨h1, h2⟩ := intsFrom_spec h
  have hr : ∀ i, i < n → eqvR σ (c.at i) ((Cont.ints k n g).at i) ∧ eqvR σ ((Cont.ints k n g).at i) (c.at i) := fun i hi => by
    rw [h2 i hi]; simp [Cont.at, eqvR, kEq_self]
  cases c with
  | cells l =>
    refine ⟨?_, ⟨by rw [h1]; exact Nat.le_refl _, fun i hi => (hr i (by rw [← h1]; exact hi)).2⟩, fun N => ?_⟩
    · unfold intsFrom at h
      simp only at h
      split at h
      · rename_i xs hxs
        simp only [Option.some.injEq, Prod.mk.injEq] at h
        obtain ⟨rfl, rfl⟩ := h
        simp [contR, hxs]
      · cases h
    unfold intsFrom at h
    simp only at h
    split at h
    · rename_i xs hxs
      have := intsOf_spec hxs
      subst this
      show undL N _ = true
      clear h h1 h2 hr hxs
      induction xs with
      | nil => rfl
      | cons x r ih => simpa [undL, SV.und] using ih
    · cases h
  | ints k' m g' =>
    unfold intsFrom at h
    simp only at h
    split at h
    · rename_i hk
      have := kEq_eq hk
      subst this
      simp only [Option.some.injEq, Prod.mk.injEq] at h
      obtain ⟨rfl, rfl⟩ := h
      refine ⟨?_, ?_, fun N => trivial⟩ <;> simp [contR, kEq_self]
    · cases h
  | flts k' m g' => simp [intsFrom] at h
  | gen m f => simp [intsFrom] at h

theorem contR_flts {σ : Sig} {k : FloatKind} {c : Cont} {n : Nat} {g : Nat → Nat} (h : fltsFrom k c = some (n, g)) : contR σ c (.flts k n g) ∧ contR σ (.flts k n g) c ∧ ∀ N, c.und N := by
  obtain ⟨h1, h2⟩ := fltsFrom_spec h
  have hr : ∀ i, i < n → eqvR σ (c.at i) ((Cont.flts k n g).at i) ∧ eqvR σ ((Cont.flts k n g).at i) (c.at i) := fun i hi => by
    rw [h2 i hi]; simp [Cont.at, eqvR, fkEq_self]
  cases c with
  | cells l =>
    refine ⟨?_, ⟨by rw [h1]; exact Nat.le_refl _, fun i hi => (hr i (by rw [← h1]; exact hi)).2⟩, fun N => ?_⟩
    · unfold fltsFrom at h
      simp only at h
      split at h
      · rename_i xs hxs
        simp only [Option.some.injEq, Prod.mk.injEq] at h
        obtain ⟨rfl, rfl⟩ := h
        simp [contR, hxs]
      · cases h
    unfold fltsFrom at h
    simp only at h
    split at h
    · rename_i xs hxs
      have := fltsOf_spec hxs
      subst this
      show undL N _ = true
      clear h h1 h2 hr hxs
      induction xs with
      | nil => rfl
      | cons x r ih => simpa [undL, SV.und] using ih
    · cases h
  | flts k' m g' =>
    unfold fltsFrom at h
    simp only at h
    split at h
    · rename_i hk
      have := fkEq_eq hk
      subst this
      simp only [Option.some.injEq, Prod.mk.injEq] at h
      obtain ⟨rfl, rfl⟩ := h
      refine ⟨?_, ?_, fun N => trivial⟩ <;> simp [contR, fkEq_self]
    · cases h
  | ints k' m g' => simp [fltsFrom] at h
  | gen m f => simp [fltsFrom] at h

end Go.Sx
