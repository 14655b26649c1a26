/- One state fits another by other names. -/
import Derived.Test.YtcjhgngdhdcpeaaSx20
import Derived.Test.YtcjhgngdhdcpeaaSx21
namespace Go.Sx
open Go.RowKit

/-- Names to names (or to nothing: an empty piece). -/
abbrev Sig := Nm → Option Nm

def Rho.under (ρ : Rho) (σ : Sig) : Rho := fun n => match σ n with
  | some m => ρ m
  | none => none

def sameN : Option Nm → Nm → Prop
  | some m, n => match Nat.beq m n with
    | true => True
    | false => False
  | none, _ => False

theorem sameN_eq {o : Option Nm} {n : Nm} (h : sameN o n) : o = some n := by
  cases o with
  | none => exact h.elim
  | some m =>
    simp only [sameN] at h
    split at h
    · rename_i hb; rw [Nat.eq_of_beq_eq_true hb]
    · exact h.elim

mutual
/-- The first is the second by other names. -/
def eqvR (σ : Sig) : SV → SV → Prop
  | .tt, .tt => True
  | .ff, .ff => True
  | .tt, .bool b => b = true
  | .ff, .bool b => b = false
  | .bool b, .tt => b = true
  | .bool b, .ff => b = false
  | .bool a, .bool b => a = b
  | .int k a, .int k' b => match kEq k k' with
    | true => a = b
    | false => False
  | .flt k a, .flt k' b => match fkEq k k' with
    | true => a = b
    | false => False
  | .str a, .str b => a = b
  | .ptr n o, .ptr n' o' => sameN (σ n') n ∧ o = o'
  | .nilp, .nilp => True
  | .slc n o l c, .slc n' o' l' c' => sameN (σ n') n ∧ o = o' ∧ l = l' ∧ c = c'
  | .nils, .nils => True
  | .slcc n l, .slcc n' l' => sameN (σ n') n ∧ l = l'
  | .nils, .slcc n' l' => match σ n' with
    | none => l' = 0
    | some _ => False
  | .agg a, .agg b => eqvRL σ a b
  | .tup a, .tup b => eqvRL σ a b
  | .ifc t v, .ifc t' v' => match Nat.beq t t' with
    | true => eqvR σ v v'
    | false => False
  | .nili, .nili => True
  | .fn f a c, .fn f' a' c' => f = f' ∧ eqvRL σ a a' ∧ eqvRL σ c c'
  | .nilf, .nilf => True
  | _, _ => False
def eqvRL (σ : Sig) : List SV → List SV → Prop
  | [], [] => True
  | x :: xs, y :: ys => eqvR σ x y ∧ eqvRL σ xs ys
  | _, _ => False
end

theorem under_addr {ρ : Rho} {σ : Sig} {n n' : Nm} (h : sameN (σ n') n) (o : Nat) : ρ.addr n o = (ρ.under σ).addr n' o := by
  simp [Rho.addr, Rho.under, sameN_eq h]
theorem under_cap {ρ : Rho} {σ : Sig} {n n' : Nm} (h : sameN (σ n') n) : ρ.cap n = (ρ.under σ).cap n' := by
  simp [Rho.cap, Rho.under, sameN_eq h]

mutual
theorem eqvR_den (ρ : Rho) (σ : Sig) : ∀ (x y : SV), eqvR σ x y → x.den ρ = y.den (ρ.under σ)
  | .agg a, y, h => by cases y <;> simp only [eqvR] at h; simp [SV.den, eqvRL_den ρ σ a _ h]
  | .tup a, y, h => by cases y <;> simp only [eqvR] at h; simp [SV.den, eqvRL_den ρ σ a _ h]
  | .ifc t v, y, h => by
    cases y <;> simp only [eqvR] at h
    split at h
    · rename_i ht; have := Nat.eq_of_beq_eq_true ht; subst this; simp [SV.den, eqvR_den ρ σ v _ h]
    · exact h.elim
  | .fn f a c, y, h => by
    cases y <;> simp only [eqvR] at h
    obtain ⟨rfl, h1, h2⟩ := h
    simp [SV.den, eqvRL_den ρ σ a _ h1, eqvRL_den ρ σ c _ h2]
  | .int k a, y, h => by
    cases y <;> simp only [eqvR] at h
    split at h
    · rename_i ht; have := kEq_eq ht; subst this; simp [SV.den, h]
    · exact h.elim
  | .flt k a, y, h => by
    cases y <;> simp only [eqvR] at h
    split at h
    · rename_i ht; have := fkEq_eq ht; subst this; simp [SV.den, h]
    · exact h.elim
  | .ptr n o, y, h => by
    cases y <;> simp only [eqvR] at h
    obtain ⟨h1, rfl⟩ := h
    simp [SV.den, under_addr h1]
  | .slc n o l c, y, h => by
    cases y <;> simp only [eqvR] at h
    obtain ⟨h1, rfl, rfl, rfl⟩ := h
    simp [SV.den, under_addr h1]
  | .slcc n l, y, h => by
    cases y <;> simp only [eqvR] at h
    obtain ⟨h1, rfl⟩ := h
    simp [SV.den, under_addr h1, under_cap h1]
  | .nils, y, h => by
    cases y <;> simp only [eqvR] at h
    · rfl
    · split at h
      · rename_i hs; subst h; simp [SV.den, Rho.addr, Rho.cap, Rho.under, hs]
      · exact h.elim
  | .tt, y, h | .ff, y, h | .bool _, y, h | .str _, y, h | .nilp, y, h | .nili, y, h | .nilf, y, h => by
    cases y <;> simp_all [eqvR, SV.den]
theorem eqvRL_den (ρ : Rho) (σ : Sig) : ∀ (x y : List SV), eqvRL σ x y → denL ρ x = denL (ρ.under σ) y
  | [], y, h => by cases y <;> simp_all [eqvRL, denL]
  | x :: r, y, h => by
    cases y with
    | nil => simp [eqvRL] at h
    | cons u s => simp only [eqvRL] at h; simp [denL, eqvR_den ρ σ x u h.1, eqvRL_den ρ σ r s h.2]
end

/-! ### Names below a bound -/
mutual
def SV.und (N : Nat) : SV → Bool
  | .ptr n _ => Nat.blt n N
  | .slc n _ _ _ => Nat.blt n N
  | .slcc n _ => Nat.blt n N
  | .agg cs => undL N cs
  | .tup vs => undL N vs
  | .ifc _ v => v.und N
  | .fn _ a c => undL N a && undL N c
  | _ => true
def undL (N : Nat) : List SV → Bool
  | [] => true
  | v :: r => v.und N && undL N r
end

theorem blt_lt {n m : Nat} (h : Nat.blt n m = true) : n < m := by
  have := Nat.le_of_ble_eq_true h
  omega

mutual
theorem SV.und_bd {N : Nat} : ∀ v : SV, v.und N = true → v.bd (· < N)
  | .ptr n _ => by intro h; exact blt_lt h
  | .slc n _ _ _ => by intro h; exact blt_lt h
  | .slcc n _ => by intro h; exact blt_lt h
  | .agg cs => by simpa [SV.bd, SV.und] using undL_bd cs
  | .tup cs => by simpa [SV.bd, SV.und] using undL_bd cs
  | .ifc _ v => by simpa [SV.bd, SV.und] using SV.und_bd v
  | .fn _ a c => by simpa [SV.bd, SV.und] using fun h1 h2 => ⟨undL_bd a h1, undL_bd c h2⟩
  | .tt | .ff | .bool _ | .int _ _ | .flt _ _ | .str _ | .nilp | .nils | .nili | .nilf => by simp [SV.bd]
theorem undL_bd {N : Nat} : ∀ l : List SV, undL N l = true → bdL (· < N) l
  | [] => by simp [bdL]
  | v :: r => by simpa [bdL, undL] using fun h1 h2 => ⟨SV.und_bd v h1, undL_bd r h2⟩
end

/-! ### Pieces -/
/-- The first piece's cells hold what the second's say, by other names. -/
def contR (σ : Sig) (c c' : Cont) : Prop :=
  match c, c' with
  | .cells l, .cells l' => eqvRL σ l l'
  | .ints k n g, .ints k' n' g' => match kEq k k' with
    | true => n' ≤ n ∧ ∀ i, i < n' → g i = g' i
    | false => False
  | .flts k n g, .flts k' n' g' => match fkEq k k' with
    | true => n' ≤ n ∧ ∀ i, i < n' → g i = g' i
    | false => False
  | .cells l, .ints k n g => match intsOf k l with
    | some xs => n ≤ xs.length ∧ ∀ i, i < n → xs.getD i 0 = g i
    | none => False
  | .cells l, .flts k n g => match fltsOf k l with
    | some xs => n ≤ xs.length ∧ ∀ i, i < n → xs.getD i 0 = g i
    | none => False
  | c, c' => c'.size ≤ c.size ∧ ∀ i, i < c'.size → eqvR σ (c.at i) (c'.at i)

theorem eqvRL_len {σ : Sig} : ∀ {x y : List SV}, eqvRL σ x y → x.length = y.length
  | [], [], _ => rfl
  | [], _ :: _, h => by simp [eqvRL] at h
  | _ :: _, [], h => by simp [eqvRL] at h
  | x :: r, y :: s, h => by simp only [eqvRL] at h; simp [eqvRL_len h.2]

theorem eqvRL_get {σ : Sig} : ∀ {x y : List SV}, eqvRL σ x y → ∀ {i : Nat}, i < y.length → eqvR σ ((getL x i).getD .nilp) ((getL y i).getD .nilp)
  | [], [], _, i, h => by simp at h
  | [], _ :: _, h, _, _ => by simp [eqvRL] at h
  | _ :: _, [], h, _, _ => by simp [eqvRL] at h
  | x :: r, y :: s, h, i, hi => by
    simp only [eqvRL] at h
    cases i with
    | zero => simpa [getL] using h.1
    | succ i => simpa [getL] using eqvRL_get h.2 (by simpa using hi)

theorem contR_spec {σ : Sig} {c c' : Cont} (h : contR σ c c') : c'.size ≤ c.size ∧ ∀ (ρ : Rho) i, i < c'.size → (c.at i).den ρ = (c'.at i).den (ρ.under σ) := by
  unfold contR at h
  split at h
  · refine ⟨by simp [Cont.size, eqvRL_len h], fun ρ i hi => eqvR_den ρ σ _ _ (eqvRL_get h hi)⟩
  · split at h
    · rename_i hk
      have := kEq_eq hk; subst this
      exact ⟨h.1, fun ρ i hi => by simp [Cont.at, SV.den, h.2 i hi]⟩
    · exact h.elim
  · split at h
    · rename_i hk
      have := fkEq_eq hk; subst this
      exact ⟨h.1, fun ρ i hi => by simp [Cont.at, SV.den, h.2 i hi]⟩
    · exact h.elim
  · split at h
    · rename_i xs hx
      have := intsOf_spec hx; subst this
      refine ⟨by simpa [Cont.size] using h.1, fun ρ i hi => ?_⟩
      have hi' : i < xs.length := Nat.lt_of_lt_of_le hi h.1
      have := h.2 i hi
      simp only [Cont.at, getL_eq, List.getElem?_map, List.getElem?_eq_getElem hi', Option.map_some, Option.getD_some, SV.den]
      rw [List.getD_eq_getElem?_getD, List.getElem?_eq_getElem hi', Option.getD_some] at this
      rw [this]
    · exact h.elim
  · split at h
    · rename_i xs hx
      have := fltsOf_spec hx; subst this
      refine ⟨by simpa [Cont.size] using h.1, fun ρ i hi => ?_⟩
      have hi' : i < xs.length := Nat.lt_of_lt_of_le hi h.1
      have := h.2 i hi
      simp only [Cont.at, getL_eq, List.getElem?_map, List.getElem?_eq_getElem hi', Option.map_some, Option.getD_some, SV.den]
      rw [List.getD_eq_getElem?_getD, List.getElem?_eq_getElem hi', Option.getD_some] at this
      rw [this]
    · exact h.elim
  · exact ⟨h.1, fun ρ i hi => eqvR_den ρ σ _ _ (h.2 i hi)⟩

/-- The first piece will do for the second. -/
def obR (σ : Sig) (o o' : Ob) : Prop :=
  match o'.rw with
  | false => contR σ o.c o'.c
  | true => match o.rw with
    | false => False
    | true => o.elem = o'.elem ∧ o.es = o'.es ∧ contR σ o.c o'.c

theorem obR_spec {σ : Sig} {o o' : Ob} (h : obR σ o o') : contR σ o.c o'.c ∧ (o'.rw = true → o.rw = true ∧ o.elem = o'.elem ∧ o.es = o'.es) := by
  unfold obR at h
  split at h
  · rename_i hr; exact ⟨h, fun h' => by rw [hr] at h'; cases h'⟩
  · split at h
    · exact h.elim
    · rename_i hr; exact ⟨h.2.2, fun _ => ⟨hr, h.1, h.2.1⟩⟩

theorem OSat.other {w : World} {ρ : Rho} {σ : Sig} {o o' : Ob} (h : obR σ o o') {p : Option (Nat × Nat × Nat)} (hs : OSat w ρ o p) : OSat w (ρ.under σ) o' p := by
  obtain ⟨hc, hr⟩ := obR_spec h
  obtain ⟨h1, h2⟩ := contR_spec hc
  cases p with
  | none =>
    have : o.c.size = 0 := hs
    show o'.c.size = 0
    omega
  | some q =>
    obtain ⟨b, off, cp⟩ := q
    refine ⟨fun i hi => ?_, fun h' => ?_⟩
    · rw [← h2 ρ i hi]; exact hs.1 i (by omega)
    · obtain ⟨h3, h4, h5⟩ := hr h'
      obtain ⟨h6, arr, h7, h8, h9, h10⟩ := hs.2 h3
      exact ⟨h6, arr, by rw [← h4]; exact h7, by omega, fun hh => by rw [← h5]; exact h9 (by rw [h5]; exact hh), h10⟩

/-! ### Contents below a bound -/
def Cont.und (N : Nat) : Cont → Prop
  | .cells l => undL N l = true
  | .ints _ _ _ => True
  | .flts _ _ _ => True
  | .gen n f => ∀ i, i < n → (f i).und N = true

theorem Cont.und_bd {N : Nat} {c : Cont} (h : c.und N) : c.bd (· < N) := by
  intro i hi
  cases c with
  | cells l =>
    have := undL_bd l h
    have hi' : i < l.length := hi
    simp only [Cont.at, getL_eq, List.getElem?_eq_getElem hi', Option.getD_some]
    exact (bdL_iff _ l).1 this _ (List.getElem_mem hi')
  | ints k n g => trivial
  | flts k n g => trivial
  | gen n f => exact SV.und_bd _ (h i hi)

/-! ### A state fits another -/
abbrev SigL := List (Nm × Option Nm)
def sigAt : SigL → Sig
  | [], n => some n
  | (m, x) :: r, n => match Nat.beq m n with
    | true => x
    | false => sigAt r n

def slotsR (σ : Sig) (sl : Slots) (N : Nat) : Slots → Prop
  | [] => True
  | (t, v') :: r => (match slot sl t with
    | some v => v'.und N = true ∧ eqvR σ v v'
    | none => False) ∧ slotsR σ sl N r

def heapR (σ : Sig) (H : Heap) (N : Nat) : Heap → Prop
  | [] => True
  | (n, o') :: r => (Nat.blt n N = true ∧ o'.c.und N ∧ match σ n with
    | some m => match look H m with
      | some o => obR σ o o'
      | none => False
    | none => o'.c.size = 0) ∧ heapR σ H N r

def memN (n : Nm) : List Nm → Bool
  | [] => false
  | m :: r => Nat.beq m n || memN n r
def distN : List Nm → Bool
  | [] => true
  | n :: r => !memN n r && distN r
def images (σ : Sig) : Heap → List Nm
  | [] => []
  | (n, _) :: r => match σ n with
    | some m => m :: images σ r
    | none => images σ r
def fixN (N0 : Nat) : SigL → Bool
  | [] => true
  | (n, _) :: r => Nat.ble N0 n && fixN N0 r

theorem fixN_spec {N0 : Nat} : ∀ {s : SigL}, fixN N0 s = true → ∀ n, n < N0 → sigAt s n = some n
  | [], _, n, _ => rfl
  | (m, x) :: r, h, n, hn => by
    simp only [fixN, Bool.and_eq_true] at h
    have hm := Nat.le_of_ble_eq_true h.1
    simp only [sigAt]
    cases hb : Nat.beq m n
    · exact fixN_spec h.2 n hn
    · have := Nat.eq_of_beq_eq_true hb; omega

theorem memN_of {σ : Sig} {n m : Nm} : ∀ {H : Heap} {o : Ob}, look H n = some o → σ n = some m → memN m (images σ H) = true
  | [], o, h, _ => by simp [look] at h
  | (k, u) :: r, o, h, hs => by
    rw [look_cons] at h
    simp only [images]
    split at h
    · rename_i e; subst e; simp [hs, memN]
    · have := memN_of h hs
      split
      · simp [memN, this]
      · exact this

theorem dist_inj {σ : Sig} : ∀ {H : Heap}, distN (images σ H) = true → ∀ {n m : Nm} {o o' : Ob} {x : Nm}, look H n = some o → look H m = some o' → n ≠ m → σ n = some x → σ m = some x → False
  | [], _, n, m, o, o', x, h, _, _, _, _ => by simp [look] at h
  | (k, u) :: r, hd, n, m, o, o', x, hn, hm, hne, h1, h2 => by
    rw [look_cons] at hn hm
    simp only [images] at hd
    split at hn
    · rename_i e; subst e
      rw [if_neg hne] at hm
      rw [h1] at hd
      simp only [distN, Bool.and_eq_true, Bool.not_eq_true'] at hd
      rw [memN_of hm h2] at hd
      exact absurd hd.1 (by decide)
    · split at hm
      · rename_i e; subst e
        rw [h2] at hd
        simp only [distN, Bool.and_eq_true, Bool.not_eq_true'] at hd
        rw [memN_of hn h1] at hd
        exact absurd hd.1 (by decide)
      · refine dist_inj ?_ hn hm hne h1 h2
        split at hd
        · simp only [distN, Bool.and_eq_true] at hd; exact hd.2
        · exact hd

theorem slotsR_spec {σ : Sig} {sl : Slots} {N : Nat} : ∀ {sl' : Slots}, slotsR σ sl N sl' → ∀ t v', slot sl' t = some v' → v'.und N = true ∧ ∃ v, slot sl t = some v ∧ eqvR σ v v'
  | [], _, t, v', h => by simp [slot] at h
  | (s, u) :: r, h, t, v', hv => by
    simp only [slotsR] at h
    rw [slot_cons] at hv
    split at hv
    · rename_i e; subst e
      simp only [Option.some.injEq] at hv
      subst hv
      have h1 := h.1
      split at h1
      · rename_i v hsv; exact ⟨h1.1, v, hsv, h1.2⟩
      · exact h1.elim
    · exact slotsR_spec h.2 t v' hv

theorem heapR_spec {σ : Sig} {H : Heap} {N : Nat} : ∀ {H' : Heap}, heapR σ H N H' → ∀ n o', look H' n = some o' → n < N ∧ o'.c.bd (· < N) ∧
    ((∃ m o, σ n = some m ∧ look H m = some o ∧ obR σ o o') ∨ (σ n = none ∧ o'.c.size = 0))
  | [], _, n, o', h => by simp [look] at h
  | (s, u) :: r, h, n, o', ho => by
    simp only [heapR] at h
    rw [look_cons] at ho
    split at ho
    · rename_i e; subst e
      simp only [Option.some.injEq] at ho
      subst ho
      obtain ⟨⟨h1, h2, h3⟩, _⟩ := h
      refine ⟨blt_lt h1, Cont.und_bd h2, ?_⟩
      split at h3
      · rename_i m hm
        split at h3
        · rename_i o hmo; exact .inl ⟨m, o, hm, hmo, h3⟩
        · exact h3.elim
      · rename_i hm; exact .inr ⟨hm, h3⟩
    · exact heapR_spec h.2 n o' ho

theorem HSat.other {W0 : World} {Fr : Nat → Prop} {U : Nm → Prop} {H H' : Heap} {ρ : Rho} {w : World} {σ : Sig} {N : Nat} (h : HSat W0 Fr U H ρ w) (hh : heapR σ H N H') (hd : distN (images σ H') = true) :
    HSat W0 Fr (· < N) H' (ρ.under σ) w where
  os := h.os
  tape := h.tape
  output := h.output
  size := h.size
  frlt := h.frlt
  frame := h.frame
  used := fun n o' hn => (heapR_spec hh n o' hn).1
  bd := fun n o' hn => (heapR_spec hh n o' hn).2.1
  obj := fun n o' hn => by
    rcases (heapR_spec hh n o' hn).2.2 with ⟨m, o, h1, h2, h3⟩ | ⟨h1, h2⟩
    · have := OSat.other h3 (h.obj m o h2)
      simpa [Rho.under, h1] using this
    · simp only [Rho.under, h1]; exact h2
  inj := fun n m o o' p q hn hm hne hr hr2 hp hq => by
    rcases (heapR_spec hh n o hn).2.2 with ⟨n1, o1, h1, h2, h3⟩ | ⟨h1, h2⟩
    · rcases (heapR_spec hh m o' hm).2.2 with ⟨n2, o2, h4, h5, h6⟩ | ⟨h4, h5⟩
      · simp only [Rho.under, h1, h4] at hp hq
        have hne2 : n1 ≠ n2 := fun e => dist_inj hd hn hm hne h1 (e ▸ h4)
        obtain ⟨hc, hr'⟩ := obR_spec h3
        obtain ⟨hc2, hr2'⟩ := obR_spec h6
        refine h.inj n1 n2 o1 o2 p q h2 h5 hne2 (hr' hr).1 ?_ hp hq
        rcases hr2 with hr2 | hr2
        · exact .inl (hr2' hr2).1
        · exact .inr (Nat.lt_of_lt_of_le hr2 (contR_spec hc2).1)
      · simp only [Rho.under, h4] at hq; cases hq
    · simp only [Rho.under, h1] at hp; cases hp
  free := fun n o' p hn hr hp => by
    rcases (heapR_spec hh n o' hn).2.2 with ⟨m, o, h1, h2, h3⟩ | ⟨h1, h2⟩
    · simp only [Rho.under, h1] at hp
      exact h.free m o p h2 ((obR_spec h3).2 hr).1 hp
    · simp only [Rho.under, h1] at hp; cases hp

structure FitsOk (N0 : Nat) (s : SigL) (S S' : St) : Prop where
  N : Nat.ble N0 S'.N = true
  fx : fixN N0 s = true
  nt : S'.nt = S.nt
  dist : distN (images (sigAt s) S'.H) = true
  sl : slotsR (sigAt s) S.sl S'.N S'.sl
  hp : heapR (sigAt s) S.H S'.N S'.H

theorem Refines.by_names {N0 : Nat} {S S' : St} (s : SigL) (h : FitsOk N0 s S S') : Refines N0 S S' := by
  refine ⟨Nat.le_of_ble_eq_true h.N, fun W0 Fr ρ a w hS => ⟨ρ.under (sigAt s), ⟨hS.h.other h.hp h.dist, ?_⟩, fun n hn => by simp [Rho.under, fixN_spec h.fx n hn]⟩⟩
  exact {
    nd := hS.s.nd
    size := by rw [hS.s.size, h.nt]
    bd := fun t v hv => SV.und_bd _ (slotsR_spec h.sl t v hv).1
    val := fun t v hv => by
      obtain ⟨_, u, hu, he⟩ := slotsR_spec h.sl t v hv
      rw [← eqvR_den ρ (sigAt s) u v he]
      exact hS.s.val t u hu }

end Go.Sx
