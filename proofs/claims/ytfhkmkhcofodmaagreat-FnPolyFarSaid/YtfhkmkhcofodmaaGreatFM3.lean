/- Parts of a proof, in order: what each says stands at its head. No conditions. -/
import Derived.Laws.FloatArith
import Derived.ChangeKeysEq
import Derived.Test.YtfhkmkhcofodmaaGreatFM2
import Derived.Test.YtfhkmkhcofodmaaGreatFM1
namespace Go.Sx
open Go.RowKit
abbrev Sig := Nm → Option Nm
def Rho.under (ρ : Rho) (σ : Sig) : Rho := fun n => match σ n with
 | some m => ρ m
 | none => none
def sameN : Option Nm → Nm → Prop
 | some m, n => match Nat.beq m n with
   | true => True
   | false => False
 | none, _ => False
theorem sameN_eq {o : Option Nm} {n : Nm} (h : sameN o n) : o = some n := by
 cases o with
 | none => exact h.elim
 | some m =>
   simp only [sameN] at h
   split at h
   · rename_i hb; rw [Nat.eq_of_beq_eq_true hb]
   · exact h.elim
mutual
def eqvR (σ : Sig) : SV → SV → Prop
 | .tt, .tt => True
 | .ff, .ff => True
 | .tt, .bool b => b = true
 | .ff, .bool b => b = false
 | .bool b, .tt => b = true
 | .bool b, .ff => b = false
 | .bool a, .bool b => a = b
 | .int k a, .int k' b => match kEq k k' with
   | true => a = b
   | false => False
 | .flt k a, .flt k' b => match fkEq k k' with
   | true => a = b
   | false => False
 | .str a, .str b => a = b
 | .ptr n o, .ptr n' o' => sameN (σ n') n ∧ o = o'
 | .nilp, .nilp => True
 | .slc n o l c, .slc n' o' l' c' => sameN (σ n') n ∧ o = o' ∧ l = l' ∧ c = c'
 | .nils, .nils => True
 | .slcc n l, .slcc n' l' => sameN (σ n') n ∧ l = l'
 | .nils, .slcc n' l' => match σ n' with
   | none => l' = 0
   | some _ => False
 | .agg a, .agg b => eqvRL σ a b
 | .tup a, .tup b => eqvRL σ a b
 | .ifc t v, .ifc t' v' => match Nat.beq t t' with
   | true => eqvR σ v v'
   | false => False
 | .nili, .nili => True
 | .fn f a c, .fn f' a' c' => f = f' ∧ eqvRL σ a a' ∧ eqvRL σ c c'
 | .nilf, .nilf => True
 | .sla a l c, .sla a' l' c' => a = a' ∧ l = l' ∧ c = c'
 | _, _ => False
def eqvRL (σ : Sig) : List SV → List SV → Prop
 | [], [] => True
 | x :: xs, y :: ys => eqvR σ x y ∧ eqvRL σ xs ys
 | _, _ => False
end
theorem under_addr {ρ : Rho} {σ : Sig} {n n' : Nm} (h : sameN (σ n') n) (o : Nat) : ρ.addr n o = (ρ.under σ).addr n' o := by
 simp [Rho.addr, Rho.under, sameN_eq h]
theorem under_addrC {ρ : Rho} {σ : Sig} {n n' : Nm} (h : sameN (σ n') n) : ρ.addrC n = (ρ.under σ).addrC n' := by
 simp [Rho.addrC, Rho.under, sameN_eq h]
theorem under_cap {ρ : Rho} {σ : Sig} {n n' : Nm} (h : sameN (σ n') n) : ρ.cap n = (ρ.under σ).cap n' := by
 simp [Rho.cap, Rho.under, sameN_eq h]
mutual
theorem eqvR_den (ρ : Rho) (σ : Sig) : ∀ (x y : SV), eqvR σ x y → x.den ρ = y.den (ρ.under σ)
 | .agg a, y, h => by cases y <;> simp only [eqvR] at h; simp [SV.den, eqvRL_den ρ σ a _ h]
 | .tup a, y, h => by cases y <;> simp only [eqvR] at h; simp [SV.den, eqvRL_den ρ σ a _ h]
 | .ifc t v, y, h => by
   cases y <;> simp only [eqvR] at h
   split at h
   · rename_i ht; have := Nat.eq_of_beq_eq_true ht; subst this; simp [SV.den, eqvR_den ρ σ v _ h]
   · exact h.elim
 | .fn f a c, y, h => by
   cases y <;> simp only [eqvR] at h
   obtain ⟨rfl, h1, h2⟩ := h
   simp [SV.den, eqvRL_den ρ σ a _ h1, eqvRL_den ρ σ c _ h2]
 | .int k a, y, h => by
   cases y <;> simp only [eqvR] at h
   split at h
   · rename_i ht; have := kEq_eq ht; subst this; simp [SV.den, h]
   · exact h.elim
 | .flt k a, y, h => by
   cases y <;> simp only [eqvR] at h
   split at h
   · rename_i ht; have := fkEq_eq ht; subst this; simp [SV.den, h]
   · exact h.elim
 | .ptr n o, y, h => by
   cases y <;> simp only [eqvR] at h
   obtain ⟨h1, rfl⟩ := h
   simp [SV.den, under_addr h1]
 | .slc n o l c, y, h => by
   cases y <;> simp only [eqvR] at h
   obtain ⟨h1, rfl, rfl, rfl⟩ := h
   simp [SV.den, under_addr h1]
 | .slcc n l, y, h => by
   cases y <;> simp only [eqvR] at h
   obtain ⟨h1, rfl⟩ := h
   simp [SV.den, under_addrC h1, under_cap h1]
 | .nils, y, h => by
   cases y <;> simp only [eqvR] at h
   · rfl
   · split at h
     · rename_i hs; subst h; simp [SV.den, Rho.addrC, Rho.cap, Rho.under, hs]
     · exact h.elim
 | .sla a l c, y, h => by
   cases y <;> simp only [eqvR] at h
   obtain ⟨rfl, rfl, rfl⟩ := h
   rfl
 | .tt, y, h | .ff, y, h | .bool _, y, h | .str _, y, h | .nilp, y, h | .nili, y, h | .nilf, y, h => by
   cases y <;> simp_all [eqvR, SV.den]
theorem eqvRL_den (ρ : Rho) (σ : Sig) : ∀ (x y : List SV), eqvRL σ x y → denL ρ x = denL (ρ.under σ) y
 | [], y, h => by cases y <;> simp_all [eqvRL, denL]
 | x :: r, y, h => by
   cases y with
   | nil => simp [eqvRL] at h
   | cons u s => simp only [eqvRL] at h; simp [denL, eqvR_den ρ σ x u h.1, eqvRL_den ρ σ r s h.2]
end
mutual
def SV.und (N : Nat) : SV → Bool
 | .ptr n _ => Nat.blt n N
 | .slc n _ _ _ => Nat.blt n N
 | .slcc n _ => Nat.blt n N
 | .agg cs => undL N cs
 | .tup vs => undL N vs
 | .ifc _ v => v.und N
 | .fn _ a c => undL N a && undL N c
 | _ => true
def undL (N : Nat) : List SV → Bool
 | [] => true
 | v :: r => v.und N && undL N r
end
theorem blt_lt {n m : Nat} (h : Nat.blt n m = true) : n < m := by
 have := Nat.le_of_ble_eq_true h
 omega
mutual
theorem SV.und_bd {N : Nat} : ∀ v : SV, v.und N = true → v.bd (· < N)
 | .ptr n _ => by intro h; exact blt_lt h
 | .slc n _ _ _ => by intro h; exact blt_lt h
 | .slcc n _ => by intro h; exact blt_lt h
 | .agg cs => by simpa [SV.bd, SV.und] using undL_bd cs
 | .tup cs => by simpa [SV.bd, SV.und] using undL_bd cs
 | .ifc _ v => by simpa [SV.bd, SV.und] using SV.und_bd v
 | .fn _ a c => by simpa [SV.bd, SV.und] using fun h1 h2 => ⟨undL_bd a h1, undL_bd c h2⟩
 | .tt | .ff | .bool _ | .int _ _ | .flt _ _ | .str _ | .nilp | .nils | .nili | .nilf | .sla _ _ _ => by simp [SV.bd]
theorem undL_bd {N : Nat} : ∀ l : List SV, undL N l = true → bdL (· < N) l
 | [] => by simp [bdL]
 | v :: r => by simpa [bdL, undL] using fun h1 h2 => ⟨SV.und_bd v h1, undL_bd r h2⟩
end
def uptoR (σ : Sig) (i n : Nat) : List SV → List SV → Prop
 | [], _ => n = i
 | x :: xs, y :: ys => eqvR σ x y ∧ uptoR σ (i + 1) n xs ys
 | _ :: _, [] => False
theorem uptoR_spec {σ : Sig} {n : Nat} : ∀ {l l' : List SV} {i : Nat}, uptoR σ i n l l' → n = i + l.length ∧ ∀ j, j < l.length → eqvR σ ((getL l j).getD .nilp) ((getL l' j).getD .nilp)
 | [], _, i, h => ⟨h, fun j hj => by simp at hj⟩
 | x :: xs, y :: ys, i, h => by
   obtain ⟨h1, h2⟩ := h
   obtain ⟨h3, h4⟩ := uptoR_spec h2
   refine ⟨by simp; omega, fun j hj => ?_⟩
   cases j with
   | zero => simpa [getL] using h1
   | succ j => simpa [getL] using h4 j (by simpa using hj)
 | _ :: _, [], _, h => by simp [uptoR] at h
def uptoR2 (σ : Sig) (i n : Nat) : List SV → List SV → Prop
 | [], [] => True
 | x :: xs, y :: ys => (i < n → eqvR σ x y) ∧ uptoR2 σ (i + 1) n xs ys
 | [], _ :: _ => n ≤ i
 | _ :: _, [] => n ≤ i
def genR (σ : Sig) (f : Nat → SV) (i n : Nat) : List SV → Prop
 | [] => n ≤ i
 | y :: ys => (i < n → eqvR σ (f i) y) ∧ genR σ f (i + 1) n ys
def genC (σ : Sig) (f : Nat → SV) (i n : Nat) : List SV → Prop
 | [] => i ≤ n
 | y :: ys => eqvR σ (f i) y ∧ genC σ f (i + 1) n ys
theorem uptoR2_spec {σ : Sig} {n : Nat} : ∀ {l l' : List SV} {i : Nat}, uptoR2 σ i n l l' → ∀ j, i + j < n → eqvR σ ((getL l j).getD .nilp) ((getL l' j).getD .nilp)
 | [], [], i, _, j, _ => by simp [getL, eqvR]
 | x :: xs, y :: ys, i, h, j, hj => by
   obtain ⟨h1, h2⟩ := h
   cases j with
   | zero => simpa [getL] using h1 (by omega)
   | succ j => simpa [getL] using uptoR2_spec h2 j (by omega)
 | [], _ :: _, i, h, j, hj => by have h : n ≤ i := h; omega
 | _ :: _, [], i, h, j, hj => by have h : n ≤ i := h; omega
theorem genR_spec {σ : Sig} {f : Nat → SV} {n : Nat} : ∀ {l' : List SV} {i : Nat}, genR σ f i n l' → ∀ j, i + j < n → eqvR σ (f (i + j)) ((getL l' j).getD .nilp)
 | [], i, h, j, hj => by have h : n ≤ i := h; omega
 | y :: ys, i, h, j, hj => by
   obtain ⟨h1, h2⟩ := h
   cases j with
   | zero => simpa [getL] using h1 (by omega)
   | succ j =>
     have := genR_spec h2 j (by omega)
     rw [show i + (j + 1) = i + 1 + j by omega]
     simpa [getL] using this
theorem genC_spec {σ : Sig} {f : Nat → SV} {n : Nat} : ∀ {l' : List SV} {i : Nat}, genC σ f i n l' → i + l'.length ≤ n ∧ ∀ j, j < l'.length → eqvR σ (f (i + j)) ((getL l' j).getD .nilp)
 | [], i, h => ⟨h, fun j hj => by simp at hj⟩
 | y :: ys, i, h => by
   obtain ⟨h1, h2⟩ := h
   obtain ⟨h3, h4⟩ := genC_spec h2
   refine ⟨by simp; omega, fun j hj => ?_⟩
   cases j with
   | zero => simpa [getL] using h1
   | succ j =>
     have := h4 j (by simpa using hj)
     rw [show i + (j + 1) = i + 1 + j by omega]
     simpa [getL] using this
def contR (σ : Sig) (c c' : Cont) : Prop :=
 match c, c' with
 | .cells l, .cells l' => eqvRL σ l l'
 | .ints k n g, .ints k' n' g' => match kEq k k' with
   | true => n' ≤ n ∧ ∀ i, i < n' → g i = g' i
   | false => False
 | .flts k n g, .flts k' n' g' => match fkEq k k' with
   | true => n' ≤ n ∧ ∀ i, i < n' → g i = g' i
   | false => False
 | .cells l, .ints k n g => match intsOf k l with
   | some xs => n ≤ xs.length ∧ ∀ i, i < n → xs.getD i 0 = g i
   | none => False
 | .cells l, .flts k n g => match fltsOf k l with
   | some xs => n ≤ xs.length ∧ ∀ i, i < n → xs.getD i 0 = g i
   | none => False
 | .cells l, .upto n l' => uptoR σ 0 n l l'
 | .upto n l, .upto n' l' => n' = n ∧ uptoR2 σ 0 n' l l'
 | .gen n f, .upto n' l' => n' ≤ n ∧ genR σ f 0 n' l'
 | .gen n f, .cells l' => genC σ f 0 n l'
 | c, c' => c'.size ≤ c.size ∧ ∀ i, i < c'.size → eqvR σ (c.at i) (c'.at i)
theorem eqvRL_len {σ : Sig} : ∀ {x y : List SV}, eqvRL σ x y → x.length = y.length
 | [], [], _ => rfl
 | [], _ :: _, h => by simp [eqvRL] at h
 | _ :: _, [], h => by simp [eqvRL] at h
 | x :: r, y :: s, h => by simp only [eqvRL] at h; simp [eqvRL_len h.2]
theorem eqvRL_get {σ : Sig} : ∀ {x y : List SV}, eqvRL σ x y → ∀ {i : Nat}, i < y.length → eqvR σ ((getL x i).getD .nilp) ((getL y i).getD .nilp)
 | [], [], _, i, h => by simp at h
 | [], _ :: _, h, _, _ => by simp [eqvRL] at h
 | _ :: _, [], h, _, _ => by simp [eqvRL] at h
 | x :: r, y :: s, h, i, hi => by
   simp only [eqvRL] at h
   cases i with
   | zero => simpa [getL] using h.1
   | succ i => simpa [getL] using eqvRL_get h.2 (by simpa using hi)
theorem contR_spec {σ : Sig} {c c' : Cont} (h : contR σ c c') : c'.size ≤ c.size ∧ ∀ (ρ : Rho) i, i < c'.size → (c.at i).den ρ = (c'.at i).den (ρ.under σ) := by
 unfold contR at h
 split at h
 · refine ⟨by simp [Cont.size, eqvRL_len h], fun ρ i hi => eqvR_den ρ σ _ _ (eqvRL_get h hi)⟩
 · split at h
   · rename_i hk
     have := kEq_eq hk; subst this
     exact ⟨h.1, fun ρ i hi => by simp [Cont.at, SV.den, h.2 i hi]⟩
   · exact h.elim
 · split at h
   · rename_i hk
     have := fkEq_eq hk; subst this
     exact ⟨h.1, fun ρ i hi => by simp [Cont.at, SV.den, h.2 i hi]⟩
   · exact h.elim
 · split at h
   · rename_i xs hx
     have := intsOf_spec hx; subst this
     refine ⟨by simpa [Cont.size] using h.1, fun ρ i hi => ?_⟩
     have hi' : i < xs.length := Nat.lt_of_lt_of_le hi h.1
     have := h.2 i hi
     simp only [Cont.at, getL_eq, List.getElem?_map, List.getElem?_eq_getElem hi', Option.map_some, Option.getD_some, SV.den]
     rw [List.getD_eq_getElem?_getD, List.getElem?_eq_getElem hi', Option.getD_some] at this
     rw [this]
   · exact h.elim
 · split at h
   · rename_i xs hx
     have := fltsOf_spec hx; subst this
     refine ⟨by simpa [Cont.size] using h.1, fun ρ i hi => ?_⟩
     have hi' : i < xs.length := Nat.lt_of_lt_of_le hi h.1
     have := h.2 i hi
     simp only [Cont.at, getL_eq, List.getElem?_map, List.getElem?_eq_getElem hi', Option.map_some, Option.getD_some, SV.den]
     rw [List.getD_eq_getElem?_getD, List.getElem?_eq_getElem hi', Option.getD_some] at this
     rw [this]
   · exact h.elim
 · rename_i l n l'
   obtain ⟨h1, h2⟩ := uptoR_spec h
   rw [Nat.zero_add] at h1
   refine ⟨by simp [Cont.size, h1], fun ρ i hi => eqvR_den ρ σ _ _ (h2 i (by have hi' : i < n := hi; omega))⟩
 · rename_i n l n' l'
   obtain ⟨rfl, h⟩ := h
   refine ⟨Nat.le_refl _, fun ρ i hi => ?_⟩
   have hi' : 0 + i < n' := by have : i < n' := hi; omega
   exact eqvR_den ρ σ _ _ (uptoR2_spec h i hi')
 · rename_i n f n' l'
   refine ⟨h.1, fun ρ i hi => ?_⟩
   have hi' : 0 + i < n' := by have : i < n' := hi; omega
   have := genR_spec h.2 i hi'
   rw [Nat.zero_add] at this
   exact eqvR_den ρ σ _ _ this
 · rename_i n f l'
   obtain ⟨h1, h2⟩ := genC_spec h
   refine ⟨by rw [Nat.zero_add] at h1; exact h1, fun ρ i hi => ?_⟩
   have := h2 i hi
   rw [Nat.zero_add] at this
   exact eqvR_den ρ σ _ _ this
 · exact ⟨h.1, fun ρ i hi => eqvR_den ρ σ _ _ (h.2 i hi)⟩
def obR (σ : Sig) (o o' : Ob) : Prop :=
 match o'.rw with
 | false => contR σ o.c o'.c
 | true => match o.rw with
   | false => False
   | true => o.elem = o'.elem ∧ o.es = o'.es ∧ contR σ o.c o'.c
theorem obR_spec {σ : Sig} {o o' : Ob} (h : obR σ o o') : contR σ o.c o'.c ∧ (o'.rw = true → o.rw = true ∧ o.elem = o'.elem ∧ o.es = o'.es) := by
 unfold obR at h
 split at h
 · rename_i hr; exact ⟨h, fun h' => by rw [hr] at h'; cases h'⟩
 · split at h
   · exact h.elim
   · rename_i hr; exact ⟨h.2.2, fun _ => ⟨hr, h.1, h.2.1⟩⟩
theorem OSat.other {w : World} {ρ : Rho} {σ : Sig} {o o' : Ob} (h : obR σ o o') {p : Option (Nat × Nat × Nat)} (hs : OSat w ρ o p) : OSat w (ρ.under σ) o' p := by
 obtain ⟨hc, hr⟩ := obR_spec h
 obtain ⟨h1, h2⟩ := contR_spec hc
 cases p with
 | none =>
   have : o.c.size = 0 := hs
   show o'.c.size = 0
   omega
 | some q =>
   obtain ⟨b, off, cp⟩ := q
   refine ⟨fun i hi => ?_, fun h' => ?_, fun h' => hs.2.2 (by omega)⟩
   · rw [← h2 ρ i hi]; exact hs.1 i (by omega)
   · obtain ⟨h3, h4, h5⟩ := hr h'
     obtain ⟨h6, arr, h7, h8, h9, h10⟩ := hs.2.1 h3
     exact ⟨h6, arr, by rw [← h4]; exact h7, by omega, fun hh => by rw [← h5]; exact h9 (by rw [h5]; exact hh), h10⟩
def Cont.und (N : Nat) : Cont → Prop
 | .cells l => undL N l = true
 | .ints _ _ _ => True
 | .flts _ _ _ => True
 | .gen n f => ∀ i, i < n → (f i).und N = true
 | .upto _ l => undL N l = true
theorem Cont.und_bd {N : Nat} {c : Cont} (h : c.und N) : c.bd (· < N) := by
 intro i hi
 cases c with
 | cells l =>
   have := undL_bd l h
   have hi' : i < l.length := hi
   simp only [Cont.at, getL_eq, List.getElem?_eq_getElem hi', Option.getD_some]
   exact (bdL_iff _ l).1 this _ (List.getElem_mem hi')
 | ints k n g => trivial
 | flts k n g => trivial
 | gen n f => exact SV.und_bd _ (h i hi)
 | upto n l =>
   have := undL_bd l h
   simp only [Cont.at, getL_eq]
   cases hg : l[i]? with
   | none => trivial
   | some v => exact (bdL_iff _ l).1 this _ (List.mem_of_getElem? hg)
abbrev SigL := List (Nm × Option Nm)
def sigAt : SigL → Sig
 | [], n => some n
 | (m, x) :: r, n => match Nat.beq m n with
   | true => x
   | false => sigAt r n
def slotsR (σ : Sig) (sl : Slots) (N : Nat) : Slots → Prop
 | [] => True
 | (t, v') :: r => (match slot sl t with
   | some v => v'.und N = true ∧ eqvR σ v v'
   | none => False) ∧ slotsR σ sl N r
def heapR (σ : Sig) (H : Heap) (N : Nat) : Heap → Prop
 | [] => True
 | (n, o') :: r => (Nat.blt n N = true ∧ o'.c.und N ∧ match σ n with
   | some m => match look H m with
     | some o => obR σ o o'
     | none => False
   | none => o'.c.size = 0) ∧ heapR σ H N r
def memN (n : Nm) : List Nm → Bool
 | [] => false
 | m :: r => Nat.beq m n || memN n r
def distN : List Nm → Bool
 | [] => true
 | n :: r => !memN n r && distN r
def images (σ : Sig) : Heap → List Nm
 | [] => []
 | (n, _) :: r => match σ n with
   | some m => m :: images σ r
   | none => images σ r
def fixN (N0 : Nat) : SigL → Bool
 | [] => true
 | (n, _) :: r => Nat.ble N0 n && fixN N0 r
theorem fixN_spec {N0 : Nat} : ∀ {s : SigL}, fixN N0 s = true → ∀ n, n < N0 → sigAt s n = some n
 | [], _, n, _ => rfl
 | (m, x) :: r, h, n, hn => by
   simp only [fixN, Bool.and_eq_true] at h
   have hm := Nat.le_of_ble_eq_true h.1
   simp only [sigAt]
   cases hb : Nat.beq m n
   · exact fixN_spec h.2 n hn
   · have := Nat.eq_of_beq_eq_true hb; omega
theorem memN_of {σ : Sig} {n m : Nm} : ∀ {H : Heap} {o : Ob}, look H n = some o → σ n = some m → memN m (images σ H) = true
 | [], o, h, _ => by simp [look] at h
 | (k, u) :: r, o, h, hs => by
   rw [look_cons] at h
   simp only [images]
   split at h
   · rename_i e; subst e; simp [hs, memN]
   · have := memN_of h hs
     split
     · simp [memN, this]
     · exact this
theorem dist_inj {σ : Sig} : ∀ {H : Heap}, distN (images σ H) = true → ∀ {n m : Nm} {o o' : Ob} {x : Nm}, look H n = some o → look H m = some o' → n ≠ m → σ n = some x → σ m = some x → False
 | [], _, n, m, o, o', x, h, _, _, _, _ => by simp [look] at h
 | (k, u) :: r, hd, n, m, o, o', x, hn, hm, hne, h1, h2 => by
   rw [look_cons] at hn hm
   simp only [images] at hd
   split at hn
   · rename_i e; subst e
     rw [if_neg hne] at hm
     rw [h1] at hd
     simp only [distN, Bool.and_eq_true, Bool.not_eq_true'] at hd
     rw [memN_of hm h2] at hd
     exact absurd hd.1 (by decide)
   · split at hm
     · rename_i e; subst e
       rw [h2] at hd
       simp only [distN, Bool.and_eq_true, Bool.not_eq_true'] at hd
       rw [memN_of hn h1] at hd
       exact absurd hd.1 (by decide)
     · refine dist_inj ?_ hn hm hne h1 h2
       split at hd
       · simp only [distN, Bool.and_eq_true] at hd; exact hd.2
       · exact hd
theorem slotsR_spec {σ : Sig} {sl : Slots} {N : Nat} : ∀ {sl' : Slots}, slotsR σ sl N sl' → ∀ t v', slot sl' t = some v' → v'.und N = true ∧ ∃ v, slot sl t = some v ∧ eqvR σ v v'
 | [], _, t, v', h => by simp [slot] at h
 | (s, u) :: r, h, t, v', hv => by
   simp only [slotsR] at h
   rw [slot_cons] at hv
   split at hv
   · rename_i e; subst e
     simp only [Option.some.injEq] at hv
     subst hv
     have h1 := h.1
     split at h1
     · rename_i v hsv; exact ⟨h1.1, v, hsv, h1.2⟩
     · exact h1.elim
   · exact slotsR_spec h.2 t v' hv
theorem heapR_spec {σ : Sig} {H : Heap} {N : Nat} : ∀ {H' : Heap}, heapR σ H N H' → ∀ n o', look H' n = some o' → n < N ∧ o'.c.bd (· < N) ∧
   ((∃ m o, σ n = some m ∧ look H m = some o ∧ obR σ o o') ∨ (σ n = none ∧ o'.c.size = 0))
 | [], _, n, o', h => by simp [look] at h
 | (s, u) :: r, h, n, o', ho => by
   simp only [heapR] at h
   rw [look_cons] at ho
   split at ho
   · rename_i e; subst e
     simp only [Option.some.injEq] at ho
     subst ho
     obtain ⟨⟨h1, h2, h3⟩, _⟩ := h
     refine ⟨blt_lt h1, Cont.und_bd h2, ?_⟩
     split at h3
     · rename_i m hm
       split at h3
       · rename_i o hmo; exact .inl ⟨m, o, hm, hmo, h3⟩
       · exact h3.elim
     · rename_i hm; exact .inr ⟨hm, h3⟩
   · exact heapR_spec h.2 n o' ho
theorem HSat.other {W0 : World} {Fr : Nat → Prop} {U : Nm → Prop} {H H' : Heap} {ρ : Rho} {w : World} {σ : Sig} {N : Nat} (h : HSat W0 Fr U H ρ w) (hh : heapR σ H N H') (hd : distN (images σ H') = true) :
   HSat W0 Fr (· < N) H' (ρ.under σ) w where
 os := h.os
 tape := h.tape
 output := h.output
 size := h.size
 frlt := h.frlt
 frame := h.frame
 used := fun n o' hn => (heapR_spec hh n o' hn).1
 bd := fun n o' hn => (heapR_spec hh n o' hn).2.1
 obj := fun n o' hn => by
   rcases (heapR_spec hh n o' hn).2.2 with ⟨m, o, h1, h2, h3⟩ | ⟨h1, h2⟩
   · have := OSat.other h3 (h.obj m o h2)
     simpa [Rho.under, h1] using this
   · simp only [Rho.under, h1]; exact h2
 inj := fun n m o o' p q hn hm hne hr hr2 hp hq => by
   rcases (heapR_spec hh n o hn).2.2 with ⟨n1, o1, h1, h2, h3⟩ | ⟨h1, h2⟩
   · rcases (heapR_spec hh m o' hm).2.2 with ⟨n2, o2, h4, h5, h6⟩ | ⟨h4, h5⟩
     · simp only [Rho.under, h1, h4] at hp hq
       have hne2 : n1 ≠ n2 := fun e => dist_inj hd hn hm hne h1 (e ▸ h4)
       obtain ⟨hc, hr'⟩ := obR_spec h3
       obtain ⟨hc2, hr2'⟩ := obR_spec h6
       refine h.inj n1 n2 o1 o2 p q h2 h5 hne2 (hr' hr).1 ?_ hp hq
       rcases hr2 with hr2 | hr2
       · exact .inl (hr2' hr2).1
       · exact .inr (Nat.lt_of_lt_of_le hr2 (contR_spec hc2).1)
     · simp only [Rho.under, h4] at hq; cases hq
   · simp only [Rho.under, h1] at hp; cases hp
 free := fun n o' p hn hr hp => by
   rcases (heapR_spec hh n o' hn).2.2 with ⟨m, o, h1, h2, h3⟩ | ⟨h1, h2⟩
   · simp only [Rho.under, h1] at hp
     exact h.free m o p h2 ((obR_spec h3).2 hr).1 hp
   · simp only [Rho.under, h1] at hp; cases hp
structure FitsOk (N0 : Nat) (s : SigL) (S S' : St) : Prop where
 N : Nat.ble N0 S'.N = true
 fx : fixN N0 s = true
 nt : S'.nt = S.nt
 dist : distN (images (sigAt s) S'.H) = true
 sl : slotsR (sigAt s) S.sl S'.N S'.sl
 hp : heapR (sigAt s) S.H S'.N S'.H
theorem Refines.by_names {N0 : Nat} {S S' : St} (s : SigL) (h : FitsOk N0 s S S') : Refines N0 S S' := by
 refine ⟨Nat.le_of_ble_eq_true h.N, fun W0 Fr ρ a w hS => ⟨ρ.under (sigAt s), ⟨hS.h.other h.hp h.dist, ?_⟩, fun n hn => by simp [Rho.under, fixN_spec h.fx n hn]⟩⟩
 exact {
   nd := hS.s.nd
   size := by rw [hS.s.size, h.nt]
   bd := fun t v hv => SV.und_bd _ (slotsR_spec h.sl t v hv).1
   val := fun t v hv => by
     obtain ⟨_, u, hu, he⟩ := slotsR_spec h.sl t v hv
     rw [← eqvR_den ρ (sigAt s) u v he]
     exact hS.s.val t u hu }
end Go.Sx

namespace Go.Sx
open Go.RowKit
mutual
def SV.ren (θ : Nm → Nm) : SV → SV
 | .ptr n o => .ptr (θ n) o
 | .slc n o l c => .slc (θ n) o l c
 | .slcc n l => .slcc (θ n) l
 | .agg cs => .agg (renL θ cs)
 | .tup vs => .tup (renL θ vs)
 | .ifc t v => .ifc t (v.ren θ)
 | .fn f a c => .fn f (renL θ a) (renL θ c)
 | .tt => .tt
 | .ff => .ff
 | .bool b => .bool b
 | .int k n => .int k n
 | .flt k n => .flt k n
 | .str s => .str s
 | .nilp => .nilp
 | .nils => .nils
 | .nili => .nili
 | .nilf => .nilf
 | .sla a l c => .sla a l c
def renL (θ : Nm → Nm) : List SV → List SV
 | [] => []
 | v :: r => v.ren θ :: renL θ r
end
mutual
theorem SV.ren_den (ρ : Rho) (θ : Nm → Nm) : ∀ v : SV, (v.ren θ).den ρ = v.den fun i => ρ (θ i)
 | .ptr n o => by simp [SV.ren, SV.den, Rho.addr]
 | .slc n o l c => by simp [SV.ren, SV.den, Rho.addr]
 | .slcc n l => by simp [SV.ren, SV.den, Rho.addrC, Rho.cap]
 | .agg cs => by simp [SV.ren, SV.den, renL_den ρ θ cs]
 | .tup cs => by simp [SV.ren, SV.den, renL_den ρ θ cs]
 | .ifc t v => by simp [SV.ren, SV.den, SV.ren_den ρ θ v]
 | .fn f a c => by simp [SV.ren, SV.den, renL_den ρ θ a, renL_den ρ θ c]
 | .tt | .ff | .bool _ | .int _ _ | .flt _ _ | .str _ | .nilp | .nils | .nili | .nilf | .sla _ _ _ => by simp [SV.ren, SV.den]
theorem renL_den (ρ : Rho) (θ : Nm → Nm) : ∀ l : List SV, denL ρ (renL θ l) = denL (fun i => ρ (θ i)) l
 | [] => by simp [renL, denL]
 | v :: r => by simp [renL, denL, SV.ren_den ρ θ v, renL_den ρ θ r]
end
mutual
theorem SV.ren_bd {U V : Nm → Prop} {θ : Nm → Nm} (h : ∀ n, U n → V (θ n)) : ∀ v : SV, v.bd U → (v.ren θ).bd V
 | .ptr n o => by simpa [SV.ren, SV.bd] using h n
 | .slc n o l c => by simpa [SV.ren, SV.bd] using h n
 | .slcc n l => by simpa [SV.ren, SV.bd] using h n
 | .agg cs => by simpa [SV.ren, SV.bd] using renL_bd h cs
 | .tup cs => by simpa [SV.ren, SV.bd] using renL_bd h cs
 | .ifc t v => by simpa [SV.ren, SV.bd] using SV.ren_bd h v
 | .fn f a c => by simpa [SV.ren, SV.bd] using fun h1 h2 => ⟨renL_bd h a h1, renL_bd h c h2⟩
 | .tt | .ff | .bool _ | .int _ _ | .flt _ _ | .str _ | .nilp | .nils | .nili | .nilf | .sla _ _ _ => by simp [SV.ren, SV.bd]
theorem renL_bd {U V : Nm → Prop} {θ : Nm → Nm} (h : ∀ n, U n → V (θ n)) : ∀ l : List SV, bdL U l → bdL V (renL θ l)
 | [] => by simp [renL, bdL]
 | v :: r => by simpa [renL, bdL] using fun h1 h2 => ⟨SV.ren_bd h v h1, renL_bd h r h2⟩
end
theorem renL_len (θ : Nm → Nm) : ∀ l : List SV, (renL θ l).length = l.length
 | [] => rfl
 | v :: r => by simp [renL, renL_len θ r]
theorem renL_get (θ : Nm → Nm) : ∀ (l : List SV) (i : Nat), i < l.length → (getL (renL θ l) i).getD .nilp = ((getL l i).getD .nilp).ren θ
 | [], i, h => by simp at h
 | v :: r, 0, _ => by simp [renL, getL]
 | v :: r, i + 1, h => by simpa [renL, getL] using renL_get θ r i (by simpa using h)
theorem renL_getD (θ : Nm → Nm) : ∀ (l : List SV) (i : Nat), (getL (renL θ l) i).getD .nilp = ((getL l i).getD .nilp).ren θ
 | [], i => by simp [renL, getL, SV.ren]
 | v :: r, 0 => by simp [renL, getL]
 | v :: r, i + 1 => by simpa [renL, getL] using renL_getD θ r i
def Cont.ren (θ : Nm → Nm) : Cont → Cont
 | .cells l => .cells (renL θ l)
 | .ints k n g => .ints k n g
 | .flts k n g => .flts k n g
 | .gen n f => .gen n fun i => (f i).ren θ
 | .upto n l => .upto n (renL θ l)
theorem Cont.ren_spec (θ : Nm → Nm) (c : Cont) : (c.ren θ).size = c.size ∧ ∀ i, i < c.size → (c.ren θ).at i = (c.at i).ren θ := by
 cases c with
 | cells l => exact ⟨by simp [Cont.ren, Cont.size, renL_len], fun i hi => by simp only [Cont.ren, Cont.at]; exact renL_get θ l i hi⟩
 | ints k n g => exact ⟨rfl, fun i hi => by simp [Cont.ren, Cont.at, SV.ren]⟩
 | flts k n g => exact ⟨rfl, fun i hi => by simp [Cont.ren, Cont.at, SV.ren]⟩
 | gen n f => exact ⟨rfl, fun i hi => rfl⟩
 | upto n l => exact ⟨rfl, fun i _ => renL_getD θ l i⟩
def Ob.ren (θ : Nm → Nm) (o : Ob) : Ob := ⟨o.rw, o.elem, o.c.ren θ, o.es⟩
def renH (θ : Nm → Nm) : Heap → Heap
 | [] => []
 | (n, o) :: r => (θ n, o.ren θ) :: renH θ r
theorem look_ren {θ : Nm → Nm} {n : Nm} {o : Ob} : ∀ {h : Heap}, look (renH θ h) n = some o → ∃ i o0, look h i = some o0 ∧ θ i = n ∧ o = o0.ren θ
 | [], h => by simp [renH, look] at h
 | (m, u) :: r, h => by
   simp only [renH, look_cons] at h
   split at h
   · rename_i e
     simp only [Option.some.injEq] at h
     exact ⟨m, u, by simp [look_cons], e, h.symm⟩
   · rename_i e
     obtain ⟨i, o0, h1, h2, h3⟩ := look_ren h
     exact ⟨i, o0, by rw [look_cons, if_neg (fun e' => e (by rw [e', h2]))]; exact h1, h2, h3⟩
theorem look_ren_some {θ : Nm → Nm} {i : Nm} {o : Ob} : ∀ {h : Heap}, look h i = some o → ∃ o', look (renH θ h) (θ i) = some o'
 | [], h => by simp [look] at h
 | (m, u) :: r, h => by
   rw [look_cons] at h
   simp only [renH, look_cons]
   split
   · exact ⟨_, rfl⟩
   · rename_i e
     split at h
     · rename_i e'; subst e'; exact absurd rfl e
     · exact look_ren_some h
structure HC where
 args : List SV
 heap : Heap
 val : SV
 wr : Heap
 news : Heap
 obl : Option Prop
inductive RdM where
 | fail
 | ret (hc : HC)
 | read (n : Nm) (k : Ob → RdM)
def RdM.run (rd : Nm → Option Ob) : RdM → List Nm → Option (List Nm × HC)
 | .fail, _ => none
 | .ret hc, sg => some (sg, hc)
 | .read n k, sg => match rd n with
   | some o => (k o).run rd (sg ++ [n])
   | none => none
def RdM.All (Q : List (Nm × Ob) → HC → Prop) : RdM → List (Nm × Ob) → Prop
 | .fail, _ => True
 | .ret hc, acc => Q acc hc
 | .read n k, acc => ∀ o, (k o).All Q (acc ++ [(n, o)])
def fsts : List (Nm × Ob) → List Nm
 | [] => []
 | (n, _) :: r => n :: fsts r
theorem fsts_append : ∀ a b, fsts (a ++ b) = fsts a ++ fsts b
 | [], b => rfl
 | (n, o) :: r, b => by simp [fsts, fsts_append r b]
theorem RdM.all_run {rd : Nm → Option Ob} {Q : List (Nm × Ob) → HC → Prop} : ∀ {m : RdM} {acc : List (Nm × Ob)} {sg : List Nm} {hc : HC}, m.All Q acc → (∀ p ∈ acc, rd p.1 = some p.2) → m.run rd (fsts acc) = some (sg, hc) →
   ∃ acc', fsts acc' = sg ∧ (∀ p ∈ acc', rd p.1 = some p.2) ∧ Q acc' hc
 | .fail, _, _, _, _, _, h => by simp [RdM.run] at h
 | .ret hc', acc, sg, hc, hq, hacc, h => by
   simp only [RdM.run, Option.some.injEq, Prod.mk.injEq] at h
   obtain ⟨rfl, rfl⟩ := h
   exact ⟨acc, rfl, hacc, hq⟩
 | .read n k, acc, sg, hc, hq, hacc, h => by
   simp only [RdM.run] at h
   split at h
   · rename_i o ho
     refine RdM.all_run (hq o) (acc := acc ++ [(n, o)]) (fun p hp => ?_) (by rw [fsts_append]; exact h)
     rcases List.mem_append.1 hp with hp | hp
     · exact hacc p hp
     · simp only [List.mem_singleton] at hp; subst hp; exact ho
   · cases h
theorem RdM.run_sg {rd : Nm → Option Ob} : ∀ {m : RdM} {sg sg' : List Nm} {hc : HC}, m.run rd sg = some (sg', hc) → ∀ n ∈ sg, n ∈ sg'
 | .fail, _, _, _, h => by simp [RdM.run] at h
 | .ret hc', sg, sg', hc, h => by
   simp only [RdM.run, Option.some.injEq, Prod.mk.injEq] at h
   obtain ⟨rfl, rfl⟩ := h
   exact fun n hn => hn
 | .read n k, sg, sg', hc, h => by
   simp only [RdM.run] at h
   split at h
   · exact fun m hm => RdM.run_sg h m (List.mem_append_left _ hm)
   · cases h
theorem RdM.run_loc {rd rd' : Nm → Option Ob} : ∀ {m : RdM} {sg sg' : List Nm} {hc : HC}, m.run rd sg = some (sg', hc) → (∀ n ∈ sg', rd' n = rd n) → m.run rd' sg = some (sg', hc)
 | .fail, _, _, _, h, _ => by simp [RdM.run] at h
 | .ret hc', sg, sg', hc, h, _ => h
 | .read n k, sg, sg', hc, h, hr => by
   simp only [RdM.run] at h ⊢
   split at h
   · rename_i o ho
     have hn : n ∈ sg' := RdM.run_sg h n (by simp)
     rw [hr n hn, ho]
     exact RdM.run_loc h hr
   · cases h
def theta (sg : List Nm) (nm : Nm) : Nm → Nm := fun i => match nth sg i with
 | some n => n
 | none => nm + (i - sg.length)
def conR (C : List SV → RdM) : Con := fun args rd nm => match (C args).run rd [] with
 | some (sg, hc) => match distN sg with
   | true => some ⟨some (hc.val.ren (theta sg nm)), renH (theta sg nm) hc.wr, renH (theta sg nm) hc.news, sg, hc.obl⟩
   | false => none
 | none => none
def preR (σ : Sig) (N : Nat) : Nat → List (Nm × Ob) → Heap → Prop
 | _, [], [] => True
 | i, (_, o) :: r, (j, o') :: r' => Nat.beq i j = true ∧ o'.c.und N ∧ obR σ o o' ∧ preR σ N (i + 1) r r'
 | _, _, _ => False
def keysLt (k : Nat) (H0 : Heap) : Heap → Bool
 | [] => true
 | (i, _) :: r => (Nat.blt i k && match look H0 i with
   | some o => o.rw
   | none => false) && keysLt k H0 r
def keysGe (k : Nat) : Heap → Bool
 | [] => true
 | (i, o) :: r => (Nat.ble k i && Nat.blt i (k + 12) && o.rw) && keysGe k r
def rwIn (wr : Heap) : Heap → Bool
 | [] => true
 | (i, o) :: r => (match o.rw with
   | true => match look wr i with
     | some _ => true
     | none => false
   | false => true) && rwIn wr r
def sgSig (sg : List Nm) : Sig := fun i => nth sg i
def tauSig (k : Nat) (tau : List (Option Nm)) : Sig := fun i => match Nat.blt i k with
 | true => some i
 | false => match nth tau (i - k) with
   | some x => x
   | none => none
structure PostOk (k : Nat) (hc : HC) (S : St) (v : SV) (tau : List (Option Nm)) : Prop where
 val : eqvR (tauSig k tau) v hc.val
 vu : hc.val.und (k + 12) = true
 hp : heapR (tauSig k tau) S.H (k + 12) (hc.wr ++ hc.news)
 dist : distN (images (tauSig k tau) (hc.wr ++ hc.news)) = true
structure CallOkW (P : Program) (G : Ctx) (c : Code) (fn : Func) (args : List SV) (acc : List (Nm × Ob)) (hc : HC) : Prop where
 args : eqvRL (sgSig (fsts acc)) args hc.args
 argsU : undL acc.length hc.args = true
 argsN : Nat.ble hc.args.length fn.ntmps = true
 pre : preR (sgSig (fsts acc)) acc.length 0 acc hc.heap
 wr : keysLt acc.length hc.heap hc.wr = true
 news : keysGe acc.length hc.news = true
 rw : rwIn hc.wr hc.heap = true
 run : Wp P acc.length c (init fn.ntmps hc.args hc.heap acc.length) (endK G.E.T fn.results.toList fun S v => ∃ tau, PostOk acc.length hc S v tau)
structure CallOk (G : Ctx) (c : Code) (fn : Func) (args : List SV) (acc : List (Nm × Ob)) (hc : HC) : Prop where
 args : eqvRL (sgSig (fsts acc)) args hc.args
 argsU : undL acc.length hc.args = true
 argsN : Nat.ble hc.args.length fn.ntmps = true
 pre : preR (sgSig (fsts acc)) acc.length 0 acc hc.heap
 wr : keysLt acc.length hc.heap hc.wr = true
 news : keysGe acc.length hc.news = true
 rw : rwIn hc.wr hc.heap = true
 run : runC G acc.length c (init fn.ntmps hc.args hc.heap acc.length) (endK G.E.T fn.results.toList fun S v => ∃ tau, PostOk acc.length hc S v tau)
theorem fsts_len : ∀ a, (fsts a).length = a.length
 | [] => rfl
 | (n, o) :: r => by simp [fsts, fsts_len r]
theorem fsts_get : ∀ (a : List (Nm × Ob)) (i : Nat), nth (fsts a) i = (a[i]?).map (·.1)
 | [], i => by simp [fsts, nth]
 | (n, o) :: r, 0 => by simp [fsts, nth]
 | (n, o) :: r, i + 1 => by simp [fsts, nth, fsts_get r i]
theorem preR_heapR {σ : Sig} {N : Nat} {H : Heap} : ∀ {i : Nat} {acc : List (Nm × Ob)} {h : Heap}, preR σ N i acc h → (∀ p ∈ acc, look H p.1 = some p.2) → (∀ j, j < acc.length → σ (i + j) = (acc[j]?).map (·.1)) → i + acc.length ≤ N → heapR σ H N h
 | _, [], [], _, _, _, _ => trivial
 | _, [], _ :: _, h, _, _, _ => by simp [preR] at h
 | _, _ :: _, [], h, _, _, _ => by simp [preR] at h
 | i, (n, o) :: r, (j, o') :: r', h, hl, hs, hN => by
   obtain ⟨h1, h2, h3, h4⟩ := h
   have hij := Nat.eq_of_beq_eq_true h1
   subst hij
   have h0 := hs 0 (by simp)
   simp only [Nat.add_zero, List.getElem?_cons_zero, Option.map_some] at h0
   simp only [heapR]
   refine ⟨⟨?_, h2, ?_⟩, preR_heapR h4 (fun p hp => hl p (by simp [hp])) (fun j hj => by
     have := hs (j + 1) (by simpa using hj)
     simpa [Nat.add_assoc, Nat.add_comm 1 j] using this) (by simp at hN; omega)⟩
   · refine Nat.ble_eq_true_of_le ?_
     simp at hN; omega
   · rw [h0]
     have := hl (n, o) (by simp)
     simp only at this
     simp only [this]
     exact h3
theorem images_dist {sg : List Nm} (hd : distN sg = true) {σ : Sig} {N : Nat} : ∀ {i : Nat} {acc : List (Nm × Ob)} {h : Heap}, preR σ N i acc h → (∀ j, j < acc.length → σ (i + j) = (acc[j]?).map (·.1)) → images σ h = fsts acc
 | _, [], [], _, _ => rfl
 | _, [], _ :: _, h, _ => by simp [preR] at h
 | _, _ :: _, [], h, _ => by simp [preR] at h
 | i, (n, o) :: r, (k, o') :: r', h, hs => by
   obtain ⟨h1, h2, h3, h4⟩ := h
   have hij := Nat.eq_of_beq_eq_true h1
   subst hij
   have h0 := hs 0 (by simp)
   simp only [Nat.add_zero, List.getElem?_cons_zero, Option.map_some] at h0
   simp only [images, h0, fsts]
   rw [images_dist hd h4 (fun j hj => by
     have := hs (j + 1) (by simpa using hj)
     simpa [Nat.add_assoc, Nat.add_comm 1 j] using this)]
theorem keysLt_spec {k : Nat} {H0 : Heap} : ∀ {h : Heap}, keysLt k H0 h = true → ∀ (i : Nat) o, look h i = some o → i < k ∧ ∃ o0, look H0 i = some o0 ∧ o0.rw = true
 | [], _, i, o, h => by simp [look] at h
 | (m, u) :: r, h, i, o, hi => by
   simp only [keysLt, Bool.and_eq_true] at h
   rw [look_cons] at hi
   split at hi
   · rename_i e; subst e
     refine ⟨blt_lt h.1.1, ?_⟩
     have h2 := h.1.2
     split at h2
     · rename_i o0 h0; exact ⟨o0, h0, h2⟩
     · cases h2
   · exact keysLt_spec h.2 i o hi
theorem keysGe_spec {k : Nat} : ∀ {h : Heap}, keysGe k h = true → ∀ (i : Nat) o, look h i = some o → k ≤ i ∧ i < k + 12 ∧ o.rw = true
 | [], _, i, o, h => by simp [look] at h
 | (m, u) :: r, h, i, o, hi => by
   simp only [keysGe, Bool.and_eq_true] at h
   rw [look_cons] at hi
   split at hi
   · rename_i e; subst e
     simp only [Option.some.injEq] at hi
     subst hi
     exact ⟨Nat.le_of_ble_eq_true h.1.1.1, blt_lt h.1.1.2, h.1.2⟩
   · exact keysGe_spec h.2 i o hi
theorem rwIn_spec {wr : Heap} : ∀ {h : Heap}, rwIn wr h = true → ∀ i o, look h i = some o → o.rw = true → ∃ o', look wr i = some o'
 | [], _, i, o, h, _ => by simp [look] at h
 | (m, u) :: r, h, i, o, hi, hr => by
   simp only [rwIn, Bool.and_eq_true] at h
   rw [look_cons] at hi
   split at hi
   · rename_i e; subst e
     simp only [Option.some.injEq] at hi
     subst hi
     have h1 := h.1
     rw [hr] at h1
     simp only at h1
     split at h1
     · rename_i o' ho'; exact ⟨o', ho'⟩
     · cases h1
   · exact rwIn_spec h.2 i o hi hr
theorem Ob.ren_sat {w : World} {ρ ρ2 : Rho} {θ : Nm → Nm} {N : Nat} {o : Ob} {p : Option (Nat × Nat × Nat)} (h : OSat w ρ o p) (hb : o.c.bd (· < N)) (hθ : ∀ i, i < N → ρ2 (θ i) = ρ i) : OSat w ρ2 (o.ren θ) p := by
 obtain ⟨h1, h2⟩ := Cont.ren_spec θ o.c
 have hd : ∀ i, i < o.c.size → ((o.c.ren θ).at i).den ρ2 = (o.c.at i).den ρ := fun i hi => by
   rw [h2 i hi, SV.ren_den]
   exact SV.den_congr (U := (· < N)) hθ _ (hb i hi)
 cases p with
 | none =>
   have h0 : o.c.size = 0 := h
   show (o.c.ren θ).size = 0
   omega
 | some q =>
   obtain ⟨b, off, cp⟩ := q
   refine ⟨fun i hi => ?_, fun hr => ?_, fun hr => h.2.2 (by rw [← h1]; exact hr)⟩
   · have hi' : i < o.c.size := by rw [← h1]; exact hi
     show _ = some (((o.c.ren θ).at i).den ρ2)
     rw [hd i hi']
     exact h.1 i hi'
   · obtain ⟨h3, arr, h4, h5⟩ := h.2.1 hr
     refine ⟨h3, arr, h4, ?_⟩
     show (o.c.ren θ).size ≤ _ ∧ _
     rw [h1]
     exact h5
theorem conR_okW {P : Program} {G : Ctx} (hG : CtxOk P G) {f : Nat} {fn : Func} {c : Code} (hf : P.funcs[f]? = some fn) (hb : fn.body = some c) (hnm : (fn.name == "runtime.NumGoroutine") = false) {C : List SV → RdM}
   (h : ∀ args, (C args).All (fun acc hc => okP hc.obl → CallOkW P G c fn args acc hc) []) : ConOk P f (conR C) where
 loc := by
   intro args rd rd' nm e hc hr
   unfold conR at *
   split at hc
   · rename_i sg hc0 hrun
     split at hc
     · rename_i hd
       have he := hc
       simp only [Option.some.injEq] at he
       subst he
       simp only [RdM.run_loc hrun hr, hd]
     · cases hc
   · cases hc
 calls := by
   intro W0 Fr U H ρ w nm args e hH hbd hn hc ho
   unfold conR at hc
   split at hc
   case h_2 => cases hc
   rename_i sg hc0 hrun
   split at hc
   case h_2 => cases hc
   rename_i hd
   simp only [Option.some.injEq] at hc
   subst hc
   obtain ⟨acc, hacc, hlook, hQ⟩ := RdM.all_run (rd := look H) (h args) (acc := []) (by simp) hrun
   have hcall := hQ ho
   subst hacc
   have hσ : ∀ j, j < acc.length → sgSig (fsts acc) (0 + j) = (acc[j]?).map (·.1) := fun j _ => by rw [Nat.zero_add]; exact fsts_get acc j
   have hhp : heapR (sgSig (fsts acc)) H acc.length hc0.heap := preR_heapR hcall.pre hlook hσ (by omega)
   have hs0 := hH.other hhp (by rw [images_dist hd hcall.pre hσ]; exact hd)
   let ρc : Rho := ρ.under (sgSig (fsts acc))
   let Frc : Nat → Prop := fun b => b < w.heap.size ∧ ∀ i o p, look hc0.heap i = some o → o.rw = true → ρc i = some p → p.1 ≠ b
   have hs1 : HSat w Frc (· < acc.length) hc0.heap ρc w :=
     { hs0 with
       os := rfl, tape := rfl, output := rfl, size := Nat.le_refl _
       frlt := fun b hb => hb.1
       frame := fun _ _ => rfl
       free := fun n o p hn hr hp hF => hF.2 n o p hn hr hp rfl }
   have hargs : denL ρ args = denL ρc hc0.args := eqvRL_den ρ _ _ _ hcall.args
   refine .inl ⟨⟨fn, hf, hnm, by rw [hb]; rfl⟩, ?_⟩
   refine calls_of_wp hf hb ?_
   rw [hargs]
   refine hcall.run w Frc ρc ρc _ w _ (sat_init hs1 (undL_bd _ hcall.argsU) (Nat.le_of_ble_eq_true hcall.argsN)) (Nat.le_refl _) (fun _ _ => rfl) ?_
   intro e S' ρ' a' w' hK hS hN hρ
   have fin : retK G.E.T fn.results.toList (fun S v => ∃ tau, PostOk acc.length hc0 S v tau) S' → a'.defers = [] ∧ ∃ u, (results fn a'.tmps).run P w' = .ok u w' ∧
       (∃ ρ2, (∀ n, U n → ρ2 n = ρ n) ∧ HSat W0 Fr (UU U nm) (renH (theta (fsts acc) nm) hc0.wr ++ (renH (theta (fsts acc) nm) hc0.news ++ H)) ρ2 w' ∧
         ∃ v, some (hc0.val.ren (theta (fsts acc) nm)) = some v ∧ v.bd (UU U nm) ∧ Ending.returned u = .returned (v.den ρ2)) := by
     intro hr
     unfold retK at hr
     split at hr
     case h_2 => exact hr.elim
     rename_i vs q hvs
     obtain ⟨hq, tau, hpost⟩ := okK_iff hr
     obtain ⟨h5, h6⟩ := resS_sound hG.E.T hS hvs hq
     refine ⟨hS.s.nd, _, h5, ?_⟩
     have hp := hS.h.other hpost.hp hpost.dist
     let ρp : Rho := ρ'.under (tauSig acc.length tau)
     have hpk : ∀ i : Nat, i < acc.length → ρp i = ρc i := by
       intro i hi
       show (match tauSig acc.length tau i with | some m => ρ' m | none => none) = _
       have : tauSig acc.length tau i = some i := by
         unfold tauSig
         rw [show Nat.blt i acc.length = true from Nat.ble_eq_true_of_le hi]
       rw [this]
       exact hρ i hi
     classical
     let ρ2 : Rho := fun n => if U n then ρ n else if nm ≤ n ∧ n < nm + 12 then ρp (acc.length + (n - nm)) else ρ n
     have hρU : ∀ n, U n → ρ2 n = ρ n := fun n hU => if_pos hU
     let θ := theta (fsts acc) nm
     have hθlo : ∀ i : Nat, i < acc.length → ∃ n o, acc[i]? = some (n, o) ∧ θ i = n ∧ look H n = some o := by
       intro i hi
       have hg := fsts_get acc i
       have he : acc[i]? = some acc[i] := List.getElem?_eq_getElem hi
       rw [he] at hg
       refine ⟨acc[i].1, acc[i].2, he, ?_, hlook acc[i] (List.getElem_mem hi)⟩
       show theta (fsts acc) nm i = _
       unfold theta
       rw [hg]; rfl
     have hθhi : ∀ i : Nat, acc.length ≤ i → θ i = nm + (i - acc.length) := by
       intro i hi
       have hg := fsts_get acc i
       rw [List.getElem?_eq_none hi] at hg
       show theta (fsts acc) nm i = _
       unfold theta
       rw [hg]
       simp [fsts_len]
     have hθ : ∀ i : Nat, i < acc.length + 12 → ρ2 (θ i) = ρp i := by
       intro i hi
       by_cases hk : i < acc.length
       · obtain ⟨n, o, h1, h2, h3⟩ := hθlo i hk
         rw [h2, hρU n (hH.used n o h3), hpk i hk]
         show ρ n = (match sgSig (fsts acc) i with | some m => ρ m | none => none)
         have : sgSig (fsts acc) i = some n := by
           show nth (fsts acc) i = _
           rw [fsts_get, h1]; rfl
         rw [this]
       · rw [hθhi i (by omega)]
         have hnU : ¬ U (nm + (i - acc.length)) := hn (i - acc.length) (show ((i - acc.length : Nat) < 12) by omega)
         show (if U _ then _ else if _ then _ else _) = _
         rw [if_neg hnU, if_pos ⟨Nat.le_add_right _ _, Nat.add_lt_add_left (show i - acc.length < 12 by omega) nm⟩]
         congr 1
         show acc.length + (nm + (i - acc.length) - nm) = i
         omega
     have hθU : ∀ i : Nat, i < acc.length + 12 → UU U nm (θ i) := by
       intro i hi
       by_cases hk : i < acc.length
       · obtain ⟨n, o, h1, h2, h3⟩ := hθlo i hk
         rw [h2]; exact .inl (hH.used n o h3)
       · rw [hθhi i (by omega)]
         exact .inr ⟨Nat.le_add_right _ _, Nat.add_lt_add_left (show i - acc.length < 12 by omega) nm⟩
     have keyLt : ∀ (i : Nat) o, look (hc0.wr ++ hc0.news) i = some o → i < acc.length + 12 := by
       intro i o hi
       exact hp.used i o hi
     have ent : ∀ n o, look (renH θ hc0.wr ++ (renH θ hc0.news ++ H)) n = some o →
         (∃ i o0, look (hc0.wr ++ hc0.news) i = some o0 ∧ θ i = n ∧ o = o0.ren θ) ∨ (look H n = some o ∧ look (renH θ hc0.wr) n = none) := by
       intro n o hno
       rw [look_append] at hno
       split at hno
       · rename_i o1 h1
         simp only [Option.some.injEq] at hno
         subst hno
         obtain ⟨i, o0, h2, h3, h4⟩ := look_ren h1
         exact .inl ⟨i, o0, by rw [look_append, h2], h3, h4⟩
       · rename_i h1
         rw [look_append] at hno
         split at hno
         · rename_i o1 h2
           simp only [Option.some.injEq] at hno
           subst hno
           obtain ⟨i, o0, h3, h4, h5⟩ := look_ren h2
           refine .inl ⟨i, o0, ?_, h4, h5⟩
           rw [look_append]
           cases hw : look hc0.wr i with
           | none => exact h3
           | some o2 =>
             have ha := (keysLt_spec hcall.wr i o2 hw).1
             have hb' := (keysGe_spec hcall.news i o0 h3).1
             omega
         · exact .inr ⟨hno, h1⟩
     have orig : ∀ i o p, look hc0.heap i = some o → o.rw = true → ρc i = some p → ∃ n o1, look H n = some o1 ∧ o1.rw = true ∧ ρ n = some p ∧ θ i = n := by
       intro i o p hi hr hpi
       obtain ⟨h1, _, h2⟩ := heapR_spec hhp i o hi
       rcases h2 with ⟨m, o1, h3, h4, h5⟩ | ⟨h3, _⟩
       · refine ⟨m, o1, h4, ((obR_spec h5).2 hr).1, ?_, ?_⟩
         · have : ρc i = ρ m := by
             show (match sgSig (fsts acc) i with | some m => ρ m | none => none) = _
             rw [h3]
           rw [← this]; exact hpi
         · show theta (fsts acc) nm i = m
           unfold theta
           have : nth (fsts acc) i = some m := h3
           rw [this]
       · have : ρc i = none := by
           show (match sgSig (fsts acc) i with | some m => ρ m | none => none) = _
           rw [h3]
         rw [this] at hpi; cases hpi
     have oldFr : ∀ n o p, look H n = some o → look (renH θ hc0.wr) n = none → (o.rw = true ∨ 0 < o.c.size) → ρ n = some p → Frc p.1 := by
       intro n o p hno hnw hor hpn
       have hob := hH.obj n o hno
       rw [hpn] at hob
       refine ⟨?_, fun i o' p' hi hr hpi e => ?_⟩
       · rcases hor with hor | hor
         · exact OSat.lt (b := p.1) (off := p.2.1) (cp := p.2.2) hob hor
         · exact lt_of_cell (hob.1 0 hor)
       · obtain ⟨m, o1, h1, h2, h3, h4⟩ := orig i o' p' hi hr hpi
         obtain ⟨o2, ho2⟩ := rwIn_spec hcall.rw i o' hi hr
         obtain ⟨o3, ho3⟩ := look_ren_some (θ := θ) ho2
         have hne : m ≠ n := fun e' => by subst e'; rw [← h4, ho3] at hnw; cases hnw
         exact hH.inj m n o1 o p' p h1 hno hne h2 hor h3 hpn e
     have frSub : ∀ b, Fr b → Frc b := by
       intro b hF
       refine ⟨Nat.lt_of_lt_of_le (hH.frlt b hF) hH.size, fun i o p hi hr hpi e => ?_⟩
       obtain ⟨m, o1, h1, h2, h3, _⟩ := orig i o p hi hr hpi
       exact hH.free m o1 p h1 h2 h3 (e ▸ hF)
     have newFr : ∀ i o p, look (hc0.wr ++ hc0.news) i = some o → ρp i = some p → ¬ Frc p.1 := by
       intro i o p hi hpi hF
       have hi' := hi
       rw [look_append] at hi'
       split at hi'
       · rename_i o1 h1
         obtain ⟨h2, o0, h3, h4⟩ := keysLt_spec hcall.wr i o1 h1
         rw [hpk i h2] at hpi
         exact hF.2 i o0 p h3 h4 hpi rfl
       · obtain ⟨h2, h3, h4⟩ := keysGe_spec hcall.news i o hi'
         exact hp.free i o p hi h4 hpi hF
     refine ⟨ρ2, hρU, ?_, _, rfl, SV.ren_bd hθU _ (SV.und_bd _ hpost.vu), ?_⟩
     · refine {
         os := hS.h.os.trans hH.os, tape := hS.h.tape.trans hH.tape, output := hS.h.output.trans hH.output
         size := Nat.le_trans hH.size hS.h.size
         frlt := hH.frlt
         frame := fun b hF => (hS.h.frame b (frSub b hF)).trans (hH.frame b hF)
         used := fun n o hno => ?_
         bd := fun n o hno => ?_
         obj := fun n o hno => ?_
         inj := fun n1 n2 o1 o2 p q h1 h2 hne hr hr2 hp1 hq => ?_
         free := fun n o p hno hr hpn => ?_ }
       · rcases ent n o hno with ⟨i, o0, h1, rfl, h3⟩ | ⟨h1, _⟩
         · exact hθU i (keyLt i o0 h1)
         · exact .inl (hH.used n o h1)
       · rcases ent n o hno with ⟨i, o0, h1, rfl, rfl⟩ | ⟨h1, _⟩
         · intro j hj
           obtain ⟨hsz, hat⟩ := Cont.ren_spec θ o0.c
           have hj' : j < o0.c.size := by rw [← hsz]; exact hj
           show ((o0.c.ren θ).at j).bd _
           rw [hat j hj']
           exact SV.ren_bd hθU _ (hp.bd i o0 h1 j hj')
         · exact Cont.bd_mono UU_of (hH.bd n o h1)
       · rcases ent n o hno with ⟨i, o0, h1, rfl, rfl⟩ | ⟨h1, h2⟩
         · rw [hθ i (keyLt i o0 h1)]
           exact Ob.ren_sat (hp.obj i o0 h1) (hp.bd i o0 h1) hθ
         · rw [hρU n (hH.used n o h1)]
           refine (hH.obj n o h1).congr (fun b off cp hpn hor _ => ?_) (fun j hj => SV.den_congr hρU _ (hH.bd n o h1 j hj))
           exact hS.h.frame b (oldFr n o (b, off, cp) h1 h2 hor hpn)
       · rcases ent n1 o1 h1 with ⟨i1, o3, h3, rfl, rfl⟩ | ⟨h3, h4⟩
         · rw [hθ i1 (keyLt i1 o3 h3)] at hp1
           rcases ent n2 o2 h2 with ⟨i2, o4, h5, rfl, rfl⟩ | ⟨h5, h6⟩
           · rw [hθ i2 (keyLt i2 o4 h5)] at hq
             refine hp.inj i1 i2 o3 o4 p q h3 h5 (fun e => hne (by rw [e])) hr ?_ hp1 hq
             rcases hr2 with hr2 | hr2
             · exact .inl hr2
             · refine .inr ?_
               have := (Cont.ren_spec θ o4.c).1
               have h0 : 0 < (o4.c.ren θ).size := hr2
               omega
           · rw [hρU n2 (hH.used n2 o2 h5)] at hq
             intro e
             exact newFr i1 o3 p h3 hp1 (e ▸ oldFr n2 o2 q h5 h6 hr2 hq)
         · rw [hρU n1 (hH.used n1 o1 h3)] at hp1
           rcases ent n2 o2 h2 with ⟨i2, o4, h5, rfl, rfl⟩ | ⟨h5, h6⟩
           · rw [hθ i2 (keyLt i2 o4 h5)] at hq
             intro e
             exact newFr i2 o4 q h5 hq (e ▸ oldFr n1 o1 p h3 h4 (.inl hr) hp1)
           · rw [hρU n2 (hH.used n2 o2 h5)] at hq
             exact hH.inj n1 n2 o1 o2 p q h3 h5 hne hr hr2 hp1 hq
       · rcases ent n o hno with ⟨i, o0, h1, rfl, rfl⟩ | ⟨h1, _⟩
         · rw [hθ i (keyLt i o0 h1)] at hpn
           exact fun hF => newFr i o0 p h1 hpn (frSub _ hF)
         · rw [hρU n (hH.used n o h1)] at hpn
           exact hH.free n o p h1 hr hpn
     · congr 1
       rw [eqvR_den ρ' _ _ _ hpost.val, SV.ren_den]
       exact (SV.den_congr (U := (· < acc.length + 12)) hθ _ (SV.und_bd _ hpost.vu)).symm
   cases e with
   | normal => exact fin hK
   | ret => exact fin hK
   | exit id => exact hK.elim
theorem RdM.All.imp {Q Q' : List (Nm × Ob) → HC → Prop} (hq : ∀ acc hc, Q acc hc → Q' acc hc) : ∀ {m : RdM} {acc : List (Nm × Ob)}, m.All Q acc → m.All Q' acc
 | .fail, _, _ => trivial
 | .ret _, _, h => hq _ _ h
 | .read _ _, _, h => fun o => RdM.All.imp hq (h o)
theorem conR_ok {P : Program} {G : Ctx} (hG : CtxOk P G) {f : Nat} {fn : Func} {c : Code} (hf : P.funcs[f]? = some fn) (hb : fn.body = some c) (hnm : (fn.name == "runtime.NumGoroutine") = false) {C : List SV → RdM}
   (h : ∀ args, (C args).All (fun acc hc => okP hc.obl → CallOk G c fn args acc hc) []) : ConOk P f (conR C) :=
 conR_okW hG hf hb hnm fun args => (h args).imp fun _ _ hc ho =>
   let hk := hc ho
   ⟨hk.args, hk.argsU, hk.argsN, hk.pre, hk.wr, hk.news, hk.rw, Wp.run hG hk.run⟩
end Go.Sx

namespace Go.Sx
open Go.RowKit
def hasKey : SigL → Nm → Bool
 | [], _ => false
 | (m, _) :: r, n => Nat.beq m n || hasKey r n
def bindN (N0 : Nat) (n' : Nm) (m : Option Nm) (s : SigL) : SigL :=
 match Nat.ble N0 n' with
 | true => match hasKey s n' with
   | true => s
   | false => (n', m) :: s
 | false => s
mutual
def unbV (N0 : Nat) : SV → SigL → SigL
 | .ptr n' _, s => bindN N0 n' none s
 | .slc n' _ _ _, s => bindN N0 n' none s
 | .slcc n' _, s => bindN N0 n' none s
 | .agg b, s => unbL N0 b s
 | .tup b, s => unbL N0 b s
 | .ifc _ v', s => unbV N0 v' s
 | .fn _ a' c', s => unbL N0 c' (unbL N0 a' s)
 | _, s => s
def unbL (N0 : Nat) : List SV → SigL → SigL
 | y :: ys, s => unbL N0 ys (unbV N0 y s)
 | [], s => s
end
mutual
def bindV (N0 : Nat) : SV → SV → SigL → SigL
 | .ptr n _, .ptr n' _, s => bindN N0 n' (some n) s
 | .slc n _ _ _, .slc n' _ _ _, s => bindN N0 n' (some n) s
 | .slcc n _, .slcc n' _, s => bindN N0 n' (some n) s
 | .nils, .slcc n' _, s => bindN N0 n' none s
 | .agg a, .agg b, s => bindL N0 a b s
 | .tup a, .tup b, s => bindL N0 a b s
 | .ifc _ v, .ifc _ v', s => bindV N0 v v' s
 | .fn _ a c, .fn _ a' c', s => bindL N0 c c' (bindL N0 a a' s)
 | .nili, .ifc _ v', s => unbV N0 v' s
 | .nilp, .ptr n' _, s => bindN N0 n' none s
 | _, _, s => s
def bindL (N0 : Nat) : List SV → List SV → SigL → SigL
 | x :: xs, y :: ys, s => bindL N0 xs ys (bindV N0 x y s)
 | _, _, s => s
end
def bindSl (N0 : Nat) (sl : Slots) : Slots → SigL → SigL
 | [], s => s
 | (t, v') :: r, s => bindSl N0 sl r (match slot sl t with
   | some v => bindV N0 v v' s
   | none => s)
def bindG (N0 : Nat) (f : Nat → SV) (i : Nat) : List SV → SigL → SigL
 | y :: ys, s => bindG N0 f (i + 1) ys (bindV N0 (f i) y s)
 | [], s => s
def bindPre (N0 : Nat) : List SV → List SV → SigL → SigL
 | x :: xs, y :: ys, s => bindPre N0 xs ys (bindV N0 x y s)
 | _, ys, s => unbL N0 ys s
def bindC (N0 : Nat) (c c' : Cont) (s : SigL) : SigL :=
 match c, c' with
 | .cells l, .cells l' => bindL N0 l l' s
 | .cells l, .upto _ l' => bindPre N0 l l' s
 | .upto _ l, .upto _ l' => bindPre N0 l l' s
 | .gen _ f, .upto _ l' => bindG N0 f 0 l' s
 | .gen _ f, .cells l' => bindG N0 f 0 l' s
 | _, _ => s
def keyAt : SigL → Nm → Option (Option Nm)
 | [], _ => none
 | (m, x) :: r, n => match Nat.beq m n with
   | true => some x
   | false => keyAt r n
def bindH (N0 : Nat) (H : Heap) : Heap → SigL → SigL
 | [], s => s
 | (n', o') :: r, s => bindH N0 H r (match (match Nat.ble N0 n' with | true => keyAt s n' | false => some (some n')) with
   | some (some m) => match look H m with
     | some o => bindC N0 o.c o'.c s
     | none => s
   | some none => match o'.c with
     | .upto _ l' => unbL N0 l' s
     | .cells l' => unbL N0 l' s
     | _ => s
   | _ => s)
def autoSig (N0 : Nat) (S S' : St) : SigL := bindH N0 S.H S'.H (bindH N0 S.H S'.H (bindH N0 S.H S'.H (bindSl N0 S.sl S'.sl [])))
theorem Refines.auto {N0 : Nat} {S S' : St} (h : FitsOk N0 (autoSig N0 S S') S S') : Refines N0 S S' := Refines.by_names _ h
def tauAt (s : SigL) (n : Nm) : Option Nm := match keyAt s n with
 | some x => x
 | none => none
def autoTau (k : Nat) (hc : HC) (S : St) (v : SV) : List (Option Nm) :=
 let s := bindH k S.H (hc.wr ++ hc.news) (bindH k S.H (hc.wr ++ hc.news) (bindH k S.H (hc.wr ++ hc.news) (bindV k v hc.val [])))
 [tauAt s k, tauAt s (k + 1), tauAt s (k + 2), tauAt s (k + 3), tauAt s (k + 4), tauAt s (k + 5), tauAt s (k + 6), tauAt s (k + 7), tauAt s (k + 8), tauAt s (k + 9), tauAt s (k + 10), tauAt s (k + 11)]
theorem sameN_self {n : Nm} : sameN (some n) n := by simp [sameN]
mutual
theorem SV.bd_all : ∀ v : SV, v.bd fun _ => True
 | .ptr _ _ => trivial
 | .slc _ _ _ _ => trivial
 | .slcc _ _ => trivial
 | .agg cs => bdL_all cs
 | .tup cs => bdL_all cs
 | .ifc _ v => SV.bd_all v
 | .fn _ a c => ⟨bdL_all a, bdL_all c⟩
 | .tt | .ff | .bool _ | .int _ _ | .flt _ _ | .str _ | .nilp | .nils | .nili | .nilf | .sla _ _ _ => by simp [SV.bd]
theorem bdL_all : ∀ l : List SV, bdL (fun _ => True) l
 | [] => trivial
 | v :: r => ⟨SV.bd_all v, bdL_all r⟩
end
def codeOf (fn : Func) : Code := match fn.body with
 | some c => c
 | none => .skip
theorem wrap64 {n : Int} (h1 : -9223372036854775808 ≤ n) (h2 : n < 9223372036854775808) : IntKind.i64.wrap n = n := by
 show (if (true && decide (n % (18446744073709551616 : Int) ≥ 9223372036854775808)) = true then n % (18446744073709551616 : Int) - 18446744073709551616 else n % (18446744073709551616 : Int)) = n
 rw [Bool.true_and]
 split
 · rename_i h; have h := of_decide_eq_true h; omega
 · rename_i h; have h : ¬ _ := fun h' => h (decide_eq_true h'); omega
theorem wrapu64 {n : Int} (h1 : 0 ≤ n) (h2 : n < 18446744073709551616) : IntKind.u64.wrap n = n := by
 show (if (false && decide (n % (18446744073709551616 : Int) ≥ 9223372036854775808)) = true then n % (18446744073709551616 : Int) - 18446744073709551616 else n % (18446744073709551616 : Int)) = n
 rw [Bool.false_and, if_neg (by decide)]
 omega
def intsFrom (k : IntKind) : Cont → Option (Nat × (Nat → Int))
 | .cells l => match intsOf k l with
   | some xs => some (xs.length, fun i => xs.getD i 0)
   | none => none
 | .ints k' n g => match kEq k' k with
   | true => some (n, g)
   | false => none
 | _ => none
def fltsFrom (k : FloatKind) : Cont → Option (Nat × (Nat → Nat))
 | .cells l => match fltsOf k l with
   | some xs => some (xs.length, fun i => xs.getD i 0)
   | none => none
 | .flts k' n g => match fkEq k' k with
   | true => some (n, g)
   | false => none
 | _ => none
theorem intsFrom_spec {k : IntKind} {c : Cont} {n : Nat} {g : Nat → Int} (h : intsFrom k c = some (n, g)) : c.size = n ∧ ∀ i, i < n → c.at i = .int k (g i) := by
 unfold intsFrom at h
 split at h
 · split at h
   · rename_i l xs hxs
     simp only [Option.some.injEq, Prod.mk.injEq] at h
     obtain ⟨rfl, rfl⟩ := h
     have := intsOf_spec hxs
     subst this
     refine ⟨by simp [Cont.size], fun i hi => ?_⟩
     simp [Cont.at, getL_eq, hi]
   · cases h
 · split at h
   · rename_i hk
     have := kEq_eq hk
     subst this
     simp only [Option.some.injEq, Prod.mk.injEq] at h
     obtain ⟨rfl, rfl⟩ := h
     exact ⟨rfl, fun i _ => rfl⟩
   · cases h
 · cases h
theorem fltsFrom_spec {k : FloatKind} {c : Cont} {n : Nat} {g : Nat → Nat} (h : fltsFrom k c = some (n, g)) : c.size = n ∧ ∀ i, i < n → c.at i = .flt k (g i) := by
 unfold fltsFrom at h
 split at h
 · split at h
   · rename_i l xs hxs
     simp only [Option.some.injEq, Prod.mk.injEq] at h
     obtain ⟨rfl, rfl⟩ := h
     have := fltsOf_spec hxs
     subst this
     refine ⟨by simp [Cont.size], fun i hi => ?_⟩
     simp [Cont.at, getL_eq, hi]
   · cases h
 · split at h
   · rename_i hk
     have := fkEq_eq hk
     subst this
     simp only [Option.some.injEq, Prod.mk.injEq] at h
     obtain ⟨rfl, rfl⟩ := h
     exact ⟨rfl, fun i _ => rfl⟩
   · cases h
 · cases h
theorem kEq_self (k : IntKind) : kEq k k = true := by cases k <;> rfl
theorem fkEq_self (k : FloatKind) : fkEq k k = true := by cases k <;> rfl
theorem contR_ints {σ : Sig} {k : IntKind} {c : Cont} {n : Nat} {g : Nat → Int} (h : intsFrom k c = some (n, g)) : contR σ c (.ints k n g) ∧ contR σ (.ints k n g) c ∧ ∀ N, c.und N := by
 obtain ⟨h1, h2⟩ := intsFrom_spec h
 have hr : ∀ i, i < n → eqvR σ (c.at i) ((Cont.ints k n g).at i) ∧ eqvR σ ((Cont.ints k n g).at i) (c.at i) := fun i hi => by
   rw [h2 i hi]; simp [Cont.at, eqvR, kEq_self]
 cases c with
 | cells l =>
   refine ⟨?_, ⟨by rw [h1]; exact Nat.le_refl _, fun i hi => (hr i (by rw [← h1]; exact hi)).2⟩, fun N => ?_⟩
   · unfold intsFrom at h
     simp only at h
     split at h
     · rename_i xs hxs
       simp only [Option.some.injEq, Prod.mk.injEq] at h
       obtain ⟨rfl, rfl⟩ := h
       simp [contR, hxs]
     · cases h
   unfold intsFrom at h
   simp only at h
   split at h
   · rename_i xs hxs
     have := intsOf_spec hxs
     subst this
     show undL N _ = true
     clear h h1 h2 hr hxs
     induction xs with
     | nil => rfl
     | cons x r ih => simpa [undL, SV.und] using ih
   · cases h
 | ints k' m g' =>
   unfold intsFrom at h
   simp only at h
   split at h
   · rename_i hk
     have := kEq_eq hk
     subst this
     simp only [Option.some.injEq, Prod.mk.injEq] at h
     obtain ⟨rfl, rfl⟩ := h
     refine ⟨?_, ?_, fun N => trivial⟩ <;> simp [contR, kEq_self]
   · cases h
 | flts k' m g' => simp [intsFrom] at h
 | gen m f => simp [intsFrom] at h
 | upto m l => simp [intsFrom] at h
theorem contR_flts {σ : Sig} {k : FloatKind} {c : Cont} {n : Nat} {g : Nat → Nat} (h : fltsFrom k c = some (n, g)) : contR σ c (.flts k n g) ∧ contR σ (.flts k n g) c ∧ ∀ N, c.und N := by
 obtain ⟨h1, h2⟩ := fltsFrom_spec h
 have hr : ∀ i, i < n → eqvR σ (c.at i) ((Cont.flts k n g).at i) ∧ eqvR σ ((Cont.flts k n g).at i) (c.at i) := fun i hi => by
   rw [h2 i hi]; simp [Cont.at, eqvR, fkEq_self]
 cases c with
 | cells l =>
   refine ⟨?_, ⟨by rw [h1]; exact Nat.le_refl _, fun i hi => (hr i (by rw [← h1]; exact hi)).2⟩, fun N => ?_⟩
   · unfold fltsFrom at h
     simp only at h
     split at h
     · rename_i xs hxs
       simp only [Option.some.injEq, Prod.mk.injEq] at h
       obtain ⟨rfl, rfl⟩ := h
       simp [contR, hxs]
     · cases h
   unfold fltsFrom at h
   simp only at h
   split at h
   · rename_i xs hxs
     have := fltsOf_spec hxs
     subst this
     show undL N _ = true
     clear h h1 h2 hr hxs
     induction xs with
     | nil => rfl
     | cons x r ih => simpa [undL, SV.und] using ih
   · cases h
 | flts k' m g' =>
   unfold fltsFrom at h
   simp only at h
   split at h
   · rename_i hk
     have := fkEq_eq hk
     subst this
     simp only [Option.some.injEq, Prod.mk.injEq] at h
     obtain ⟨rfl, rfl⟩ := h
     refine ⟨?_, ?_, fun N => trivial⟩ <;> simp [contR, fkEq_self]
   · cases h
 | ints k' m g' => simp [fltsFrom] at h
 | gen m f => simp [fltsFrom] at h
 | upto m l => simp [fltsFrom] at h
end Go.Sx

namespace Go.Fl
open Ieee
theorem lp : double.leastPlace = -1074 := by decide
theorem bnd : double.binade = 2 ^ 52 := by decide
theorem infr : double.infRung = 2047 * 2 ^ 52 := by decide
theorem sgw : double.signWeight = 2 ^ 63 := by decide
theorem frb : double.fractionBits = 52 := rfl
def Fin (x : Nat) : Prop := x < 2 ^ 64 ∧ x % 2 ^ 63 < 2047 * 2 ^ 52
def rmag (r : Nat) : Nat := if r < 2 ^ 52 then r else (2 ^ 52 + r % 2 ^ 52) * 2 ^ (r / 2 ^ 52 - 1)
def V (x : Nat) : Int := if x / 2 ^ 63 % 2 = 1 then -(rmag (x % 2 ^ 63) : Int) else (rmag (x % 2 ^ 63) : Int)
theorem signed_add (s : Bool) (m u v : Nat) : signed s m (u + v) = signed s m u * 2 ^ v := by
 unfold signed
 have : ((m <<< (u + v) : Nat) : Int) = (m <<< u : Nat) * 2 ^ v := by
   rw [Nat.shiftLeft_eq, Nat.shiftLeft_eq, Nat.pow_add]; push_cast; rw [Int.mul_assoc]
 split
 · rw [this, Int.neg_mul]
 · exact this
theorem signed_mag (s : Bool) (m u : Nat) : signed s m u = if s then -((m * 2 ^ u : Nat) : Int) else ((m * 2 ^ u : Nat) : Int) := by
 unfold signed; rw [Nat.shiftLeft_eq]
theorem read_fin {x : Nat} (h : Fin x) : ∃ s m i, double.read x = .number s m i ∧ -1074 ≤ i ∧ signed s m (i + 1074).toNat = V x ∧ m < 2 ^ 53 := by
 obtain ⟨h1, h2⟩ := h
 unfold Format.read
 simp only [sgw, bnd, infr, lp]
 by_cases hs : x % 2 ^ 63 < 2 ^ 52
 · refine ⟨x / 2 ^ 63 % 2 == 1, x % 2 ^ 63, -1074, by simp [hs], by omega, ?_, by omega⟩
   rw [signed_mag, V, rmag, if_pos hs]
   simp
 · refine ⟨x / 2 ^ 63 % 2 == 1, 2 ^ 52 + x % 2 ^ 63 % 2 ^ 52, -1074 + (x % 2 ^ 63 / 2 ^ 52 - 1 : Nat), by simp [hs, h2], by omega, ?_, by omega⟩
   rw [signed_mag, V, rmag, if_neg hs]
   have : (-1074 + ((x % 2 ^ 63 / 2 ^ 52 - 1 : Nat) : Int) + 1074).toNat = x % 2 ^ 63 / 2 ^ 52 - 1 := by omega
   rw [this]
   simp
theorem cmp_int (a b : Int) : compare a b = if a < b then .lt else if a = b then .eq else .gt := rfl
theorem pow_pos' (k : Nat) : (0 : Int) < 2 ^ k := Int.pow_pos (by decide)
theorem mul_lt_iff {a b k : Int} (hk : 0 < k) : a * k < b * k ↔ a < b :=
 ⟨fun h => Int.lt_of_mul_lt_mul_right h (Int.le_of_lt hk), fun h => Int.mul_lt_mul_of_pos_right h hk⟩
theorem compare_scale (a b : Int) (k : Nat) : compare (a * 2 ^ k) (b * 2 ^ k) = compare a b := by
 have hp := pow_pos' k
 rw [cmp_int, cmp_int]
 have h1 : (a * 2 ^ k < b * 2 ^ k) = (a < b) := propext (mul_lt_iff hp)
 have h2 : (a * 2 ^ k = b * 2 ^ k) = (a = b) := propext ⟨fun h => Int.eq_of_mul_eq_mul_right (by omega) h, fun h => by rw [h]⟩
 simp only [h1, h2]
theorem order_fin {x y : Nat} (hx : Fin x) (hy : Fin y) : double.order x y = some (compare (V x) (V y)) := by
 obtain ⟨s, m, i, h1, h2, h3, _⟩ := read_fin hx
 obtain ⟨t, n, j, h4, h5, h6, _⟩ := read_fin hy
 unfold Format.order
 rw [h1, h4]
 simp only [Datum.order]
 congr 1
 rw [← h3, ← h6]
 have e1 : (i + 1074).toNat = (i - min i j).toNat + (min i j + 1074).toNat := by omega
 have e2 : (j + 1074).toNat = (j - min i j).toNat + (min i j + 1074).toNat := by omega
 rw [e1, e2, signed_add, signed_add, compare_scale]
theorem cut_err (neg : Bool) (n drop : Nat) : 2 * (Toward.even.cut neg n drop * 2 ^ drop) ≤ 2 * n + 2 ^ drop ∧ 2 * n ≤ 2 * (Toward.even.cut neg n drop * 2 ^ drop) + 2 ^ drop := by
 unfold Toward.cut
 simp only [Nat.shiftLeft_eq, Nat.one_mul]
 by_cases hd : drop ≤ n.log2 + 2
 · rw [Nat.min_eq_left hd]
   have hg : 0 < 2 ^ drop := Nat.two_pow_pos _
   have hdm := Nat.div_add_mod n (2 ^ drop)
   have hlt := Nat.mod_lt n hg
   generalize 2 ^ drop = g at *
   have hm : g * (n / g) = n / g * g := Nat.mul_comm _ _
   rw [hm] at hdm
   generalize n / g = q at *
   generalize n % g = r at *
   by_cases h1 : g < 2 * r
   · simp only [h1, decide_true, Bool.true_or, Bool.toNat_true, Nat.add_mul, Nat.one_mul]; omega
   · by_cases h2 : g = 2 * r
     · by_cases h3 : q % 2 = 1
       · have e1 : (decide (g < 2 * r)) = false := by simp [h1]
         have e2 : (g == 2 * r) = true := by simp [h2]
         have e3 : (q % 2 == 1) = true := by simp [h3]
         simp only [e1, e2, e3, Bool.false_or, Bool.true_and, Bool.toNat_true, Nat.add_mul, Nat.one_mul]; omega
       · have h3' : (q % 2 == 1) = false := by simp [h3]
         simp only [h1, h3', decide_false, Bool.and_false, Bool.or_false, Bool.toNat_false, Nat.add_zero]; omega
     · have h2' : (g == 2 * r) = false := by simp [h2]
       simp only [h1, h2', decide_false, Bool.false_and, Bool.or_false, Bool.toNat_false, Nat.add_zero]; omega
 · have hd' : n.log2 + 2 < drop := by omega
   rw [Nat.min_eq_right (by omega)]
   have h1 : n < 2 ^ (n.log2 + 1) := Nat.lt_log2_self
   have h2 : 2 ^ (n.log2 + 2) = 2 * 2 ^ (n.log2 + 1) := by rw [Nat.pow_succ]; omega
   have h3 : 2 ^ (n.log2 + 2) ≤ 2 ^ drop := Nat.pow_le_pow_right (by decide) (by omega)
   have h4 : n / 2 ^ (n.log2 + 2) = 0 := Nat.div_eq_of_lt (by omega)
   have h5 : n % 2 ^ (n.log2 + 2) = n := Nat.mod_eq_of_lt (by omega)
   rw [h4, h5]
   have h6 : ¬ 2 ^ (n.log2 + 2) < 2 * n := by omega
   have h7 : (2 ^ (n.log2 + 2) == 2 * n) = false := by simp; omega
   simp only [h6, h7, decide_false, Bool.false_and, Bool.or_false, Bool.toNat_false, Nat.add_zero, Nat.zero_mul]
   omega
theorem cut_exact (neg : Bool) (k drop : Nat) : Toward.even.cut neg (k * 2 ^ drop) drop = k := by
 obtain ⟨h1, h2⟩ := cut_err neg (k * 2 ^ drop) drop
 have hg : 0 < 2 ^ drop := Nat.two_pow_pos _
 generalize Toward.even.cut neg (k * 2 ^ drop) drop = c at *
 generalize 2 ^ drop = g at *
 rcases Nat.lt_trichotomy c k with h | h | h
 · exfalso
   have : c * g + g ≤ k * g := by
     calc c * g + g = (c + 1) * g := by rw [Nat.add_mul, Nat.one_mul]
       _ ≤ k * g := Nat.mul_le_mul_right _ h
   omega
 · exact h
 · exfalso
   have : k * g + g ≤ c * g := by
     calc k * g + g = (k + 1) * g := by rw [Nat.add_mul, Nat.one_mul]
       _ ≤ c * g := Nat.mul_le_mul_right _ h
   omega
theorem rmag_small {r : Nat} (h : r < 2 ^ 52) : rmag r = r := by simp [rmag, h]
theorem rmag_at (E f : Nat) (hf : f < 2 ^ 52) : rmag ((E + 1) * 2 ^ 52 + f) = (2 ^ 52 + f) * 2 ^ E := by
 have h1 : ¬ (E + 1) * 2 ^ 52 + f < 2 ^ 52 := by omega
 have h2 : ((E + 1) * 2 ^ 52 + f) / 2 ^ 52 = E + 1 := by omega
 have h3 : ((E + 1) * 2 ^ 52 + f) % 2 ^ 52 = f := by omega
 rw [rmag, if_neg h1, h2, h3]; rfl
theorem rmag_kept (E kept : Nat) (h1 : kept ≤ 2 ^ 53) (h2 : E = 0 ∨ 2 ^ 52 ≤ kept) : rmag (E * 2 ^ 52 + kept) = kept * 2 ^ E := by
 rcases Nat.lt_or_ge kept (2 ^ 52) with h | h
 · have : E = 0 := by omega
   subst this
   simp [rmag_small (r := kept) h]
 · rcases Nat.lt_or_ge kept (2 ^ 53) with h3 | h3
   · have := rmag_at E (kept - 2 ^ 52) (by omega)
     rw [show E * 2 ^ 52 + kept = (E + 1) * 2 ^ 52 + (kept - 2 ^ 52) by omega, this, Nat.add_sub_of_le h]
   · have hk : kept = 2 ^ 53 := Nat.le_antisymm h1 h3
     subst hk
     have h4 := rmag_at (E + 1) 0 (by decide)
     have h5 : E * 2 ^ 52 + 2 ^ 53 = (E + 1 + 1) * 2 ^ 52 + 0 := by omega
     rw [h5, h4, Nat.pow_succ 2 E]
     have h6 : (2 : Nat) ^ 53 = (2 ^ 52 + 0) * 2 := by decide
     rw [h6, Nat.mul_comm (2 ^ E) 2, ← Nat.mul_assoc]
theorem word_V (s : Bool) (r : Nat) (hr : r < 2047 * 2 ^ 52) : Fin (double.word s r) ∧ V (double.word s r) = if s then -(rmag r : Int) else (rmag r : Int) := by
 unfold Format.word V Fin
 rw [sgw]
 cases s
 · have h1 : r / 2 ^ 63 % 2 = 0 := by omega
   have h2 : r % 2 ^ 63 = r := by omega
   simp only [Bool.false_eq_true, if_false, h1, h2]
   refine ⟨⟨by omega, hr⟩, by simp⟩
 · have h1 : (2 ^ 63 + r) / 2 ^ 63 % 2 = 1 := by omega
   have h2 : (2 ^ 63 + r) % 2 ^ 63 = r := by omega
   simp only [if_true, h1, h2]
   exact ⟨⟨by omega, hr⟩, trivial⟩
def last (mag : Nat) (place : Int) : Int := max (place + mag.log2 - 52) (-1074)
def keptOf (neg : Bool) (mag : Nat) (place : Int) : Nat := Toward.even.cut neg (mag <<< (place - last mag place).toNat) (last mag place - place).toNat
theorem kept_bounds (neg : Bool) {mag : Nat} (hm : mag ≠ 0) (place : Int) : keptOf neg mag place ≤ 2 ^ 53 ∧ (last mag place = -1074 ∨ 2 ^ 52 ≤ keptOf neg mag place) := by
 have hl1 := Nat.log2_self_le hm
 have hl2 : mag < 2 ^ (mag.log2 + 1) := Nat.lt_log2_self
 obtain ⟨e1, e2⟩ := cut_err neg (mag <<< (place - last mag place).toNat) (last mag place - place).toNat
 unfold keptOf
 generalize Toward.even.cut neg (mag <<< (place - last mag place).toNat) (last mag place - place).toNat = k at *
 rw [Nat.shiftLeft_eq] at e1 e2
 generalize hL : mag.log2 = L at *
 by_cases hs : last mag place ≤ place
 ·
   have h0 : (last mag place - place).toNat = 0 := by omega
   rw [h0] at e1 e2
   simp only [Nat.pow_zero, Nat.mul_one] at e1 e2
   have hk : k = mag * 2 ^ (place - last mag place).toNat := by omega
   generalize hu : (place - last mag place).toNat = u at *
   have hle : L + u ≤ 52 := by unfold last at hu hs; rw [hL] at hu hs; omega
   constructor
   · have : mag * 2 ^ u < 2 ^ (L + 1) * 2 ^ u := Nat.mul_lt_mul_of_pos_right hl2 (Nat.two_pow_pos _)
     rw [← Nat.pow_add] at this
     have h3 : 2 ^ (L + 1 + u) ≤ 2 ^ 53 := Nat.pow_le_pow_right (by decide) (by omega)
     omega
   · by_cases hlast : last mag place = -1074
     · exact .inl hlast
     · right
       have hu2 : L + u = 52 := by unfold last at hu hlast; rw [hL] at hu hlast; omega
       have : 2 ^ L * 2 ^ u ≤ mag * 2 ^ u := Nat.mul_le_mul_right _ hl1
       rw [← Nat.pow_add, hu2] at this
       omega
 · have h0 : (place - last mag place).toNat = 0 := by omega
   rw [h0] at e1 e2
   simp only [Nat.pow_zero, Nat.mul_one] at e1 e2
   generalize hu : (last mag place - place).toNat = u at *
   have hge : L ≤ 52 + u := by unfold last at hu; rw [hL] at hu; omega
   have hup : 2 ^ (L + 1) ≤ 2 ^ (53 + u) := Nat.pow_le_pow_right (by decide) (by omega)
   have hg : 0 < 2 ^ u := Nat.two_pow_pos _
   constructor
   · rw [Nat.pow_add 2 53 u] at hup
     generalize 2 ^ u = g at *
     have h4 : 2 * (k * g) < 2 * (2 ^ 53 * g) + g + g := by omega
     have h5 : k * g < (2 ^ 53 + 1) * g := by rw [Nat.add_mul, Nat.one_mul]; omega
     have := Nat.lt_of_mul_lt_mul_right h5
     omega
   · by_cases hlast : last mag place = -1074
     · exact .inl hlast
     · right
       have hu2 : L = 52 + u := by unfold last at hu hlast hs; rw [hL] at hu hlast hs; omega
       rw [hu2, Nat.pow_add 2 52 u] at hl1
       clear hup hl2
       generalize 2 ^ u = g at *
       have h5 : 2 ^ 52 * g < (k + 1) * g := by rw [Nat.add_mul, Nat.one_mul]; omega
       have := Nat.lt_of_mul_lt_mul_right h5
       omega
theorem nearest_V (neg : Bool) {mag : Nat} (hm : mag ≠ 0) {place : Int} (hb : place + mag.log2 ≤ 1022) :
   Fin (double.nearest neg mag place) ∧ V (double.nearest neg mag place) = (if neg then -((keptOf neg mag place * 2 ^ (last mag place + 1074).toNat : Nat) : Int) else ((keptOf neg mag place * 2 ^ (last mag place + 1074).toNat : Nat) : Int)) := by
 obtain ⟨h1, h2⟩ := kept_bounds neg hm place
 have hlast : -1074 ≤ last mag place ∧ last mag place ≤ 970 := by unfold last; omega
 have hE : (last mag place - double.leastPlace).toNat = (last mag place + 1074).toNat := by rw [lp]; omega
 have hn : double.nearest neg mag place = double.word neg ((last mag place + 1074).toNat * 2 ^ 52 + keptOf neg mag place) := by
   unfold Format.nearest
   rw [if_neg hm]
   simp only [frb]
   have e1 : max (place + (mag.log2 : Int) - (52 : Nat)) double.leastPlace = last mag place := by rw [lp]; rfl
   rw [e1, hE, bnd, infr]
   congr 1
   apply Nat.min_eq_left
   show _ * _ + keptOf neg mag place ≤ _
   have : (last mag place + 1074).toNat ≤ 2044 := by omega
   have : (last mag place + 1074).toNat * 2 ^ 52 ≤ 2044 * 2 ^ 52 := Nat.mul_le_mul_right _ this
   exact Nat.le_trans (Nat.add_le_add this h1) (by decide)
 have hr : (last mag place + 1074).toNat * 2 ^ 52 + keptOf neg mag place < 2047 * 2 ^ 52 := by
   have : (last mag place + 1074).toNat ≤ 2044 := by omega
   have : (last mag place + 1074).toNat * 2 ^ 52 ≤ 2044 * 2 ^ 52 := Nat.mul_le_mul_right _ this
   exact Nat.lt_of_le_of_lt (Nat.add_le_add this h1) (by decide)
 rw [hn]
 obtain ⟨h3, h4⟩ := word_V neg _ hr
 refine ⟨h3, ?_⟩
 rw [h4, rmag_kept _ _ h1 (h2.imp (fun h => by omega) id)]
def U1 : Nat := 1074
def FI (x : Nat) (n : Int) : Prop := Fin x ∧ V x = n * 2 ^ U1
theorem log2_mul_pow {k : Nat} (hk : k ≠ 0) (sh : Nat) : (k * 2 ^ sh).log2 = k.log2 + sh := by
 have hm : k * 2 ^ sh ≠ 0 := Nat.mul_ne_zero hk (Nat.ne_of_gt (Nat.two_pow_pos _))
 apply Nat.le_antisymm
 · apply Nat.le_of_lt_succ
   rw [Nat.log2_lt hm, Nat.succ_eq_add_one, show k.log2 + sh + 1 = k.log2 + 1 + sh by omega, Nat.pow_add]
   exact Nat.mul_lt_mul_of_pos_right Nat.lt_log2_self (Nat.two_pow_pos _)
 · rw [Nat.le_log2 hm, Nat.pow_add]
   exact Nat.mul_le_mul_right _ (Nat.log2_self_le hk)
theorem nearest_exact (neg : Bool) {k : Nat} (hk : k ≠ 0) (hk2 : k < 2 ^ 53) {sh : Nat} {place : Int} (hp : -1074 ≤ place + sh) (hlow : place + sh + k.log2 ≤ 1022) :
   Fin (double.nearest neg (k * 2 ^ sh) place) ∧ V (double.nearest neg (k * 2 ^ sh) place) = (if neg then -((k * 2 ^ (place + sh + 1074).toNat : Nat) : Int) else ((k * 2 ^ (place + sh + 1074).toNat : Nat) : Int)) := by
 have hm : k * 2 ^ sh ≠ 0 := Nat.mul_ne_zero hk (Nat.ne_of_gt (Nat.two_pow_pos _))
 have hlog : (k * 2 ^ sh).log2 = k.log2 + sh := log2_mul_pow hk sh
 have hkl : k.log2 ≤ 52 := by
   have := (Nat.log2_lt hk).2 hk2
   omega
 obtain ⟨h1, h2⟩ := nearest_V neg hm (place := place) (by rw [hlog]; omega)
 refine ⟨h1, ?_⟩
 rw [h2]
 have key : keptOf neg (k * 2 ^ sh) place * 2 ^ (last (k * 2 ^ sh) place + 1074).toNat = k * 2 ^ (place + sh + 1074).toNat := by
   unfold keptOf
   by_cases hs : last (k * 2 ^ sh) place ≤ place
   · have e1 : (last (k * 2 ^ sh) place - place).toNat = 0 := by omega
     rw [e1, Nat.shiftLeft_eq]
     have := cut_exact neg (k * 2 ^ sh * 2 ^ (place - last (k * 2 ^ sh) place).toNat) 0
     rw [Nat.pow_zero, Nat.mul_one] at this
     rw [this, Nat.mul_assoc, Nat.mul_assoc, ← Nat.pow_add, ← Nat.pow_add]
     congr 2
     unfold last at hs ⊢
     omega
   · have e1 : (place - last (k * 2 ^ sh) place).toNat = 0 := by omega
     rw [e1, Nat.shiftLeft_eq, Nat.pow_zero, Nat.mul_one]
     have hle : (last (k * 2 ^ sh) place - place).toNat ≤ sh := by unfold last; rw [hlog]; omega
     have e2 : k * 2 ^ sh = (k * 2 ^ (sh - (last (k * 2 ^ sh) place - place).toNat)) * 2 ^ (last (k * 2 ^ sh) place - place).toNat := by
       rw [Nat.mul_assoc, ← Nat.pow_add]; congr 2; omega
     generalize hL : last (k * 2 ^ sh) place = L at *
     rw [e2, cut_exact, Nat.mul_assoc, ← Nat.pow_add]
     congr 2
     have : -1074 ≤ L := by rw [← hL]; unfold last; omega
     omega
 rw [key]
theorem FI_ofInt {n : Int} (h : n.natAbs < 2 ^ 53) : FI (FloatKind.f64.nearest n) n := by
 unfold FloatKind.nearest FloatKind.encode
 show FI (double.write (.number (decide (n < 0)) n.natAbs 0)) n
 show FI (double.nearest (decide (n < 0)) n.natAbs 0) n
 by_cases h0 : n.natAbs = 0
 · have : n = 0 := by omega
   subst this
   have e : double.nearest (decide ((0 : Int) < 0)) (Int.natAbs 0) 0 = 0 := by decide
   rw [e]
   exact ⟨⟨by decide, by decide⟩, by simp [V, rmag]⟩
 · have hkl : n.natAbs.log2 ≤ 52 := by
     have := (Nat.log2_lt h0).2 h
     omega
   obtain ⟨h1, h2⟩ := nearest_exact (decide (n < 0)) h0 h (sh := 0) (place := 0) (by decide) (by omega)
   rw [Nat.pow_zero, Nat.mul_one] at h1 h2
   refine ⟨h1, ?_⟩
   rw [h2]
   have e : ((0 : Int) + (0 : Nat) + 1074).toNat = U1 := by decide
   rw [e]
   generalize U1 = u
   rw [Int.natCast_mul, Int.natCast_pow]
   show (if _ then -((n.natAbs : Nat) * (2 : Int) ^ u) else ((n.natAbs : Nat) * (2 : Int) ^ u)) = _
   by_cases hn : n < 0
   · simp only [hn, decide_true, if_true]
     have : ((n.natAbs : Nat) : Int) = -n := by omega
     rw [this, Int.neg_mul, Int.neg_neg]
   · simp only [hn, decide_false, Bool.false_eq_true, if_false]
     have : ((n.natAbs : Nat) : Int) = n := by omega
     rw [this]
end Go.Fl

namespace Go.Fl
open Ieee
theorem FI.order {x y : Nat} {a b : Int} (hx : FI x a) (hy : FI y b) : double.order x y = some (compare a b) := by
 rw [order_fin hx.1 hy.1, hx.2, hy.2, compare_scale]
theorem word_zero (s : Bool) : FI (double.word s 0) 0 := by
 obtain ⟨h1, h2⟩ := word_V s 0 (by decide)
 refine ⟨h1, ?_⟩
 rw [h2]; cases s <;> simp [rmag]
theorem nearest_int (neg : Bool) {mag k : Nat} {place : Int} (hp : -1074 ≤ place) (hk0 : k ≠ 0) (hk : k < 2 ^ 53) (h : mag * 2 ^ (place + 1074).toNat = k * 2 ^ U1) :
   FI (double.nearest neg mag place) (if neg then -(k : Int) else (k : Int)) := by
 have hkl : k.log2 ≤ 52 := by
   have := (Nat.log2_lt hk0).2 hk
   omega
 have hU : U1 = 1074 := rfl
 by_cases hs : place ≤ 0
 · have e : mag = k * 2 ^ (-place).toNat := by
     have e1 : U1 = (-place).toNat + (place + 1074).toNat := by rw [hU]; omega
     rw [e1, Nat.pow_add, ← Nat.mul_assoc] at h
     exact Nat.eq_of_mul_eq_mul_right (Nat.two_pow_pos _) h
   subst e
   obtain ⟨h1, h2⟩ := nearest_exact neg hk0 hk (sh := (-place).toNat) (place := place) (by omega) (by omega)
   refine ⟨h1, ?_⟩
   rw [h2]
   have e2 : (place + ((-place).toNat : Int) + 1074).toNat = U1 := by rw [hU]; omega
   rw [e2]
   generalize U1 = u
   rw [Int.natCast_mul, Int.natCast_pow]
   cases neg <;> simp [Int.neg_mul]
 · have e : k = mag * 2 ^ place.toNat := by
     have e1 : (place + 1074).toNat = place.toNat + U1 := by rw [hU]; omega
     rw [e1, Nat.pow_add, ← Nat.mul_assoc] at h
     exact (Nat.eq_of_mul_eq_mul_right (Nat.two_pow_pos _) h).symm
   have hm0 : mag ≠ 0 := fun e0 => hk0 (by rw [e, e0, Nat.zero_mul])
   have hle : mag ≤ k := by rw [e]; exact Nat.le_mul_of_pos_right _ (Nat.two_pow_pos _)
   have hlog : k.log2 = mag.log2 + place.toNat := by rw [e, log2_mul_pow hm0]
   obtain ⟨h1, h2⟩ := nearest_exact neg hm0 (Nat.lt_of_le_of_lt hle hk) (sh := 0) (place := place) (by omega) (by omega)
   rw [Nat.pow_zero, Nat.mul_one] at h1 h2
   refine ⟨h1, ?_⟩
   rw [h2]
   have e2 : (place + (0 : Nat) + 1074).toNat = place.toNat + U1 := by rw [hU]; omega
   rw [e2, Nat.pow_add, ← Nat.mul_assoc, ← e]
   generalize U1 = u
   rw [Int.natCast_mul, Int.natCast_pow]
   cases neg <;> simp [Int.neg_mul]
theorem natAbs_pow2 (k : Nat) : ((2 : Int) ^ k).natAbs = 2 ^ k := by rw [Int.natAbs_pow]; rfl
theorem signed_natAbs (s : Bool) (m u : Nat) : (signed s m u).natAbs = m * 2 ^ u := by
 rw [signed_mag]
 cases s
 · exact Int.natAbs_natCast _
 · exact (Int.natAbs_neg _).trans (Int.natAbs_natCast _)
theorem FI_sum {s t : Bool} {m n : Nat} {i j : Int} {a b : Int} (hi : -1074 ≤ i) (hj : -1074 ≤ j) (h1 : signed s m (i + 1074).toNat = a * 2 ^ U1) (h2 : signed t n (j + 1074).toNat = b * 2 ^ U1)
   (hab : (a + b).natAbs < 2 ^ 53) : ∃ d, Datum.sum (.number s m i) (.number t n j) = some d ∧ FI (double.write d) (a + b) := by
 refine ⟨_, rfl, ?_⟩
 simp only [Format.write]
 generalize htot : signed s m (i - min i j).toNat + signed t n (j - min i j).toNat = tot
 have e1 : (i + 1074).toNat = (i - min i j).toNat + (min i j + 1074).toNat := by omega
 have e2 : (j + 1074).toNat = (j - min i j).toNat + (min i j + 1074).toNat := by omega
 have hkey : tot * 2 ^ (min i j + 1074).toNat = (a + b) * 2 ^ U1 := by
   rw [Int.add_mul, ← h1, ← h2, e1, e2, signed_add, signed_add, ← Int.add_mul, htot]
 have hpos : ∀ k : Nat, (2 : Int) ^ k ≠ 0 := fun k => Int.ne_of_gt (pow_pos' k)
 by_cases h0 : tot = 0
 · have : a + b = 0 := by
     rw [h0, Int.zero_mul] at hkey
     rcases Int.mul_eq_zero.1 hkey.symm with h | h
     · exact h
     · exact absurd h (hpos _)
   rw [this]
   have hz : tot.natAbs = 0 := by rw [h0]; rfl
   unfold Format.nearest
   rw [if_pos hz]
   exact word_zero _
 · have hab0 : a + b ≠ 0 := by
     intro e
     rw [e, Int.zero_mul] at hkey
     rcases Int.mul_eq_zero.1 hkey with h | h
     · exact h0 h
     · exact absurd h (hpos _)
   have hk : tot.natAbs * 2 ^ (min i j + 1074).toNat = (a + b).natAbs * 2 ^ U1 := by
     have := congrArg Int.natAbs hkey
     rw [Int.natAbs_mul, Int.natAbs_mul, natAbs_pow2, natAbs_pow2] at this
     exact this
   rw [if_neg h0]
   have := nearest_int (decide (tot < 0)) (by omega) (by omega : (a + b).natAbs ≠ 0) hab hk
   have hsign : tot < 0 ↔ a + b < 0 := by
     have hp1 := pow_pos' (min i j + 1074).toNat
     have hp2 := pow_pos' U1
     constructor
     · intro h
       have h3 : tot * 2 ^ (min i j + 1074).toNat < 0 := Int.mul_neg_of_neg_of_pos h hp1
       rw [hkey] at h3
       rcases Int.lt_or_le (a + b) 0 with h4 | h4
       · exact h4
       · have := Int.mul_nonneg h4 (Int.le_of_lt hp2); omega
     · intro h
       have h3 : (a + b) * 2 ^ U1 < 0 := Int.mul_neg_of_neg_of_pos h hp2
       rw [← hkey] at h3
       rcases Int.lt_or_le tot 0 with h4 | h4
       · exact h4
       · have := Int.mul_nonneg h4 (Int.le_of_lt hp1); omega
   have hval : (if decide (tot < 0) then -((a + b).natAbs : Int) else ((a + b).natAbs : Int)) = a + b := by
     by_cases h : tot < 0
     · simp only [h, decide_true, if_true]; have := hsign.1 h; omega
     · simp only [h, decide_false, Bool.false_eq_true, if_false]; have := mt hsign.2 h; omega
   rw [hval] at this
   exact this
theorem FI_add {x y : Nat} {a b : Int} (hx : FI x a) (hy : FI y b) (h : (a + b).natAbs < 2 ^ 53) : ∃ r, double.add x y = some r ∧ FI r (a + b) := by
 obtain ⟨s, m, i, h1, h2, h3, _⟩ := read_fin hx.1
 obtain ⟨t, n, j, h4, h5, h6, _⟩ := read_fin hy.1
 rw [hx.2] at h3
 rw [hy.2] at h6
 obtain ⟨d, hd, hr⟩ := FI_sum h2 h5 h3 h6 h
 refine ⟨_, ?_, hr⟩
 unfold Format.add
 rw [h1, h4, hd]; rfl
theorem signed_not (s : Bool) (m u : Nat) : signed (!s) m u = -signed s m u := by
 unfold signed; cases s <;> simp
theorem FI_sub {x y : Nat} {a b : Int} (hx : FI x a) (hy : FI y b) (h : (a - b).natAbs < 2 ^ 53) : ∃ r, double.sub x y = some r ∧ FI r (a - b) := by
 obtain ⟨s, m, i, h1, h2, h3, _⟩ := read_fin hx.1
 obtain ⟨t, n, j, h4, h5, h6, _⟩ := read_fin hy.1
 rw [hx.2] at h3
 rw [hy.2] at h6
 have h7 : signed (!t) n (j + 1074).toNat = -b * 2 ^ U1 := by rw [signed_not, h6, Int.neg_mul]
 rw [Int.sub_eq_add_neg] at h ⊢
 obtain ⟨d, hd, hr⟩ := FI_sum h2 h5 h3 h7 h
 refine ⟨_, ?_, hr⟩
 unfold Format.sub
 rw [h1, h4]
 show Option.map double.write (Datum.sum (.number s m i) (.number (!t) n j)) = _
 rw [hd]; rfl
theorem place_lo {m : Nat} {i : Int} {k : Nat} (hi : -1074 ≤ i) (hm : m < 2 ^ 53) (hk : k ≠ 0) (h : m * 2 ^ (i + 1074).toNat = k * 2 ^ U1) : -53 < i := by
 have hU : U1 = 1074 := rfl
 rcases Int.lt_or_le (-53) i with h1 | h1
 · exact h1
 · exfalso
   obtain ⟨c, hc⟩ : ∃ c : Nat, c = 1021 := ⟨_, rfl⟩
   have h2 : (i + 1074).toNat ≤ c := by omega
   have h3 : m * 2 ^ (i + 1074).toNat < 2 ^ 53 * 2 ^ c := by
     apply Nat.lt_of_lt_of_le (Nat.mul_lt_mul_of_pos_right hm (Nat.two_pow_pos _))
     exact Nat.mul_le_mul_left _ (Nat.pow_le_pow_right (by decide) h2)
   rw [← Nat.pow_add, h] at h3
   have h4 : 2 ^ U1 ≤ k * 2 ^ U1 := Nat.le_mul_of_pos_left _ (Nat.pos_of_ne_zero hk)
   have h5 : 53 + c = U1 := by rw [hU, hc]
   rw [h5] at h3
   exact absurd h3 (Nat.not_lt.2 h4)
theorem FI_mul {x y : Nat} {a b : Int} (hx : FI x a) (hy : FI y b) (h : (a * b).natAbs < 2 ^ 53) : ∃ r, double.mul x y = some r ∧ FI r (a * b) := by
 obtain ⟨s, m, i, h1, h2, h3, hm⟩ := read_fin hx.1
 obtain ⟨t, n, j, h4, h5, h6, hn⟩ := read_fin hy.1
 rw [hx.2] at h3
 rw [hy.2] at h6
 have hma : m * 2 ^ (i + 1074).toNat = a.natAbs * 2 ^ U1 := by
   have := congrArg Int.natAbs h3
   rw [signed_natAbs, Int.natAbs_mul, natAbs_pow2] at this
   exact this
 have hnb : n * 2 ^ (j + 1074).toNat = b.natAbs * 2 ^ U1 := by
   have := congrArg Int.natAbs h6
   rw [signed_natAbs, Int.natAbs_mul, natAbs_pow2] at this
   exact this
 refine ⟨double.nearest (s ^^ t) (m * n) (i + j), ?_, ?_⟩
 · unfold Format.mul
   rw [h1, h4]; rfl
 · by_cases h0 : m * n = 0
   · have : a * b = 0 := by
       rcases Nat.mul_eq_zero.1 h0 with h7 | h7
       · rw [h7, Nat.zero_mul] at hma
         rcases Nat.mul_eq_zero.1 hma.symm with h8 | h8
         · rw [Int.natAbs_eq_zero.1 h8, Int.zero_mul]
         · exact absurd h8 (Nat.ne_of_gt (Nat.two_pow_pos _))
       · rw [h7, Nat.zero_mul] at hnb
         rcases Nat.mul_eq_zero.1 hnb.symm with h8 | h8
         · rw [Int.natAbs_eq_zero.1 h8, Int.mul_zero]
         · exact absurd h8 (Nat.ne_of_gt (Nat.two_pow_pos _))
     rw [this]
     unfold Format.nearest
     rw [if_pos h0]
     exact word_zero _
   · have ha : a.natAbs ≠ 0 := by
       intro e
       rw [e, Nat.zero_mul] at hma
       rcases Nat.mul_eq_zero.1 hma with h8 | h8
       · exact h0 (by rw [h8, Nat.zero_mul])
       · exact absurd h8 (Nat.ne_of_gt (Nat.two_pow_pos _))
     have hb : b.natAbs ≠ 0 := by
       intro e
       rw [e, Nat.zero_mul] at hnb
       rcases Nat.mul_eq_zero.1 hnb with h8 | h8
       · exact h0 (by rw [h8, Nat.mul_zero])
       · exact absurd h8 (Nat.ne_of_gt (Nat.two_pow_pos _))
     have hi := place_lo h2 hm ha hma
     have hj := place_lo h5 hn hb hnb
     have hU : U1 = 1074 := rfl
     have hkey : m * n * 2 ^ (i + j + 1074).toNat = (a.natAbs * b.natAbs) * 2 ^ U1 := by
       have e1 : (i + 1074).toNat + (j + 1074).toNat = (i + j + 1074).toNat + U1 := by rw [hU]; omega
       have e2 : (m * n * 2 ^ (i + j + 1074).toNat) * 2 ^ U1 = (a.natAbs * b.natAbs * 2 ^ U1) * 2 ^ U1 := by
         calc (m * n * 2 ^ (i + j + 1074).toNat) * 2 ^ U1 = m * n * 2 ^ ((i + j + 1074).toNat + U1) := by rw [Nat.pow_add, Nat.mul_assoc]
           _ = m * n * 2 ^ ((i + 1074).toNat + (j + 1074).toNat) := by rw [e1]
           _ = (m * 2 ^ (i + 1074).toNat) * (n * 2 ^ (j + 1074).toNat) := by rw [Nat.pow_add]; ac_rfl
           _ = (a.natAbs * 2 ^ U1) * (b.natAbs * 2 ^ U1) := by rw [hma, hnb]
           _ = _ := by generalize (2 : Nat) ^ U1 = u; ac_rfl
       exact Nat.eq_of_mul_eq_mul_right (Nat.two_pow_pos _) e2
     have hk0 : a.natAbs * b.natAbs ≠ 0 := Nat.mul_ne_zero ha hb
     have hk : a.natAbs * b.natAbs < 2 ^ 53 := by rw [← Int.natAbs_mul]; exact h
     have := nearest_int (s ^^ t) (by omega) hk0 hk hkey
     have hsa : s = decide (a < 0) := by
       have hp := pow_pos' U1
       rw [signed_mag] at h3
       cases s
       · have : 0 ≤ a * 2 ^ U1 := by rw [← h3]; exact Int.natCast_nonneg _
         have : ¬ a < 0 := fun hneg => by have := Int.mul_neg_of_neg_of_pos hneg hp; omega
         exact (decide_eq_false this).symm
       · have h9 : a * 2 ^ U1 ≤ 0 := by rw [← h3]; exact Int.neg_nonpos_of_nonneg (Int.natCast_nonneg _)
         have : a < 0 := by
           rcases Int.lt_or_le a 0 with h10 | h10
           · exact h10
           · have : 0 < a := by omega
             have := Int.mul_pos this hp; omega
         exact (decide_eq_true this).symm
     have hsb : t = decide (b < 0) := by
       have hp := pow_pos' U1
       rw [signed_mag] at h6
       cases t
       · have : 0 ≤ b * 2 ^ U1 := by rw [← h6]; exact Int.natCast_nonneg _
         have : ¬ b < 0 := fun hneg => by have := Int.mul_neg_of_neg_of_pos hneg hp; omega
         exact (decide_eq_false this).symm
       · have h9 : b * 2 ^ U1 ≤ 0 := by rw [← h6]; exact Int.neg_nonpos_of_nonneg (Int.natCast_nonneg _)
         have : b < 0 := by
           rcases Int.lt_or_le b 0 with h10 | h10
           · exact h10
           · have : 0 < b := by omega
             have := Int.mul_pos this hp; omega
         exact (decide_eq_true this).symm
     have hval : (if (s ^^ t) then -((a.natAbs * b.natAbs : Nat) : Int) else ((a.natAbs * b.natAbs : Nat) : Int)) = a * b := by
       rw [hsa, hsb, Int.natCast_mul]
       by_cases hA : a < 0 <;> by_cases hB : b < 0
       · have e1 : (a.natAbs : Int) = -a := by omega
         have e2 : (b.natAbs : Int) = -b := by omega
         simp only [hA, hB, decide_true, Bool.xor_self, Bool.false_eq_true, if_false, e1, e2, Int.neg_mul_neg]
       · have e1 : (a.natAbs : Int) = -a := by omega
         have e2 : (b.natAbs : Int) = b := by omega
         simp only [hA, hB, decide_true, decide_false, Bool.xor_false, if_true, e1, e2, Int.neg_mul, Int.neg_neg]
       · have e1 : (a.natAbs : Int) = a := by omega
         have e2 : (b.natAbs : Int) = -b := by omega
         simp only [hA, hB, decide_true, decide_false, Bool.false_xor, if_true, e1, e2, Int.mul_neg, Int.neg_neg]
       · have e1 : (a.natAbs : Int) = a := by omega
         have e2 : (b.natAbs : Int) = b := by omega
         simp only [hA, hB, decide_false, Bool.xor_self, Bool.false_eq_true, if_false, e1, e2]
     rw [hval] at this
     exact this
end Go.Fl

namespace Go.Fl
open Ieee
theorem cut_tie (neg : Bool) (n drop : Nat) (h : 2 * n = (2 * Toward.even.cut neg n drop + 1) * 2 ^ drop ∨ 2 * n + 2 ^ drop = 2 * Toward.even.cut neg n drop * 2 ^ drop) : Toward.even.cut neg n drop % 2 = 0 := by
 unfold Toward.cut at *
 simp only [Nat.shiftLeft_eq, Nat.one_mul] at *
 by_cases hd : drop ≤ n.log2 + 2
 · rw [Nat.min_eq_left hd] at *
   have hg : 0 < 2 ^ drop := Nat.two_pow_pos _
   have hdm := Nat.div_add_mod n (2 ^ drop)
   have hlt := Nat.mod_lt n hg
   generalize 2 ^ drop = g at *
   have hm : g * (n / g) = n / g * g := Nat.mul_comm _ _
   rw [hm] at hdm
   generalize n / g = q at *
   generalize n % g = r at *
   by_cases h1 : g < 2 * r
   · exfalso
     simp only [h1, decide_true, Bool.true_or, Bool.toNat_true] at h
     have e1 : (2 * (q + 1) + 1) * g = 2 * (q * g) + 3 * g := by rw [Nat.add_mul, Nat.mul_assoc, Nat.add_mul]; omega
     have e2 : 2 * (q + 1) * g = 2 * (q * g) + 2 * g := by rw [Nat.mul_assoc, Nat.add_mul]; omega
     omega
   · by_cases h2 : g = 2 * r
     · have e2 : (g == 2 * r) = true := by simp [h2]
       have e1 : (decide (g < 2 * r)) = false := by simp [h1]
       by_cases h3 : q % 2 = 1
       · have e3 : (q % 2 == 1) = true := by simp [h3]
         simp only [e1, e2, e3, Bool.false_or, Bool.true_and, Bool.toNat_true]; omega
       · have e3 : (q % 2 == 1) = false := by simp [h3]
         simp only [e1, e3, Bool.and_false, Bool.or_false, Bool.toNat_false]; omega
     · exfalso
       have e2 : (g == 2 * r) = false := by simp [h2]
       have e1 : (decide (g < 2 * r)) = false := by simp [h1]
       simp only [e1, e2, Bool.false_and, Bool.or_false, Bool.toNat_false, Nat.add_zero] at h
       have e3 : (2 * q + 1) * g = 2 * (q * g) + g := by rw [Nat.add_mul, Nat.mul_assoc]; omega
       have e4 : 2 * q * g = 2 * (q * g) := by rw [Nat.mul_assoc]
       omega
 · have hd' : n.log2 + 2 < drop := by omega
   rw [Nat.min_eq_right (by omega)]
   have h1 : n < 2 ^ (n.log2 + 1) := Nat.lt_log2_self
   have h2 : 2 ^ (n.log2 + 2) = 2 * 2 ^ (n.log2 + 1) := by rw [Nat.pow_succ]; omega
   have h4 : n / 2 ^ (n.log2 + 2) = 0 := Nat.div_eq_of_lt (by omega)
   have h5 : n % 2 ^ (n.log2 + 2) = n := Nat.mod_eq_of_lt (by omega)
   rw [h4, h5]
   have h6 : ¬ 2 ^ (n.log2 + 2) < 2 * n := by omega
   have h7 : (2 ^ (n.log2 + 2) == 2 * n) = false := by simp; omega
   simp only [h6, h7, decide_false, Bool.false_and, Bool.or_false, Bool.toNat_false, Nat.add_zero]
structure DivSpec (kept E A B u : Nat) : Prop where
 lo : 2 ^ 52 ≤ kept
 hi : kept ≤ 2 ^ 53
 up : (2 * kept) * (2 ^ E * B) ≤ 2 * (A * u) + 2 ^ E * B
 dn : 2 * (A * u) ≤ (2 * kept) * (2 ^ E * B) + 2 ^ E * B
 bl : 2 ^ 52 * (2 ^ E * B) ≤ A * u
 bh : A * u < 2 ^ 53 * (2 ^ E * B)
 tie : 2 * (A * u) = (2 * kept) * (2 ^ E * B) + 2 ^ E * B ∨ 2 * (A * u) + 2 ^ E * B = (2 * kept) * (2 ^ E * B) → kept % 2 = 0
theorem quot_core {m n more Q g kept : Nat} (hn : 0 < n) (hQ : Q = 2 * (m * 2 ^ more / n) + (m * 2 ^ more % n != 0).toNat) {D : Nat} (hD : 2 ≤ D) (hg : g = 2 ^ D) (h1 : 2 * (kept * g) ≤ 2 * Q + g) (h2 : 2 * Q ≤ 2 * (kept * g) + g)
   (ht : 2 * Q = (2 * kept + 1) * g ∨ 2 * Q + g = 2 * kept * g → kept % 2 = 0) (hl : 2 ^ 52 * g ≤ Q) (hh : Q < 2 ^ 53 * g) :
   (2 * kept) * (g * n) ≤ 2 * (2 * (m * 2 ^ more)) + g * n ∧ 2 * (2 * (m * 2 ^ more)) ≤ (2 * kept) * (g * n) + g * n ∧ 2 ^ 52 * (g * n) ≤ 2 * (m * 2 ^ more) ∧ 2 * (m * 2 ^ more) < 2 ^ 53 * (g * n) ∧
   (2 * (2 * (m * 2 ^ more)) = (2 * kept) * (g * n) + g * n ∨ 2 * (2 * (m * 2 ^ more)) + g * n = (2 * kept) * (g * n) → kept % 2 = 0) := by
 generalize hdv : m * 2 ^ more = dv at *
 have hdm := Nat.div_add_mod dv n
 have hlt := Nat.mod_lt dv hn
 generalize dv / n = q at *
 generalize dv % n = r at *
 obtain ⟨g4, hg4⟩ : ∃ g4, g = 4 * g4 := ⟨2 ^ (D - 2), by rw [hg]; have e : 2 ^ D = 2 ^ (2 + (D - 2)) := (by congr 1; omega); rw [e, Nat.pow_add]⟩
 by_cases hr : r = 0
 ·
   have hQ' : Q = 2 * q := by rw [hQ, hr]; rfl
   have hY : 2 * dv = Q * n := by rw [hQ', Nat.mul_assoc, Nat.mul_comm q n]; omega
   rw [hY]
   refine ⟨?_, ?_, ?_, ?_, ?_⟩
   · have := Nat.mul_le_mul_right n h1
     calc 2 * kept * (g * n) = 2 * (kept * g) * n := by ac_rfl
       _ ≤ (2 * Q + g) * n := this
       _ = _ := by rw [Nat.add_mul, Nat.mul_assoc]
   · have := Nat.mul_le_mul_right n h2
     calc 2 * (Q * n) = 2 * Q * n := by ac_rfl
       _ ≤ (2 * (kept * g) + g) * n := this
       _ = _ := by rw [Nat.add_mul]; congr 1; ac_rfl
   · calc 2 ^ 52 * (g * n) = 2 ^ 52 * g * n := by ac_rfl
       _ ≤ Q * n := Nat.mul_le_mul_right n hl
   · calc Q * n < 2 ^ 53 * g * n := Nat.mul_lt_mul_of_pos_right hh hn
       _ = _ := by ac_rfl
   · rintro (h | h)
     · refine ht (.inl (Nat.eq_of_mul_eq_mul_right hn ?_))
       calc 2 * Q * n = 2 * (Q * n) := by ac_rfl
         _ = _ := h
         _ = _ := by rw [Nat.add_mul, Nat.one_mul, Nat.add_mul]; congr 1; ac_rfl
     · refine ht (.inr (Nat.eq_of_mul_eq_mul_right hn ?_))
       calc (2 * Q + g) * n = 2 * (Q * n) + g * n := by rw [Nat.add_mul]; congr 1; ac_rfl
         _ = _ := h
         _ = _ := by ac_rfl
 · have hQ' : Q = 2 * q + 1 := by
     rw [hQ]
     have : (r != 0) = true := by simp [hr]
     rw [this]; rfl
   have hY1 : (Q - 1) * n < 2 * dv := by
     rw [hQ', Nat.add_sub_cancel, Nat.mul_assoc, Nat.mul_comm q n]; omega
   have hY2 : 2 * dv < (Q + 1) * n := by
     have : (Q + 1) * n = 2 * (n * q) + 2 * n := by rw [hQ', Nat.add_mul, Nat.add_mul, Nat.mul_assoc, Nat.mul_comm q n]; omega
     omega
   have hQ1 : 1 ≤ Q := by omega
   have f1 : 2 * (kept * g) ≤ 2 * (Q - 1) + g := by
     have e1 : kept * g = 4 * (kept * g4) := by rw [hg4]; ac_rfl
     omega
   have f2 : 2 * (Q + 1) ≤ 2 * (kept * g) + g := by
     have e1 : kept * g = 4 * (kept * g4) := by rw [hg4]; ac_rfl
     omega
   have s1 : 2 * kept * (g * n) < 2 * (2 * dv) + g * n := by
     calc 2 * kept * (g * n) = 2 * (kept * g) * n := by ac_rfl
       _ ≤ (2 * (Q - 1) + g) * n := Nat.mul_le_mul_right n f1
       _ = 2 * ((Q - 1) * n) + g * n := by rw [Nat.add_mul, Nat.mul_assoc]
       _ < _ := by omega
   have s2 : 2 * (2 * dv) < 2 * kept * (g * n) + g * n := by
     calc 2 * (2 * dv) < 2 * ((Q + 1) * n) := by omega
       _ = 2 * (Q + 1) * n := by ac_rfl
       _ ≤ (2 * (kept * g) + g) * n := Nat.mul_le_mul_right n f2
       _ = _ := by rw [Nat.add_mul]; congr 1; ac_rfl
   refine ⟨Nat.le_of_lt s1, Nat.le_of_lt s2, ?_, ?_, ?_⟩
   · have f3 : 2 ^ 52 * g ≤ Q - 1 := by
       have e1 : 2 ^ 52 * g = 4 * (2 ^ 52 * g4) := by rw [hg4]; ac_rfl
       generalize 2 ^ 52 * g4 = z at *
       omega
     calc 2 ^ 52 * (g * n) = 2 ^ 52 * g * n := by ac_rfl
       _ ≤ (Q - 1) * n := Nat.mul_le_mul_right n f3
       _ ≤ _ := Nat.le_of_lt hY1
   · have f3 : Q + 1 ≤ 2 ^ 53 * g := by omega
     calc 2 * dv < (Q + 1) * n := hY2
       _ ≤ 2 ^ 53 * g * n := Nat.mul_le_mul_right n f3
       _ = _ := by ac_rfl
   · rintro (h | h)
     · exact absurd h (Nat.ne_of_lt s2)
     · exact absurd h (Nat.ne_of_gt s1)
theorem log2_bounds {n : Nat} (h : n ≠ 0) : 2 ^ n.log2 ≤ n ∧ n < 2 ^ (n.log2 + 1) := ⟨Nat.log2_self_le h, Nat.lt_log2_self⟩
theorem FI_div {x y : Nat} {a b : Int} (hx : FI x a) (hy : FI y b) (ha : a ≠ 0) (hb : b ≠ 0) (hb2 : b.natAbs < 2 ^ 53) (ha2 : a.natAbs < 2 ^ 53) :
   ∃ r, double.div x y = some r ∧ Fin r ∧ ∃ kept E, DivSpec kept E a.natAbs b.natAbs (2 ^ U1) ∧ V r = if (decide (a < 0) ^^ decide (b < 0)) then -((kept * 2 ^ E : Nat) : Int) else ((kept * 2 ^ E : Nat) : Int) := by
 obtain ⟨s, m, i, h1, h2, h3, hm⟩ := read_fin hx.1
 obtain ⟨t, n, j, h4, h5, h6, hn⟩ := read_fin hy.1
 rw [hx.2] at h3
 rw [hy.2] at h6
 have hma : m * 2 ^ (i + 1074).toNat = a.natAbs * 2 ^ U1 := by
   have := congrArg Int.natAbs h3
   rw [signed_natAbs, Int.natAbs_mul, natAbs_pow2] at this
   exact this
 have hnb : n * 2 ^ (j + 1074).toNat = b.natAbs * 2 ^ U1 := by
   have := congrArg Int.natAbs h6
   rw [signed_natAbs, Int.natAbs_mul, natAbs_pow2] at this
   exact this
 have ha' : a.natAbs ≠ 0 := by omega
 have hb' : b.natAbs ≠ 0 := by omega
 have hpos : ∀ k : Nat, (2 : Nat) ^ k ≠ 0 := fun k => Nat.ne_of_gt (Nat.two_pow_pos _)
 have hm0 : m ≠ 0 := fun e => by
   rw [e, Nat.zero_mul] at hma
   rcases Nat.mul_eq_zero.1 hma.symm with h | h
   · exact ha' h
   · exact hpos _ h
 have hn0 : n ≠ 0 := fun e => by
   rw [e, Nat.zero_mul] at hnb
   rcases Nat.mul_eq_zero.1 hnb.symm with h | h
   · exact hb' h
   · exact hpos _ h
 have hi := place_lo h2 hm ha' hma
 have hj := place_lo h5 hn hb' hnb
 have hU : U1 = 1074 := rfl
 have hj2 : j < 53 := by
   rcases Int.lt_or_le j 53 with h | h
   · exact h
   · exfalso
     obtain ⟨c, hc⟩ : ∃ c : Nat, c = 53 := ⟨_, rfl⟩
     have e1 : (j + 1074).toNat = U1 + (j.toNat - c + c) := by rw [hU]; omega
     rw [e1, Nat.pow_add, Nat.pow_add, Nat.mul_comm (2 ^ U1), ← Nat.mul_assoc] at hnb
     have e2 := Nat.eq_of_mul_eq_mul_right (Nat.two_pow_pos _) hnb
     have e3 : 2 ^ c ≤ b.natAbs := by
       rw [← e2, ← Nat.mul_assoc]
       exact Nat.le_mul_of_pos_left _ (Nat.mul_pos (Nat.pos_of_ne_zero hn0) (Nat.two_pow_pos _))
     rw [hc] at e3
     omega
 have hmi : i < 53 := by
   rcases Int.lt_or_le i 53 with h | h
   · exact h
   · exfalso
     obtain ⟨c, hc⟩ : ∃ c : Nat, c = 53 := ⟨_, rfl⟩
     have e1 : (i + 1074).toNat = U1 + (i.toNat - c + c) := by rw [hU]; omega
     rw [e1, Nat.pow_add, Nat.pow_add, Nat.mul_comm (2 ^ U1), ← Nat.mul_assoc] at hma
     have e2 := Nat.eq_of_mul_eq_mul_right (Nat.two_pow_pos _) hma
     have e3 : 2 ^ c ≤ a.natAbs := by
       rw [← e2, ← Nat.mul_assoc]
       exact Nat.le_mul_of_pos_left _ (Nat.mul_pos (Nat.pos_of_ne_zero hm0) (Nat.two_pow_pos _))
     rw [hc] at e3
     omega
 have hlm : m.log2 ≤ 52 := by
   have := (Nat.log2_lt hm0).2 hm
   omega
 have hln : n.log2 ≤ 52 := by
   have := (Nat.log2_lt hn0).2 hn
   omega
 have hmore : (52 + 2) + n.log2 - m.log2 = 54 + n.log2 - m.log2 := rfl
 generalize hmo : 54 + n.log2 - m.log2 = more at *
 let Q := 2 * (m * 2 ^ more / n) + (m * 2 ^ more % n != 0).toNat
 have hQdef : Q = 2 * (m * 2 ^ more / n) + (m * 2 ^ more % n != 0).toNat := rfl
 clear_value Q
 have hdiv : double.div x y = some (double.nearest (s ^^ t) Q (i - j - more - 1)) := by
   unfold Format.div
   rw [h1, h4]
   simp only [Datum.quotient, hn0, if_false, frb, Option.map_some, Format.write]
   rw [show (52 + 2) + n.log2 - m.log2 = more from hmo, Nat.shiftLeft_eq, hQdef]
 have hq53 : 2 ^ 53 ≤ m * 2 ^ more / n := by
   rw [Nat.le_div_iff_mul_le (Nat.pos_of_ne_zero hn0)]
   obtain ⟨l1, _⟩ := log2_bounds hm0
   obtain ⟨_, l4⟩ := log2_bounds hn0
   have e1 : m.log2 + more = 53 + (n.log2 + 1) := by omega
   calc 2 ^ 53 * n ≤ 2 ^ 53 * 2 ^ (n.log2 + 1) := Nat.mul_le_mul_left _ (Nat.le_of_lt l4)
     _ = 2 ^ m.log2 * 2 ^ more := by rw [← Nat.pow_add, ← Nat.pow_add, e1]
     _ ≤ m * 2 ^ more := Nat.mul_le_mul_right _ l1
 have hQ54 : 2 ^ 54 ≤ Q := by rw [hQdef]; omega
 have hQ0 : Q ≠ 0 := by omega
 obtain ⟨q1, q2⟩ := log2_bounds hQ0
 have hL54 : 54 ≤ Q.log2 := by rw [Nat.le_log2 hQ0]; exact hQ54
 have hLup : Q.log2 ≤ 161 := by
   have hQup : Q < 2 ^ 162 := by
     have : m * 2 ^ more / n ≤ m * 2 ^ more := Nat.div_le_self _ _
     have h7 : m * 2 ^ more < 2 ^ 53 * 2 ^ 106 := by
       apply Nat.lt_of_lt_of_le (Nat.mul_lt_mul_of_pos_right hm (Nat.two_pow_pos _))
       exact Nat.mul_le_mul_left _ (Nat.pow_le_pow_right (by decide) (by omega))
     have h8 : (m * 2 ^ more % n != 0).toNat ≤ 1 := Bool.toNat_le _
     have h9 : (2 : Nat) ^ 53 * 2 ^ 106 = 2 ^ 159 := by decide
     have h10 : (2 : Nat) ^ 162 = 8 * 2 ^ 159 := by decide
     rw [h9] at h7
     rw [hQdef, h10]
     generalize (2 : Nat) ^ 159 = z at *
     omega
   have := (Nat.log2_lt hQ0).2 hQup
   omega
 generalize hpl : i - j - more - 1 = place at *
 have hplb : -300 ≤ place ∧ place ≤ 1100 := by omega
 have hlast : last Q place = place + Q.log2 - 52 := by unfold last; omega
 obtain ⟨n1, n2⟩ := nearest_V (s ^^ t) hQ0 (place := place) (by omega)
 obtain ⟨k1, k2⟩ := kept_bounds (s ^^ t) hQ0 place
 have hk2 : 2 ^ 52 ≤ keptOf (s ^^ t) Q place := k2.resolve_left (by rw [hlast]; omega)
 have hD : (last Q place - place).toNat = Q.log2 - 52 := by rw [hlast]; omega
 have hz : (place - last Q place).toNat = 0 := by rw [hlast]; omega
 have hkd : keptOf (s ^^ t) Q place = Toward.even.cut (s ^^ t) Q (Q.log2 - 52) := by
   unfold keptOf
   rw [hD, hz, Nat.shiftLeft_eq, Nat.pow_zero, Nat.mul_one]
 obtain ⟨c1, c2⟩ := cut_err (s ^^ t) Q (Q.log2 - 52)
 have c3 := cut_tie (s ^^ t) Q (Q.log2 - 52)
 rw [← hkd] at c1 c2 c3
 generalize keptOf (s ^^ t) Q place = kept at *
 have hlg : Q.log2 = 52 + (Q.log2 - 52) := by omega
 have hl : 2 ^ 52 * 2 ^ (Q.log2 - 52) ≤ Q := by rw [← Nat.pow_add, ← hlg]; exact q1
 have hh : Q < 2 ^ 53 * 2 ^ (Q.log2 - 52) := by rw [← Nat.pow_add, show 53 + (Q.log2 - 52) = Q.log2 + 1 by omega]; exact q2
 obtain ⟨r1, r2, r3, r4, r5⟩ := quot_core (Nat.pos_of_ne_zero hn0) hQdef (D := Q.log2 - 52) (by omega) rfl c1 c2 c3 hl hh
 have hE : (last Q place + 1074).toNat = (Q.log2 - 52) + (place + 1074).toNat := by rw [hlast]; omega
 have hSc1 : 2 ^ (Q.log2 - 52) * n * 2 ^ ((place + 1074).toNat + (j + 1074).toNat) = 2 ^ (last Q place + 1074).toNat * b.natAbs * 2 ^ U1 := by
   rw [hE, Nat.pow_add, Nat.pow_add, Nat.mul_assoc (2 ^ _ * 2 ^ _), ← hnb]; ac_rfl
 have hSc2 : 2 * (m * 2 ^ more) * 2 ^ ((place + 1074).toNat + (j + 1074).toNat) = a.natAbs * 2 ^ U1 * 2 ^ U1 := by
   have e1 : 1 + more + ((place + 1074).toNat + (j + 1074).toNat) = (i + 1074).toNat + U1 := by rw [hU]; omega
   calc 2 * (m * 2 ^ more) * 2 ^ ((place + 1074).toNat + (j + 1074).toNat) = m * (2 ^ 1 * 2 ^ more * 2 ^ ((place + 1074).toNat + (j + 1074).toNat)) := by rw [Nat.pow_one]; ac_rfl
     _ = m * 2 ^ (1 + more + ((place + 1074).toNat + (j + 1074).toNat)) := by rw [← Nat.pow_add, ← Nat.pow_add]
     _ = m * 2 ^ (i + 1074).toNat * 2 ^ U1 := by rw [e1, Nat.pow_add, Nat.mul_assoc]
     _ = _ := by rw [hma]
 refine ⟨_, hdiv, n1, kept, (last Q place + 1074).toNat, ?_, ?_⟩
 · generalize (last Q place + 1074).toNat = E at *
   generalize 2 ^ ((place + 1074).toNat + (j + 1074).toNat) = Sc at *
   generalize hY : 2 * (m * 2 ^ more) = Y at *
   generalize hG : 2 ^ (Q.log2 - 52) * n = G at *
   have hu : 0 < 2 ^ U1 := Nat.two_pow_pos _
   generalize 2 ^ U1 = u at *
   generalize hP : 2 ^ E * b.natAbs = Pw at *
   have sc : ∀ {p q : Nat}, p * Sc = q * u → True := fun _ => trivial
   have g1 : ∀ k, k * (Pw * u) = k * G * Sc := fun k => by rw [← hSc1]; ac_rfl
   have g2 : ∀ k, k * (a.natAbs * u * u) = k * Y * Sc := fun k => by rw [← hSc2]; ac_rfl
   have hle : ∀ {p q : Nat}, p * u ≤ q * u → p ≤ q := fun h => Nat.le_of_mul_le_mul_right h hu
   refine ⟨hk2, k1, ?_, ?_, ?_, ?_, ?_⟩ <;> rw [hP]
   · apply hle
     calc 2 * kept * Pw * u = 2 * kept * G * Sc := by rw [Nat.mul_assoc (2 * kept), g1]
       _ ≤ (2 * Y + G) * Sc := Nat.mul_le_mul_right _ r1
       _ = 2 * (a.natAbs * u * u) + 1 * (Pw * u) := by rw [g1, g2, Nat.add_mul, Nat.one_mul]
       _ = (2 * (a.natAbs * u) + Pw) * u := by rw [Nat.add_mul, Nat.one_mul]; congr 1; ac_rfl
   · apply hle
     calc 2 * (a.natAbs * u) * u = 2 * (a.natAbs * u * u) := by ac_rfl
       _ = 2 * Y * Sc := by rw [g2]
       _ ≤ (2 * kept * G + G) * Sc := Nat.mul_le_mul_right _ r2
       _ = 2 * kept * (Pw * u) + 1 * (Pw * u) := by rw [g1, g1, Nat.add_mul, Nat.one_mul]
       _ = _ := by rw [Nat.add_mul, Nat.one_mul]; ac_rfl
   · apply hle
     calc 2 ^ 52 * Pw * u = 2 ^ 52 * G * Sc := by rw [Nat.mul_assoc, g1]
       _ ≤ Y * Sc := Nat.mul_le_mul_right _ r3
       _ = 1 * (a.natAbs * u * u) := by rw [g2, Nat.one_mul]
       _ = _ := by rw [Nat.one_mul]
   · have hSc0 : 0 < Sc := by
       rcases Nat.eq_zero_or_pos Sc with h | h
       · exfalso
         rw [h, Nat.mul_zero] at hSc2
         have h9 : 0 < a.natAbs * u * u := Nat.mul_pos (Nat.mul_pos (by omega) hu) hu
         omega
       · exact h
     apply Nat.lt_of_mul_lt_mul_right (a := u)
     calc a.natAbs * u * u = Y * Sc := hSc2.symm
       _ < 2 ^ 53 * G * Sc := Nat.mul_lt_mul_of_pos_right r4 hSc0
       _ = 2 ^ 53 * (Pw * u) := by rw [g1]
       _ = _ := by ac_rfl
   · have hSc0 : 0 < Sc := by
       rcases Nat.eq_zero_or_pos Sc with h | h
       · exfalso
         rw [h, Nat.mul_zero] at hSc2
         have h9 : 0 < a.natAbs * u * u := Nat.mul_pos (Nat.mul_pos (by omega) hu) hu
         omega
       · exact h
     rintro (h | h)
     · refine r5 (.inl (Nat.eq_of_mul_eq_mul_right hSc0 ?_))
       calc 2 * Y * Sc = 2 * (a.natAbs * u * u) := (g2 2).symm
         _ = 2 * (a.natAbs * u) * u := by ac_rfl
         _ = (2 * kept * Pw + Pw) * u := by rw [h]
         _ = 2 * kept * (Pw * u) + 1 * (Pw * u) := by rw [Nat.add_mul, Nat.one_mul]; ac_rfl
         _ = 2 * kept * G * Sc + 1 * G * Sc := by rw [g1, g1]
         _ = _ := by rw [Nat.add_mul, Nat.one_mul]
     · refine r5 (.inr (Nat.eq_of_mul_eq_mul_right hSc0 ?_))
       calc (2 * Y + G) * Sc = 2 * (a.natAbs * u * u) + 1 * (Pw * u) := by rw [g1, g2, Nat.add_mul, Nat.one_mul]
         _ = (2 * (a.natAbs * u) + Pw) * u := by rw [Nat.add_mul, Nat.one_mul]; ac_rfl
         _ = 2 * kept * Pw * u := by rw [h]
         _ = 2 * kept * (Pw * u) := by ac_rfl
         _ = _ := g1 _
 · rw [n2]
   have sgn : ∀ {s : Bool} {m k : Nat} {a : Int}, a ≠ 0 → signed s m k = a * 2 ^ U1 → s = decide (a < 0) := by
     intro s m k a ha h
     have hp := pow_pos' U1
     rw [signed_mag] at h
     cases s
     · have h8 : 0 ≤ a * 2 ^ U1 := by rw [← h]; exact Int.natCast_nonneg _
       have : ¬ a < 0 := fun hneg => by have := Int.mul_neg_of_neg_of_pos hneg hp; omega
       exact (decide_eq_false this).symm
     · have h9 : a * 2 ^ U1 ≤ 0 := by rw [← h]; exact Int.neg_nonpos_of_nonneg (Int.natCast_nonneg _)
       have : a < 0 := by
         rcases Int.lt_or_le a 0 with h10 | h10
         · exact h10
         · have : 0 < a := by omega
           have := Int.mul_pos this hp; omega
       exact (decide_eq_true this).symm
   rw [sgn ha h3, sgn hb h6]
end Go.Fl

namespace Go.Fl
open Ieee
section
variable {k E A B u l F C D : Nat}
theorem DivSpec.pos (h : DivSpec k E A B u) : 0 < k := by have := h.lo; omega
theorem quot_lt (h1 : DivSpec k E A B u) (h2 : DivSpec l F C D u) (_hB : 0 < B) (_hD : 0 < D) (hu : 0 < u) (hlt : A * D < C * B) (hs : A * D ≤ 2 ^ 50) : k * 2 ^ E < l * 2 ^ F := by
 have e1 : 2 ^ 53 * (k * 2 ^ E * B) ≤ (2 ^ 53 + 1) * (A * u) := by
   have a1 := h1.up
   have a2 := h1.bl
   have a3 : 2 * k * (2 ^ E * B) = 2 * (k * 2 ^ E * B) := by ac_rfl
   rw [a3] at a1
   generalize 2 ^ E * B = P at *
   generalize k * 2 ^ E * B = N at *
   omega
 have e2 : 2 ^ 53 * (C * u) ≤ 2 ^ 53 * (l * 2 ^ F * D) + C * u := by
   have a1 := h2.dn
   have a2 := h2.bl
   have a3 : 2 * l * (2 ^ F * D) = 2 * (l * 2 ^ F * D) := by ac_rfl
   rw [a3] at a1
   generalize 2 ^ F * D = P at *
   generalize l * 2 ^ F * D = N at *
   omega
 have f1 : 2 ^ 53 * (k * 2 ^ E) * (B * D) ≤ (2 ^ 53 + 1) * (A * D) * u := by
   calc 2 ^ 53 * (k * 2 ^ E) * (B * D) = 2 ^ 53 * (k * 2 ^ E * B) * D := by ac_rfl
     _ ≤ (2 ^ 53 + 1) * (A * u) * D := Nat.mul_le_mul_right _ e1
     _ = _ := by ac_rfl
 have f2 : 2 ^ 53 * (C * B) * u ≤ 2 ^ 53 * (l * 2 ^ F) * (B * D) + (C * B) * u := by
   calc 2 ^ 53 * (C * B) * u = 2 ^ 53 * (C * u) * B := by ac_rfl
     _ ≤ (2 ^ 53 * (l * 2 ^ F * D) + C * u) * B := Nat.mul_le_mul_right _ e2
     _ = _ := by rw [Nat.add_mul]; congr 1 <;> ac_rfl
 have f3 : (2 ^ 53 + 1) * (A * D) * u + (C * B) * u < 2 ^ 53 * (C * B) * u := by
   rw [← Nat.add_mul]
   apply Nat.mul_lt_mul_of_pos_right _ hu
   generalize A * D = X at *
   generalize C * B = Y at *
   omega
 have f4 : 2 ^ 53 * (k * 2 ^ E) * (B * D) < 2 ^ 53 * (l * 2 ^ F) * (B * D) := by omega
 have f5 := Nat.lt_of_mul_lt_mul_right f4
 exact Nat.lt_of_mul_lt_mul_left f5
theorem quot_eq (h1 : DivSpec k E A B u) (h2 : DivSpec l F C D u) (hB : 0 < B) (hD : 0 < D) (heq : A * D = C * B) : k * 2 ^ E = l * 2 ^ F := by
 have hX : A * u * D = C * u * B := by
   calc A * u * D = A * D * u := by ac_rfl
     _ = C * B * u := by rw [heq]
     _ = _ := by ac_rfl
 have b1 : 2 ^ 52 * (2 ^ E * (B * D)) ≤ A * u * D := by
   calc _ = 2 ^ 52 * (2 ^ E * B) * D := by ac_rfl
     _ ≤ _ := Nat.mul_le_mul_right _ h1.bl
 have b2 : A * u * D < 2 ^ 53 * (2 ^ E * (B * D)) := by
   calc _ < 2 ^ 53 * (2 ^ E * B) * D := Nat.mul_lt_mul_of_pos_right h1.bh hD
     _ = _ := by ac_rfl
 have b3 : 2 ^ 52 * (2 ^ F * (B * D)) ≤ A * u * D := by
   rw [hX]
   calc _ = 2 ^ 52 * (2 ^ F * D) * B := by ac_rfl
     _ ≤ _ := Nat.mul_le_mul_right _ h2.bl
 have b4 : A * u * D < 2 ^ 53 * (2 ^ F * (B * D)) := by
   rw [hX]
   calc _ < 2 ^ 53 * (2 ^ F * D) * B := Nat.mul_lt_mul_of_pos_right h2.bh hB
     _ = _ := by ac_rfl
 have hlt : ∀ {E F : Nat}, 2 ^ 52 * (2 ^ F * (B * D)) ≤ A * u * D → A * u * D < 2 ^ 53 * (2 ^ E * (B * D)) → ¬ E < F := by
   intro E F c1 c2 hEF
   have c3 : 2 ^ (E + 1) ≤ 2 ^ F := Nat.pow_le_pow_right (by decide) hEF
   have c4 : 2 ^ (E + 1) * (B * D) ≤ 2 ^ F * (B * D) := Nat.mul_le_mul_right _ c3
   have c5 : 2 ^ (E + 1) * (B * D) = 2 * (2 ^ E * (B * D)) := by rw [Nat.pow_succ]; ac_rfl
   rw [c5] at c4
   generalize 2 ^ E * (B * D) = x at *
   generalize 2 ^ F * (B * D) = y at *
   omega
 have hEF : E = F := Nat.le_antisymm (Nat.not_lt.1 (hlt (E := F) (F := E) b1 b4)) (Nat.not_lt.1 (hlt (E := E) (F := F) b3 b2))
 subst hEF
 have u1 : 2 * k * (2 ^ E * (B * D)) ≤ 2 * (A * u * D) + 2 ^ E * (B * D) := by
   calc _ = 2 * k * (2 ^ E * B) * D := by ac_rfl
     _ ≤ (2 * (A * u) + 2 ^ E * B) * D := Nat.mul_le_mul_right _ h1.up
     _ = _ := by rw [Nat.add_mul]; congr 1 <;> ac_rfl
 have u2 : 2 * (A * u * D) ≤ 2 * k * (2 ^ E * (B * D)) + 2 ^ E * (B * D) := by
   calc _ = 2 * (A * u) * D := by ac_rfl
     _ ≤ (2 * k * (2 ^ E * B) + 2 ^ E * B) * D := Nat.mul_le_mul_right _ h1.dn
     _ = _ := by rw [Nat.add_mul]; congr 1 <;> ac_rfl
 have u3 : 2 * l * (2 ^ E * (B * D)) ≤ 2 * (A * u * D) + 2 ^ E * (B * D) := by
   rw [hX]
   calc _ = 2 * l * (2 ^ E * D) * B := by ac_rfl
     _ ≤ (2 * (C * u) + 2 ^ E * D) * B := Nat.mul_le_mul_right _ h2.up
     _ = _ := by rw [Nat.add_mul]; congr 1 <;> ac_rfl
 have u4 : 2 * (A * u * D) ≤ 2 * l * (2 ^ E * (B * D)) + 2 ^ E * (B * D) := by
   rw [hX]
   calc _ = 2 * (C * u) * B := by ac_rfl
     _ ≤ (2 * l * (2 ^ E * D) + 2 ^ E * D) * B := Nat.mul_le_mul_right _ h2.dn
     _ = _ := by rw [Nat.add_mul]; congr 1 <;> ac_rfl
 have hP : 0 < 2 ^ E * (B * D) := Nat.mul_pos (Nat.two_pow_pos _) (Nat.mul_pos hB hD)
 have t1 : (2 * (A * u * D) = 2 * k * (2 ^ E * (B * D)) + 2 ^ E * (B * D) ∨ 2 * (A * u * D) + 2 ^ E * (B * D) = 2 * k * (2 ^ E * (B * D))) → k % 2 = 0 := by
   rintro (h | h)
   · refine h1.tie (.inl (Nat.eq_of_mul_eq_mul_right hD ?_))
     calc 2 * (A * u) * D = 2 * (A * u * D) := by ac_rfl
       _ = _ := h
       _ = _ := by rw [Nat.add_mul]; congr 1 <;> ac_rfl
   · refine h1.tie (.inr (Nat.eq_of_mul_eq_mul_right hD ?_))
     calc (2 * (A * u) + 2 ^ E * B) * D = 2 * (A * u * D) + 2 ^ E * (B * D) := by rw [Nat.add_mul]; congr 1 <;> ac_rfl
       _ = _ := h
       _ = _ := by ac_rfl
 have t2 : (2 * (A * u * D) = 2 * l * (2 ^ E * (B * D)) + 2 ^ E * (B * D) ∨ 2 * (A * u * D) + 2 ^ E * (B * D) = 2 * l * (2 ^ E * (B * D))) → l % 2 = 0 := by
   rw [hX]
   rintro (h | h)
   · refine h2.tie (.inl (Nat.eq_of_mul_eq_mul_right hB ?_))
     calc 2 * (C * u) * B = 2 * (C * u * B) := by ac_rfl
       _ = _ := h
       _ = _ := by rw [Nat.add_mul]; congr 1 <;> ac_rfl
   · refine h2.tie (.inr (Nat.eq_of_mul_eq_mul_right hB ?_))
     calc (2 * (C * u) + 2 ^ E * D) * B = 2 * (C * u * B) + 2 ^ E * (B * D) := by rw [Nat.add_mul]; congr 1 <;> ac_rfl
       _ = _ := h
       _ = _ := by ac_rfl
 clear b1 b2 b3 b4 hlt hX h1 h2
 generalize 2 ^ E * (B * D) = p at *
 generalize A * u * D = X at *
 congr 1
 have step : ∀ k l : Nat, 2 * k * p ≤ 2 * X + p → 2 * X ≤ 2 * k * p + p → 2 * l * p ≤ 2 * X + p → ((2 * X = 2 * k * p + p ∨ 2 * X + p = 2 * k * p) → k % 2 = 0) → ((2 * X = 2 * l * p + p ∨ 2 * X + p = 2 * l * p) → l % 2 = 0) → ¬ k < l := by
   intro k l v1 v2 v3 w1 w2 hkl
   obtain ⟨d, rfl⟩ : ∃ d, l = k + 1 + d := ⟨l - (k + 1), by omega⟩
   have x1 : 2 * (k + 1 + d) * p = 2 * k * p + 2 * p + 2 * (d * p) := by rw [Nat.mul_add, Nat.mul_add, Nat.add_mul, Nat.add_mul, Nat.mul_assoc 2 d p]
   rw [x1] at v3 w2
   have hd : d * p = 0 := by omega
   have hd0 : d = 0 := by
     rcases Nat.mul_eq_zero.1 hd with h | h
     · exact h
     · omega
   subst hd0
   have y1 := w1 (by left; omega)
   have y2 := w2 (by right; omega)
   omega
 exact Nat.le_antisymm (Nat.not_lt.1 (step l k u3 u4 u1 t2 t1)) (Nat.not_lt.1 (step k l u1 u2 u3 t1 t2))
end
def QV (v : Int) (a b : Int) : Prop :=
 (a = 0 ∧ v = 0) ∨ (a ≠ 0 ∧ ∃ k E, DivSpec k E a.natAbs b.natAbs (2 ^ U1) ∧ v = if (decide (a < 0) ^^ decide (b < 0)) then -((k * 2 ^ E : Nat) : Int) else ((k * 2 ^ E : Nat) : Int))
theorem div_QV {x y : Nat} {a b : Int} (hx : FI x a) (hy : FI y b) (hb : b ≠ 0) (hb2 : b.natAbs < 2 ^ 53) (ha2 : a.natAbs < 2 ^ 53) : ∃ r, double.div x y = some r ∧ Fin r ∧ QV (V r) a b := by
 by_cases ha : a = 0
 · subst ha
   obtain ⟨s, m, i, h1, h2, h3, _⟩ := read_fin hx.1
   obtain ⟨t, n, j, h4, h5, h6, _⟩ := read_fin hy.1
   rw [hx.2, Int.zero_mul] at h3
   rw [hy.2] at h6
   have hm0 : m = 0 := by
     have := congrArg Int.natAbs h3
     rw [signed_natAbs] at this
     rcases Nat.mul_eq_zero.1 this with h | h
     · exact h
     · exact absurd h (Nat.ne_of_gt (Nat.two_pow_pos _))
   have hn0 : n ≠ 0 := fun e => by
     have := congrArg Int.natAbs h6
     rw [signed_natAbs, e, Nat.zero_mul, Int.natAbs_mul, natAbs_pow2] at this
     rcases Nat.mul_eq_zero.1 this.symm with h | h
     · omega
     · exact absurd h (Nat.ne_of_gt (Nat.two_pow_pos _))
   subst hm0
   refine ⟨double.word (s ^^ t) 0, ?_, (word_zero _).1, .inl ⟨rfl, ?_⟩⟩
   · unfold Format.div
     rw [h1, h4]
     simp only [Datum.quotient, hn0, if_false, Option.map_some, Format.write, Nat.zero_shiftLeft, Nat.zero_div, Nat.zero_mod, bne_self_eq_false, Bool.toNat_false, Nat.mul_zero, Nat.add_zero]
     unfold Format.nearest
     simp
   · rw [(word_zero _).2, Int.zero_mul]
 · obtain ⟨r, h1, h2, k, E, h3, h4⟩ := FI_div hx hy ha hb hb2 ha2
   exact ⟨r, h1, h2, .inr ⟨ha, k, E, h3, h4⟩⟩
theorem mul_sign (a b : Int) : a * b = if (decide (a < 0) ^^ decide (b < 0)) then -((a.natAbs * b.natAbs : Nat) : Int) else ((a.natAbs * b.natAbs : Nat) : Int) := by
 rw [Int.natCast_mul]
 by_cases hA : a < 0 <;> by_cases hB : b < 0
 · have e1 : (a.natAbs : Int) = -a := by omega
   have e2 : (b.natAbs : Int) = -b := by omega
   simp only [hA, hB, decide_true, Bool.xor_self, Bool.false_eq_true, if_false, e1, e2, Int.neg_mul_neg]
 · have e1 : (a.natAbs : Int) = -a := by omega
   have e2 : (b.natAbs : Int) = b := by omega
   simp only [hA, hB, decide_true, decide_false, Bool.xor_false, if_true, e1, e2, Int.neg_mul, Int.neg_neg]
 · have e1 : (a.natAbs : Int) = a := by omega
   have e2 : (b.natAbs : Int) = -b := by omega
   simp only [hA, hB, decide_true, decide_false, Bool.false_xor, if_true, e1, e2, Int.mul_neg, Int.neg_neg]
 · have e1 : (a.natAbs : Int) = a := by omega
   have e2 : (b.natAbs : Int) = b := by omega
   simp only [hA, hB, decide_false, Bool.xor_self, Bool.false_eq_true, if_false, e1, e2]
theorem QV_lt {v w a b c d : Int} (h1 : QV v a b) (h2 : QV w c d) (hb : b ≠ 0) (hd : d ≠ 0) (hs1 : a.natAbs * d.natAbs ≤ 2 ^ 50) (hs2 : c.natAbs * b.natAbs ≤ 2 ^ 50) (h : a * b * (d * d) < c * d * (b * b)) : v < w := by
 have hu : 0 < 2 ^ U1 := Nat.two_pow_pos _
 have hB : 0 < b.natAbs := by omega
 have hD : 0 < d.natAbs := by omega
 have sq : ∀ x : Int, x * x = ((x.natAbs * x.natAbs : Nat) : Int) := fun x => by rw [mul_sign x x]; simp
 rw [sq b, sq d, mul_sign a b, mul_sign c d] at h
 have key : ∀ A B C D : Nat, A * B * (D * D) < C * D * (B * B) → A * D < C * B := by
   intro A B C D hh
   have : A * D * (B * D) < C * B * (B * D) := by
     calc A * D * (B * D) = A * B * (D * D) := by ac_rfl
       _ < _ := hh
       _ = _ := by ac_rfl
   exact Nat.lt_of_mul_lt_mul_right this
 rcases h1 with ⟨rfl, rfl⟩ | ⟨ha, k, E, hk, hv⟩ <;> rcases h2 with ⟨rfl, rfl⟩ | ⟨hc, l, F, hl, hw⟩
 · simp at h
 · rw [hw]
   have hp : 0 < l * 2 ^ F := Nat.mul_pos hl.pos (Nat.two_pow_pos _)
   split
   · rename_i hs
     exfalso
     simp only [hs, if_true, Int.natAbs_zero, Nat.zero_mul] at h
     generalize c.natAbs * d.natAbs = x at h
     generalize b.natAbs * b.natAbs = y at h
     have : (0 : Int) ≤ (x : Int) * (y : Int) := Int.mul_nonneg (Int.natCast_nonneg _) (Int.natCast_nonneg _)
     simp [Int.neg_mul] at h
     omega
   · omega
 · rw [hv]
   have hp : 0 < k * 2 ^ E := Nat.mul_pos hk.pos (Nat.two_pow_pos _)
   split
   · omega
   · rename_i hs
     exfalso
     simp only [hs, Bool.false_eq_true, if_false, Int.natAbs_zero, Nat.zero_mul] at h
     generalize a.natAbs * b.natAbs = x at h
     generalize d.natAbs * d.natAbs = y at h
     have : (0 : Int) ≤ (x : Int) * (y : Int) := Int.mul_nonneg (Int.natCast_nonneg _) (Int.natCast_nonneg _)
     simp at h
     omega
 · rw [hv, hw]
   have hp1 : 0 < k * 2 ^ E := Nat.mul_pos hk.pos (Nat.two_pow_pos _)
   have hp2 : 0 < l * 2 ^ F := Nat.mul_pos hl.pos (Nat.two_pow_pos _)
   by_cases s1 : (decide (a < 0) ^^ decide (b < 0)) = true <;> by_cases s2 : (decide (c < 0) ^^ decide (d < 0)) = true
   · simp only [s1, s2, if_true] at h ⊢
     have h' : c.natAbs * d.natAbs * (b.natAbs * b.natAbs) < a.natAbs * b.natAbs * (d.natAbs * d.natAbs) := by
       rw [Int.neg_mul, Int.neg_mul, ← Int.natCast_mul, ← Int.natCast_mul] at h
       omega
     have := quot_lt hl hk hD hB hu (key _ _ _ _ h') hs2
     omega
   · simp only [s1, s2, if_true, Bool.false_eq_true, if_false]
     omega
   · exfalso
     simp only [s1, s2, if_true, Bool.false_eq_true, if_false] at h
     rw [Int.neg_mul, ← Int.natCast_mul, ← Int.natCast_mul] at h
     omega
   · simp only [s1, s2, Bool.false_eq_true, if_false] at h ⊢
     have h' : a.natAbs * b.natAbs * (d.natAbs * d.natAbs) < c.natAbs * d.natAbs * (b.natAbs * b.natAbs) := by
       rw [← Int.natCast_mul, ← Int.natCast_mul] at h
       omega
     have := quot_lt hk hl hB hD hu (key _ _ _ _ h') hs1
     omega
theorem QV_eq {v w a b c d : Int} (h1 : QV v a b) (h2 : QV w c d) (hb : b ≠ 0) (hd : d ≠ 0) (h : a * d = c * b) : v = w := by
 have hB : 0 < b.natAbs := by omega
 have hD : 0 < d.natAbs := by omega
 have hA : a.natAbs * d.natAbs = c.natAbs * b.natAbs := by rw [← Int.natAbs_mul, ← Int.natAbs_mul, h]
 rcases h1 with ⟨rfl, rfl⟩ | ⟨ha, k, E, hk, hv⟩ <;> rcases h2 with ⟨rfl, rfl⟩ | ⟨hc, l, F, hl, hw⟩
 · rfl
 · rw [Int.zero_mul] at h
   rcases Int.mul_eq_zero.1 h.symm with e | e
   · exact absurd e hc
   · exact absurd e hb
 · rw [Int.zero_mul] at h
   rcases Int.mul_eq_zero.1 h with e | e
   · exact absurd e ha
   · exact absurd e hd
 · rw [hv, hw, quot_eq hk hl hB hD hA]
   have hs : (decide (a < 0) ^^ decide (b < 0)) = (decide (c < 0) ^^ decide (d < 0)) := by
     have e1 := mul_sign a d
     have e2 := mul_sign c b
     have p1 : 0 < a.natAbs * d.natAbs := Nat.mul_pos (by omega) hD
     have p2 : 0 < c.natAbs * b.natAbs := Nat.mul_pos (by omega) hB
     rw [h, e2] at e1
     have hx : (decide (a < 0) ^^ decide (d < 0)) = (decide (c < 0) ^^ decide (b < 0)) := by
       cases x1 : (decide (a < 0) ^^ decide (d < 0)) <;> cases x2 : (decide (c < 0) ^^ decide (b < 0))
       · rfl
       · simp only [x1, x2, if_true, Bool.false_eq_true, if_false] at e1; omega
       · simp only [x1, x2, if_true, Bool.false_eq_true, if_false] at e1; omega
       · rfl
     generalize decide (a < 0) = p at *
     generalize decide (b < 0) = q at *
     generalize decide (c < 0) = r at *
     generalize decide (d < 0) = t at *
     cases p <;> cases q <;> cases r <;> cases t <;> simp_all
   rw [hs]
end Go.Fl

namespace Go.Fl
open Go.Sx Ieee
def infw : Nat := 9218868437227405312
theorem fin_order {x y : Nat} (hx : Fin x) (hy : Fin y) : FloatKind.f64.format.order x y = some (compare (V x) (V y)) := order_fin hx hy
theorem fin_zero : Fin 0 := ⟨by decide, by decide⟩
theorem V_zero : V 0 = 0 := by decide
theorem read_inf : Ieee.Format.read Ieee.double infw = .infinity false := by decide
theorem order_inf {x : Nat} (hx : Fin x) : FloatKind.f64.format.order x infw = some .lt := by
 obtain ⟨s, m, i, h1, _⟩ := read_fin hx
 show (Ieee.Format.read Ieee.double x).order (Ieee.Format.read Ieee.double infw) = _
 rw [h1, read_inf]; rfl
theorem inf_order {x : Nat} (hx : Fin x) : FloatKind.f64.format.order infw x = some .gt := by
 obtain ⟨s, m, i, h1, _⟩ := read_fin hx
 show (Ieee.Format.read Ieee.double infw).order (Ieee.Format.read Ieee.double x) = _
 rw [h1, read_inf]; rfl
theorem fne_self {x : Nat} (hx : Fin x) : fNe .f64 x x = false := by
 unfold fNe; rw [fin_order hx hx, cmp_int]; simp
theorem feq_inf {x : Nat} (hx : Fin x) : fEq .f64 x infw = false := by
 unfold fEq; rw [order_inf hx]; rfl
theorem fgt_inf {x : Nat} (hx : Fin x) : fGt .f64 infw x = true := by
 unfold fGt; rw [inf_order hx]; rfl
theorem feq_V {x y : Nat} (hx : Fin x) (hy : Fin y) : fEq .f64 x y = decide (V x = V y) := by
 unfold fEq; rw [fin_order hx hy, cmp_int]
 split
 · rename_i h; rw [decide_eq_false (by omega)]; rfl
 · split
   · rename_i h; rw [decide_eq_true h]; rfl
   · rename_i h; rw [decide_eq_false h]; rfl
theorem flt_V {x y : Nat} (hx : Fin x) (hy : Fin y) : fLt .f64 x y = decide (V x < V y) := by
 unfold fLt; rw [fin_order hx hy, cmp_int]
 split
 · rename_i h; rw [decide_eq_true h]; rfl
 · rename_i h; rw [decide_eq_false h]; split <;> rfl
theorem fle_V {x y : Nat} (hx : Fin x) (hy : Fin y) : fLe .f64 x y = decide (V x ≤ V y) := by
 unfold fLe; rw [fin_order hx hy, cmp_int]
 split
 · rename_i h; rw [decide_eq_true (by omega)]; rfl
 · split
   · rename_i h; rw [decide_eq_true (by omega)]; rfl
   · rename_i h; rw [decide_eq_false (by omega)]; rfl
theorem fgt_V {x y : Nat} (hx : Fin x) (hy : Fin y) : fGt .f64 x y = decide (V y < V x) := by
 unfold fGt; rw [fin_order hx hy, cmp_int]
 split
 · rename_i h; rw [decide_eq_false (by omega)]; rfl
 · split
   · rename_i h; rw [decide_eq_false (by omega)]; rfl
   · rename_i h; rw [decide_eq_true (by omega)]; rfl
theorem fge_V {x y : Nat} (hx : Fin x) (hy : Fin y) : fGe .f64 x y = decide (V y ≤ V x) := by
 unfold fGe; rw [fin_order hx hy, cmp_int]
 split
 · rename_i h; rw [decide_eq_false (by omega)]; rfl
 · split
   · rename_i h; rw [decide_eq_true (by omega)]; rfl
   · rename_i h; rw [decide_eq_true (by omega)]; rfl
theorem feq_zero {x : Nat} (hx : Fin x) : fEq .f64 x 0 = decide (V x = 0) := by rw [feq_V hx fin_zero, V_zero]
theorem fgt_zero {x : Nat} (hx : Fin x) : fGt .f64 x 0 = decide (0 < V x) := by rw [fgt_V hx fin_zero, V_zero]
theorem ord_I {x y : Nat} {a b : Int} (hx : FI x a) (hy : FI y b) : FloatKind.f64.format.order x y = some (compare a b) := hx.order hy
theorem flt_I {x y : Nat} {a b : Int} (hx : FI x a) (hy : FI y b) : fLt .f64 x y = decide (a < b) := by
 unfold fLt; rw [ord_I hx hy, cmp_int]
 split
 · rename_i h; rw [decide_eq_true h]; rfl
 · rename_i h; rw [decide_eq_false h]; split <;> rfl
theorem fgt_I {x y : Nat} {a b : Int} (hx : FI x a) (hy : FI y b) : fGt .f64 x y = decide (b < a) := by
 unfold fGt; rw [ord_I hx hy, cmp_int]
 split
 · rename_i h; rw [decide_eq_false (by omega)]; rfl
 · split
   · rename_i h; rw [decide_eq_false (by omega)]; rfl
   · rename_i h; rw [decide_eq_true (by omega)]; rfl
theorem feq_I {x y : Nat} {a b : Int} (hx : FI x a) (hy : FI y b) : fEq .f64 x y = decide (a = b) := by
 unfold fEq; rw [ord_I hx hy, cmp_int]
 split
 · rename_i h; rw [decide_eq_false (by omega)]; rfl
 · split
   · rename_i h; rw [decide_eq_true h]; rfl
   · rename_i h; rw [decide_eq_false h]; rfl
theorem fle_I {x y : Nat} {a b : Int} (hx : FI x a) (hy : FI y b) : fLe .f64 x y = decide (a ≤ b) := by
 unfold fLe; rw [ord_I hx hy, cmp_int]
 split
 · rename_i h; rw [decide_eq_true (by omega)]; rfl
 · split
   · rename_i h; rw [decide_eq_true (by omega)]; rfl
   · rename_i h; rw [decide_eq_false (by omega)]; rfl
theorem fge_I {x y : Nat} {a b : Int} (hx : FI x a) (hy : FI y b) : fGe .f64 x y = decide (b ≤ a) := by
 unfold fGe; rw [ord_I hx hy, cmp_int]
 split
 · rename_i h; rw [decide_eq_false (by omega)]; rfl
 · split
   · rename_i h; rw [decide_eq_true (by omega)]; rfl
   · rename_i h; rw [decide_eq_true (by omega)]; rfl
end Go.Fl

namespace Go.Fl
open Ieee
theorem rmag_succ (r : Nat) : rmag (r + 1) = rmag r + 2 ^ (r / 2 ^ 52 - 1) := by
 by_cases h : r < 2 ^ 52
 · have h0 : r / 2 ^ 52 = 0 := Nat.div_eq_of_lt h
   rw [h0, rmag_small h]
   by_cases h1 : r + 1 < 2 ^ 52
   · rw [rmag_small h1]
   · have : r + 1 = (0 + 1) * 2 ^ 52 + 0 := by omega
     rw [this, rmag_at 0 0 (by decide)]
 · obtain ⟨E, f, hf, he⟩ : ∃ E f, f < 2 ^ 52 ∧ r = (E + 1) * 2 ^ 52 + f := ⟨r / 2 ^ 52 - 1, r % 2 ^ 52, Nat.mod_lt _ (by decide), by omega⟩
   have hd : r / 2 ^ 52 - 1 = E := by omega
   rw [hd, he, rmag_at E f hf]
   by_cases h1 : f + 1 < 2 ^ 52
   · rw [show (E + 1) * 2 ^ 52 + f + 1 = (E + 1) * 2 ^ 52 + (f + 1) by omega, rmag_at E (f + 1) h1, ← Nat.add_assoc, Nat.add_mul, Nat.one_mul]
   · have h2 : f = 2 ^ 52 - 1 := by omega
     rw [show (E + 1) * 2 ^ 52 + f + 1 = (E + 1 + 1) * 2 ^ 52 + 0 by omega, rmag_at (E + 1) 0 (by decide), h2]
     rw [Nat.pow_succ]
     omega
theorem rmag_step (r : Nat) : 2 ^ 52 * 2 ^ (r / 2 ^ 52 - 1) ≤ rmag r + 2 ^ 52 := by
 by_cases h : r < 2 ^ 52
 · have h0 : r / 2 ^ 52 = 0 := Nat.div_eq_of_lt h
   rw [h0]; omega
 · obtain ⟨E, f, hf, he⟩ : ∃ E f, f < 2 ^ 52 ∧ r = (E + 1) * 2 ^ 52 + f := ⟨r / 2 ^ 52 - 1, r % 2 ^ 52, Nat.mod_lt _ (by decide), by omega⟩
   have hd : r / 2 ^ 52 - 1 = E := by omega
   rw [hd, he, rmag_at E f hf, Nat.add_mul]
   omega
theorem V_pos {x : Nat} (h : x < 2 ^ 63) : V x = rmag x := by
 unfold V
 rw [if_neg (by omega), Nat.mod_eq_of_lt h]
theorem V_neg {r : Nat} (h : r < 2 ^ 63) : V (2 ^ 63 + r) = -(rmag r : Int) := by
 unfold V
 rw [if_pos (by omega), show (2 ^ 63 + r) % 2 ^ 63 = r by omega]
theorem step_small {r : Nat} {b : Nat} (hr : rmag r ≤ 2 ^ (52 + b)) : r / 2 ^ 52 - 1 ≤ b + 1 := by
 have h1 := rmag_step r
 rcases Nat.lt_or_ge (b + 1) (r / 2 ^ 52 - 1) with h | h
 · exfalso
   have h2 : 2 ^ (b + 2) ≤ 2 ^ (r / 2 ^ 52 - 1) := Nat.pow_le_pow_right (by decide) h
   have h3 : 2 ^ 52 * 2 ^ (b + 2) ≤ rmag r + 2 ^ 52 := Nat.le_trans (Nat.mul_le_mul_left _ h2) h1
   have h4 : 2 ^ (52 + b) = 2 ^ 52 * 2 ^ b := Nat.pow_add 2 52 b
   have h5 : 2 ^ 52 * 2 ^ (b + 2) = 4 * (2 ^ 52 * 2 ^ b) := by rw [Nat.pow_add 2 b 2]; omega
   have h6 : 2 ^ 52 ≤ 2 ^ 52 * 2 ^ b := Nat.le_mul_of_pos_right _ (Nat.two_pow_pos _)
   omega
 · exact h
def nxt (x : Nat) : Nat := if V x = 0 then 1 else if 0 < V x then x + 1 else x - 1
theorem nxt_spec {x : Nat} {n : Int} (h : FI x n) (hn : n.natAbs ≤ 2 ^ 22) : x + 1 < 18446744073709551616 ∧ Fin (nxt x) ∧ ∃ k, k ≤ 1045 ∧ V (nxt x) = n * 2 ^ U1 + ((2 ^ k : Nat) : Int) := by
 obtain ⟨⟨h64, hrung⟩, hv⟩ := h
 have hU : U1 = 1074 := rfl
 obtain ⟨b, hb⟩ : ∃ b : Nat, b = 1044 := ⟨_, rfl⟩
 have hbU : 22 + U1 = 52 + b := by omega
 have hmag : n.natAbs * 2 ^ U1 ≤ 2 ^ (52 + b) := by
   rw [← hbU, Nat.pow_add]; exact Nat.mul_le_mul_right _ hn
 have hpow : (2 : Int) ^ U1 = ((2 ^ U1 : Nat) : Int) := by simp
 have habs : (V x).natAbs = n.natAbs * 2 ^ U1 := by rw [hv, Int.natAbs_mul, natAbs_pow2]
 rw [← habs] at hmag
 refine ⟨by omega, ?_⟩
 unfold nxt
 by_cases h0 : V x = 0
 · rw [if_pos h0]
   have h1 : V 1 = 1 := by decide
   refine ⟨⟨by decide, by decide⟩, 0, by omega, ?_⟩
   rw [h1, ← hv, h0]; rfl
 · rw [if_neg h0]
   rcases Nat.lt_or_ge x (2 ^ 63) with hlo | hhi
   · have hVx := V_pos hlo
     have hpos : 0 < V x := by rw [hVx] at h0 ⊢; omega
     rw [if_pos hpos]
     rw [Nat.mod_eq_of_lt hlo] at hrung
     rw [hVx, Int.natAbs_natCast] at hmag
     have hs := step_small hmag
     have hx1 : x + 1 < 2 ^ 63 := by omega
     refine ⟨⟨by omega, by rw [Nat.mod_eq_of_lt hx1]; omega⟩, x / 2 ^ 52 - 1, by omega, ?_⟩
     rw [V_pos hx1, rmag_succ, ← hv, hVx]
     exact Int.natCast_add _ _
   · obtain ⟨r, rfl⟩ : ∃ r, x = 2 ^ 63 + r := ⟨x - 2 ^ 63, by omega⟩
     have hr63 : r < 2 ^ 63 := by omega
     have hVx := V_neg hr63
     have hneg : ¬ 0 < V (2 ^ 63 + r) := by rw [hVx]; omega
     rw [if_neg hneg]
     have hr0 : r ≠ 0 := fun e => by subst e; exact h0 (by decide)
     obtain ⟨s, rfl⟩ : ∃ s, r = s + 1 := ⟨r - 1, by omega⟩
     have hm : (2 ^ 63 + (s + 1)) % 2 ^ 63 = s + 1 := by omega
     rw [hm] at hrung
     rw [hVx, Int.natAbs_neg, Int.natAbs_natCast] at hmag
     have hms : rmag s ≤ 2 ^ (52 + b) := by rw [rmag_succ] at hmag; exact Nat.le_trans (Nat.le_add_right _ _) hmag
     have hs := step_small hms
     have e : 2 ^ 63 + (s + 1) - 1 = 2 ^ 63 + s := by omega
     rw [e]
     refine ⟨⟨by omega, by omega⟩, s / 2 ^ 52 - 1, by omega, ?_⟩
     rw [V_neg (by omega), ← hv, hVx, rmag_succ, Int.natCast_add]
     omega
theorem near_bounds (neg : Bool) {mag : Nat} (hm : mag ≠ 0) {place : Int} (hp : -1074 ≤ place) :
   0 < keptOf neg mag place * 2 ^ (last mag place + 1074).toNat ∧ keptOf neg mag place * 2 ^ (last mag place + 1074).toNat ≤ 2 * (mag * 2 ^ (place + 1074).toNat) := by
 obtain ⟨hk1, hk2⟩ := kept_bounds neg hm place
 obtain ⟨e1, e2⟩ := cut_err neg (mag <<< (place - last mag place).toNat) (last mag place - place).toNat
 have hl0 : -1074 ≤ last mag place := by unfold last; omega
 have hkd : keptOf neg mag place = Toward.even.cut neg (mag <<< (place - last mag place).toNat) (last mag place - place).toNat := rfl
 rw [← hkd] at e1 e2
 rw [Nat.shiftLeft_eq] at e1 e2
 generalize keptOf neg mag place = k at *
 generalize last mag place = l at *
 by_cases hs : l ≤ place
 · have h0 : (l - place).toNat = 0 := by omega
   rw [h0] at e1 e2
   simp only [Nat.pow_zero, Nat.mul_one] at e1 e2
   have hk : k = mag * 2 ^ (place - l).toNat := by omega
   have e3 : k * 2 ^ (l + 1074).toNat = mag * 2 ^ (place + 1074).toNat := by
     rw [hk, Nat.mul_assoc, ← Nat.pow_add]; congr 2; omega
   rw [e3]
   have : 0 < mag * 2 ^ (place + 1074).toNat := Nat.mul_pos (by omega) (Nat.two_pow_pos _)
   omega
 · have h0 : (place - l).toNat = 0 := by omega
   rw [h0] at e1 e2
   simp only [Nat.pow_zero, Nat.mul_one] at e1 e2
   have hk : 2 ^ 52 ≤ k := by rcases hk2 with h | h <;> omega
   refine ⟨Nat.mul_pos (by omega) (Nat.two_pow_pos _), ?_⟩
   have e3 : (l + 1074).toNat = (l - place).toNat + (place + 1074).toNat := by omega
   rw [e3, Nat.pow_add, ← Nat.mul_assoc, ← Nat.mul_assoc]
   refine Nat.mul_le_mul_right _ ?_
   generalize 2 ^ (l - place).toNat = g at *
   have hg : g ≤ k * g := Nat.le_mul_of_pos_left _ (by omega)
   omega
theorem sub_near {p y : Nat} {n : Int} {k : Nat} (hp : Fin p) (hv : V p = n * 2 ^ U1 + ((2 ^ k : Nat) : Int)) (hk : k ≤ 1045) (hy : FI y n) :
   ∃ r, double.sub p y = some r ∧ Fin r ∧ 0 < V r ∧ V r ≤ ((2 ^ (k + 1) : Nat) : Int) := by
 obtain ⟨s, m, i, h1, h2, h3, _⟩ := read_fin hp
 obtain ⟨t, l, j, h4, h5, h6, _⟩ := read_fin hy.1
 rw [hy.2] at h6
 refine ⟨double.write ((Datum.number (if signed s m (i - min i j).toNat + signed (!t) l (j - min i j).toNat = 0 then s && !t else decide (signed s m (i - min i j).toNat + signed (!t) l (j - min i j).toNat < 0)) (signed s m (i - min i j).toNat + signed (!t) l (j - min i j).toNat).natAbs (min i j))), ?_, ?_⟩
 · unfold Format.sub
   rw [h1, h4]; rfl
 · generalize htot : signed s m (i - min i j).toNat + signed (!t) l (j - min i j).toNat = tot
   have e1 : (i + 1074).toNat = (i - min i j).toNat + (min i j + 1074).toNat := by omega
   have e2 : (j + 1074).toNat = (j - min i j).toNat + (min i j + 1074).toNat := by omega
   have h7 : signed (!t) l (j + 1074).toNat = -(n * 2 ^ U1) := by rw [signed_not, h6]
   have hkey : tot * 2 ^ (min i j + 1074).toNat = ((2 ^ k : Nat) : Int) := by
     have : signed s m (i + 1074).toNat + signed (!t) l (j + 1074).toNat = ((2 ^ k : Nat) : Int) := by rw [h3, h7, hv]; omega
     rw [e1, e2, signed_add, signed_add, ← Int.add_mul, htot] at this
     exact this
   have hpk : (0 : Int) < ((2 ^ k : Nat) : Int) := Int.natCast_pos.2 (Nat.two_pow_pos k)
   have htpos : 0 < tot := by
     rcases Int.lt_or_le 0 tot with h | h
     · exact h
     · have := Int.mul_nonneg (show 0 ≤ -tot by omega) (Int.le_of_lt (pow_pos' (min i j + 1074).toNat))
       rw [Int.neg_mul] at this; omega
   have hnat : tot.natAbs * 2 ^ (min i j + 1074).toNat = 2 ^ k := by
     have := congrArg Int.natAbs hkey
     rw [Int.natAbs_mul, natAbs_pow2, Int.natAbs_natCast] at this
     exact this
   have hm0 : tot.natAbs ≠ 0 := by omega
   have hlog : (min i j) + tot.natAbs.log2 ≤ 1022 := by
     have h8 := Nat.log2_self_le hm0
     have h9 : 2 ^ tot.natAbs.log2 * 2 ^ (min i j + 1074).toNat ≤ 2 ^ k := by rw [← hnat]; exact Nat.mul_le_mul_right _ h8
     rw [← Nat.pow_add] at h9
     have h10 := (Nat.pow_le_pow_iff_right (by decide : 1 < 2)).1 h9
     omega
   rw [if_neg (by omega), decide_eq_false (by omega)]
   show Fin (double.nearest false tot.natAbs (min i j)) ∧ 0 < V (double.nearest false tot.natAbs (min i j)) ∧ V (double.nearest false tot.natAbs (min i j)) ≤ _
   obtain ⟨h11, h12⟩ := nearest_V false hm0 (place := min i j) hlog
   obtain ⟨h13, h14⟩ := near_bounds false hm0 (place := min i j) (by omega)
   refine ⟨h11, ?_, ?_⟩
   · rw [h12]; simp only [Bool.false_eq_true, if_false]; omega
   · rw [h12]; simp only [Bool.false_eq_true, if_false]
     rw [hnat] at h14
     rw [Nat.pow_succ]; omega
theorem div_little {x y : Nat} {d : Int} {k : Nat} (hx : Fin x) (h0 : 0 < V x) (hk : V x ≤ ((2 ^ k : Nat) : Int)) (hk2 : k ≤ 1047) (hy : FI y d) (hd : d ≠ 0) :
   ∃ r, double.div x y = some r ∧ Fin r ∧ (0 < d → 0 ≤ V r) ∧ (d < 0 → V r ≤ 0) ∧ (V r).natAbs ≤ 2 ^ (k + 1) := by
 obtain ⟨s, m, i, h1, h2, h3, hm⟩ := read_fin hx
 obtain ⟨t, n, j, h4, h5, h6, hn⟩ := read_fin hy.1
 rw [hy.2] at h6
 have hmv : m * 2 ^ (i + 1074).toNat = (V x).natAbs := by rw [← h3, signed_natAbs]
 have hnb : n * 2 ^ (j + 1074).toNat = d.natAbs * 2 ^ U1 := by
   have := congrArg Int.natAbs h6
   rw [signed_natAbs, Int.natAbs_mul, natAbs_pow2] at this
   exact this
 have hm0 : m ≠ 0 := fun e => by rw [e, Nat.zero_mul] at hmv; omega
 have hn0 : n ≠ 0 := fun e => by
   rw [e, Nat.zero_mul] at hnb
   rcases Nat.mul_eq_zero.1 hnb.symm with h | h
   · omega
   · exact absurd h (Nat.ne_of_gt (Nat.two_pow_pos _))
 have hj := place_lo h5 hn (show d.natAbs ≠ 0 by omega) hnb
 have hs : s = false := by
   cases s
   · rfl
   · rw [signed_mag] at h3
     simp only [if_true] at h3
     omega
 have ht : t = decide (d < 0) := by
   have hp := pow_pos' U1
   rw [signed_mag] at h6
   cases t
   · simp only [Bool.false_eq_true, if_false] at h6
     have h7 : 0 ≤ d * 2 ^ U1 := by rw [← h6]; exact Int.natCast_nonneg _
     have : ¬ d < 0 := fun hneg => by have := Int.mul_neg_of_neg_of_pos hneg hp; omega
     exact (decide_eq_false this).symm
   · simp only [if_true] at h6
     have h9 : d * 2 ^ U1 ≤ 0 := by rw [← h6]; exact Int.neg_nonpos_of_nonneg (Int.natCast_nonneg _)
     have : d < 0 := by
       rcases Int.lt_or_le d 0 with h10 | h10
       · exact h10
       · have : 0 < d := by omega
         have := Int.mul_pos this hp; omega
     exact (decide_eq_true this).symm
 have hU : U1 = 1074 := rfl
 have hlm : m.log2 ≤ 52 := by have := (Nat.log2_lt hm0).2 hm; omega
 have hln : n.log2 ≤ 52 := by have := (Nat.log2_lt hn0).2 hn; omega
 have hmore : 54 + n.log2 - m.log2 + m.log2 = 54 + n.log2 := by omega
 generalize hmo : 54 + n.log2 - m.log2 = more at *
 refine ⟨double.nearest (s ^^ t) (2 * (m <<< more / n) + (m <<< more % n != 0).toNat) (i - j - more - 1), ?_, ?_⟩
 · unfold Format.div
   rw [h1, h4]
   show Option.map double.write (Datum.quotient (52 + 2) _ _) = _
   unfold Datum.quotient
   simp only [hn0, if_false]
   rw [show 52 + 2 + n.log2 - m.log2 = more from hmo]
   rfl
 · rw [Nat.shiftLeft_eq]
   generalize hdv : m * 2 ^ more = dv
   have hm1 := Nat.log2_self_le hm0
   have hm2 : m < 2 ^ (m.log2 + 1) := Nat.lt_log2_self
   have hn1 := Nat.log2_self_le hn0
   have hn2 : n < 2 ^ (n.log2 + 1) := Nat.lt_log2_self
   have hdv1 : 2 ^ (54 + n.log2) ≤ dv := by
     rw [← hdv, ← hmore, Nat.add_comm more, Nat.pow_add]
     exact Nat.mul_le_mul_right _ hm1
   have hdv2 : dv < 2 ^ (55 + n.log2) := by
     rw [← hdv, show 55 + n.log2 = (m.log2 + 1) + more by omega, Nat.pow_add]
     exact Nat.mul_lt_mul_of_pos_right hm2 (Nat.two_pow_pos _)
   have hq1 : 2 ^ 53 ≤ dv / n := by
     rw [Nat.le_div_iff_mul_le (by omega)]
     have h8 : 2 ^ 53 * n ≤ 2 ^ 53 * 2 ^ (n.log2 + 1) := Nat.mul_le_mul_left _ (by omega)
     rw [← Nat.pow_add, show 53 + (n.log2 + 1) = 54 + n.log2 by omega] at h8
     omega
   have hq2 : dv / n < 2 ^ 55 := by
     rw [Nat.div_lt_iff_lt_mul (by omega)]
     have h8 : 2 ^ 55 * 2 ^ n.log2 ≤ 2 ^ 55 * n := Nat.mul_le_mul_left _ hn1
     rw [← Nat.pow_add] at h8
     omega
   have hb1 : (dv % n != 0).toNat ≤ 1 := Bool.toNat_le _
   have hQn : (2 * (dv / n) + (dv % n != 0).toNat) * n ≤ 2 * dv + n := by
     have h8 : dv / n * n ≤ dv := Nat.div_mul_le_self _ _
     have h9 : (dv % n != 0).toNat * n ≤ 1 * n := Nat.mul_le_mul_right _ hb1
     rw [Nat.add_mul, Nat.mul_assoc]
     omega
   generalize hQ : 2 * (dv / n) + (dv % n != 0).toNat = Q at *
   have hQ0 : Q ≠ 0 := by omega
   have hQ1 : 2 ^ 54 ≤ Q := by omega
   have hQ2 : Q < 2 ^ 57 := by omega
   have hQl : 54 ≤ Q.log2 := (Nat.le_log2 hQ0).2 hQ1
   have hQl2 : Q.log2 ≤ 56 := by have := (Nat.log2_lt hQ0).2 hQ2; omega
   have hi : i + m.log2 ≤ k - 1074 := by
     have h8 : 2 ^ m.log2 * 2 ^ (i + 1074).toNat ≤ 2 ^ k := by
       refine Nat.le_trans (Nat.mul_le_mul_right _ hm1) ?_
       rw [hmv]; omega
     rw [← Nat.pow_add] at h8
     have h10 := (Nat.pow_le_pow_iff_right (by decide : 1 < 2)).1 h8
     omega
   generalize hpl : i - j - (more : Int) - 1 = pl at *
   have hlog : pl + Q.log2 ≤ 1022 := by omega
   obtain ⟨h11, h12⟩ := nearest_V (s ^^ t) hQ0 (place := pl) hlog
   obtain ⟨hk1, hk2'⟩ := kept_bounds (s ^^ t) hQ0 pl
   obtain ⟨e1, e2⟩ := cut_err (s ^^ t) (Q <<< (pl - last Q pl).toNat) (last Q pl - pl).toNat
   have hkd : keptOf (s ^^ t) Q pl = Toward.even.cut (s ^^ t) (Q <<< (pl - last Q pl).toNat) (last Q pl - pl).toNat := rfl
   rw [← hkd, Nat.shiftLeft_eq] at e1
   have hl1 : pl + 2 ≤ last Q pl := by unfold last; omega
   have hl0 : -1074 ≤ last Q pl := by unfold last; omega
   generalize keptOf (s ^^ t) Q pl = kp at *
   generalize last Q pl = l at *
   have hz : (pl - l).toNat = 0 := by omega
   rw [hz, Nat.pow_zero, Nat.mul_one] at e1
   have hmain : (kp - 1) * (2 ^ (l - pl).toNat * n) ≤ 2 * dv := by
     have hD : 4 ≤ 2 ^ (l - pl).toNat := by
       have : 2 ^ 2 ≤ 2 ^ (l - pl).toNat := Nat.pow_le_pow_right (by decide) (by omega)
       omega
     generalize 2 ^ (l - pl).toNat = g at *
     have h8 : 2 * (kp * g) * n ≤ (2 * Q + g) * n := Nat.mul_le_mul_right _ e1
     rw [Nat.add_mul, Nat.mul_assoc 2 Q n] at h8
     have h9 : 4 * n ≤ g * n := Nat.mul_le_mul_right _ hD
     rcases Nat.eq_zero_or_pos kp with hkp | hkp
     · subst hkp; simp
     · obtain ⟨c, rfl⟩ : ∃ c, kp = c + 1 := ⟨kp - 1, by omega⟩
       rw [Nat.add_sub_cancel]
       have h10 : 2 * ((c + 1) * g) * n = 2 * (c * (g * n)) + 2 * (g * n) := by
         rw [Nat.add_mul, Nat.one_mul, Nat.mul_add, Nat.add_mul, Nat.mul_assoc 2 (c * g) n, Nat.mul_assoc c g n, Nat.mul_assoc 2 g n]
       rw [h10] at h8
       omega
   have hX : (kp - 1) * 2 ^ (l + 1074).toNat * d.natAbs ≤ (V x).natAbs := by
     have h8 : (kp - 1) * (2 ^ (l - pl).toNat * n) * 2 ^ ((j + 1074).toNat + more + 1 + (l + 1074).toNat) ≤ 2 * dv * 2 ^ ((j + 1074).toNat + more + 1 + (l + 1074).toNat) := Nat.mul_le_mul_right _ hmain
     have e3 : (l - pl).toNat + (i + 1074).toNat = (l + 1074).toNat + (j + 1074).toNat + more + 1 - 1074 + 0 ∨ True := .inr trivial
     have e4 : (l - pl).toNat + (i + 1074).toNat + U1 = (j + 1074).toNat + more + 1 + (l + 1074).toNat := by rw [hU]; omega
     have h9 : (kp - 1) * (2 ^ (l - pl).toNat * n) * 2 ^ ((j + 1074).toNat + more + 1 + (l + 1074).toNat) = ((kp - 1) * 2 ^ (l + 1074).toNat * d.natAbs) * (2 ^ U1 * 2 ^ ((l - pl).toNat + more + 1)) := by
       calc (kp - 1) * (2 ^ (l - pl).toNat * n) * 2 ^ ((j + 1074).toNat + more + 1 + (l + 1074).toNat)
           = (kp - 1) * (2 ^ (l - pl).toNat * n) * (2 ^ (j + 1074).toNat * 2 ^ (more + 1) * 2 ^ (l + 1074).toNat) := by rw [← Nat.pow_add, ← Nat.pow_add]; rfl
         _ = (kp - 1) * 2 ^ (l + 1074).toNat * (n * 2 ^ (j + 1074).toNat) * (2 ^ (l - pl).toNat * 2 ^ (more + 1)) := by ac_rfl
         _ = _ := by
           rw [hnb, ← Nat.pow_add, Nat.add_assoc]
           generalize 2 ^ U1 = u
           generalize 2 ^ ((l - pl).toNat + (more + 1)) = u2
           ac_rfl
     have h10 : 2 * dv * 2 ^ ((j + 1074).toNat + more + 1 + (l + 1074).toNat) = (V x).natAbs * (2 ^ U1 * 2 ^ ((l - pl).toNat + more + 1)) := by
       rw [← hdv, ← hmv, ← e4]
       rw [Nat.pow_add _ _ U1, Nat.pow_add _ (l - pl).toNat, Nat.pow_add _ ((l - pl).toNat + more) 1, Nat.pow_add _ (l - pl).toNat more, Nat.pow_one]
       generalize 2 ^ U1 = u
       generalize (V x).natAbs = vx at *
       ac_rfl
     rw [h9, h10] at h8
     exact Nat.le_of_mul_le_mul_right h8 (Nat.mul_pos (Nat.two_pow_pos _) (Nat.two_pow_pos _))
   have hb : kp * 2 ^ (l + 1074).toNat ≤ 2 ^ (k + 1) := by
     have h8 : (kp - 1) * 2 ^ (l + 1074).toNat ≤ (V x).natAbs := Nat.le_trans (Nat.le_mul_of_pos_right _ (by omega)) hX
     have h9 : (V x).natAbs ≤ 2 ^ k := by omega
     have h10 : 0 < (V x).natAbs := by omega
     rcases hk2' with h | h
     · have : (l + 1074).toNat = 0 := by omega
       rw [this, Nat.pow_zero, Nat.mul_one] at h8 ⊢
       rw [Nat.pow_succ]; omega
     · generalize 2 ^ (l + 1074).toNat = g at *
       obtain ⟨c, rfl⟩ : ∃ c, kp = c + 1 := ⟨kp - 1, by omega⟩
       rw [Nat.add_sub_cancel] at h8
       have : g ≤ c * g := Nat.le_mul_of_pos_left _ (by omega)
       rw [Nat.add_mul, Nat.one_mul, Nat.pow_succ]; omega
   rw [hs] at h11 h12
   rw [hs]
   refine ⟨h11, fun hd0 => ?_, fun hd0 => ?_, ?_⟩
   · rw [h12, ht, decide_eq_false (by omega)]
     exact Int.natCast_nonneg _
   · rw [h12, ht, decide_eq_true hd0]
     exact Int.neg_nonpos_of_nonneg (Int.natCast_nonneg _)
   · rw [h12]
     split
     · rw [Int.natAbs_neg, Int.natAbs_natCast]; exact hb
     · rw [Int.natAbs_natCast]; exact hb
theorem QV_large {v a b : Int} (h : QV v a b) (ha : a ≠ 0) (hb : b.natAbs ≤ 2 ^ 24) : 2 ^ (U1 - 25) ≤ v.natAbs ∧ (v < 0 ↔ (decide (a < 0) ^^ decide (b < 0)) = true) := by
 rcases h with ⟨h, _⟩ | ⟨_, k, E, hd, hv⟩
 · exact absurd h ha
 · have hpos : 0 < k * 2 ^ E := Nat.mul_pos (by have := hd.lo; omega) (Nat.two_pow_pos _)
   have hlow : 2 ^ (U1 - 25) ≤ k * 2 ^ E := by
     have h1 := hd.dn
     have h2 := hd.lo
     have hU : U1 = (U1 - 25) + 25 := by decide
     have h3 : 2 * k * (2 ^ E * b.natAbs) + 2 ^ E * b.natAbs ≤ 4 * (k * 2 ^ E * b.natAbs) := by
       have h4 : 2 * k * (2 ^ E * b.natAbs) = 2 * (k * 2 ^ E * b.natAbs) := by ac_rfl
       have h5 : 2 ^ E * b.natAbs ≤ k * (2 ^ E * b.natAbs) := Nat.le_mul_of_pos_left _ (by omega)
       rw [← Nat.mul_assoc] at h5
       omega
     have h7 : k * 2 ^ E * b.natAbs ≤ k * 2 ^ E * 2 ^ 24 := Nat.mul_le_mul_left _ hb
     have h8 : 2 ^ U1 ≤ a.natAbs * 2 ^ U1 := Nat.le_mul_of_pos_left _ (by omega)
     rw [hU, Nat.pow_add] at h8
     rw [hU] at h1
     rw [Nat.pow_add] at h1
     generalize 2 ^ (U1 - 25) = u at *
     omega
   refine ⟨?_, ?_⟩
   · rw [hv]
     split
     · rw [Int.natAbs_neg, Int.natAbs_natCast]; exact hlow
     · rw [Int.natAbs_natCast]; exact hlow
   · rw [hv]
     split
     · rename_i h; simp only [h, iff_true]; omega
     · rename_i h; simp only [h]; constructor
       · intro h'; omega
       · intro h'; cases h'
end Go.Fl

namespace Go.Proofs.Tryz.Sx
open Go Go.Sx Go.Proofs Go.Fl
set_option maxRecDepth 100000
def frombitsF : PF := fun
 | [.int .u64 n] => some (.flt .f64 n.toNat, none)
 | _ => none
theorem frombits : PureOk Tryz.prog 109 frombitsF := by
 refine pure_of_extern Tryz.func109 (by kernel_rfl) (by kernel_rfl) (by kernel_rfl) (e := Extern.MathFloatBits.float64frombits) (by kernel_rfl) ?_
 intro args v p h hp
 unfold frombitsF at h
 split at h
 · injection h with h; injection h with h1 h2; subst h1; subst h2
   exact ⟨rfl, fun ρ w => rfl⟩
 · cases h
def bitsF : PF := fun
 | [.flt .f64 n] => some (.int .u64 n, none)
 | _ => none
theorem bits : PureOk Tryz.prog 110 bitsF := by
 refine pure_of_extern Tryz.func110 (by kernel_rfl) (by kernel_rfl) (by kernel_rfl) (e := Extern.MathFloatBits.float64bits) (by kernel_rfl) ?_
 intro args v p h hp
 unfold bitsF at h
 split at h
 · injection h with h; injection h with h1 h2; subst h1; subst h2
   exact ⟨rfl, fun ρ w => rfl⟩
 · cases h
def GM : Ctx := ⟨⟨tys, []⟩, [(109, pureCon frombitsF), (110, pureCon bitsF)]⟩
theorem gM : CtxOk Tryz.prog GM := ⟨⟨tysOk, FlatsOk.nil⟩, GamOk.cons (.pure frombits) (GamOk.cons (.pure bits) GamOk.nil), by kernel_rfl⟩
def isNaNF : PF := fun
 | [.flt .f64 x] => some (.bool (fNe .f64 x x), none)
 | _ => none
theorem isNaN : PureOk Tryz.prog 106 isNaNF := by
 refine pure_of_run gM Tryz.func106 rfl (by kernel_rfl) ?_
 intro args v p h hp
 unfold isNaNF at h
 split at h
 · injection h with h; injection h with h1 h2; subst h1; subst h2
   exact ⟨rfl, rfl, rfl, rfl⟩
 · cases h
def infF : PF := fun
 | [.int .i64 s] => some (.flt .f64 infw, some (s = 1))
 | _ => none
theorem inf : PureOk Tryz.prog 100 infF := by
 refine pure_of_run gM Tryz.func100 rfl (by kernel_rfl) ?_
 intro args v p h hp
 unfold infF at h
 split at h
 · injection h with h; injection h with h1 h2; subst h1; subst h2
   have hp : _ = _ := hp
   subst hp
   refine ⟨rfl, rfl, rfl, ?_⟩
   refine And.intro ?_ ?_
   · intro _; exact rfl
   · intro h; exact absurd h (by decide)
 · cases h
def copyF : PF := fun
 | [.flt .f64 x, .flt .f64 y] => some (.flt .f64 1, some (x = 1 ∧ y = infw))
 | _ => none
theorem copysign : PureOk Tryz.prog 108 copyF := by
 refine pure_of_run gM Tryz.func108 rfl (by kernel_rfl) ?_
 intro args v p h hp
 unfold copyF at h
 split at h
 · injection h with h; injection h with h1 h2; subst h1; subst h2
   have hp : _ ∧ _ := hp
   obtain ⟨rfl, rfl⟩ := hp
   refine ⟨rfl, rfl, rfl, ?_⟩
   show (_ : Nat) = _
   kernel_rfl
 · cases h
def GN : Ctx := ⟨⟨tys, []⟩, [(109, pureCon frombitsF), (110, pureCon bitsF), (106, pureCon isNaNF), (108, pureCon copyF)]⟩
theorem gN : CtxOk Tryz.prog GN := ⟨⟨tysOk, FlatsOk.nil⟩, GamOk.cons (.pure frombits) (GamOk.cons (.pure bits) (GamOk.cons (.pure isNaN) (GamOk.cons (.pure copysign) GamOk.nil))), by kernel_rfl⟩
def nextF : PF := fun
 | [.flt .f64 x, .flt .f64 y] => some (.flt .f64 (nxt x), some (y = infw ∧ Fl.Fin x ∧ x + 1 < 18446744073709551616))
 | _ => none
theorem next : PureOk Tryz.prog 99 nextF := by
 refine pure_of_run gN Tryz.func99 rfl (by kernel_rfl) ?_
 intro args v p h hp
 unfold nextF at h
 split at h
 · rename_i x y
   injection h with h; injection h with h1 h2; subst h1; subst h2
   have hp : _ ∧ _ ∧ _ := hp
   obtain ⟨rfl, hx, hlt⟩ := hp
   refine ⟨rfl, rfl, rfl, ?_⟩
   have e1 : fNe .f64 x x = false := fne_self hx
   have e2 : fNe .f64 infw infw = false := by kernel_rfl
   have e3 : fEq .f64 x infw = false := feq_inf hx
   have e4 : fEq .f64 x 0 = decide (V x = 0) := feq_zero hx
   have e5 : fGt .f64 infw x = true := fgt_inf hx
   have e6 : fGt .f64 x 0 = decide (0 < V x) := fgt_zero hx
   repeat' (first | (intro h; first | (exact absurd h (by simp only [e1, e2, e3, e5]; decide)) | skip) | (refine And.intro ?_ ?_))
   all_goals (show (_ : Nat) = _)
   · rfl
   · rfl
   · rename_i h
     rw [e4] at h
     simp [nxt, of_decide_eq_true h]
   · rename_i h
     have h0 : fEq .f64 x 0 = false := by assumption
     rw [e4] at h0
     rw [e5, e6] at h
     have h0 := of_decide_eq_false h0
     have h : 0 < V x := by simpa using h
     rw [wrapu64 (by omega) (by omega)]
     simp only [nxt, h0, h, if_true, if_false]
     omega
   · rename_i h
     have h0 : fEq .f64 x 0 = false := by assumption
     rw [e4] at h0
     rw [e5, e6] at h
     have h0 := of_decide_eq_false h0
     have h : ¬ 0 < V x := by simpa using h
     have hx0 : x ≠ 0 := fun e => h0 (by rw [e]; exact V_zero)
     rw [wrapu64 (by omega) (by omega)]
     simp only [nxt, h0, h, if_false]
     omega
 · cases h
end Go.Proofs.Tryz.Sx

namespace Go.Sx
open Go.RowKit
def numK (k : Bool) : TK → Bool
 | .flt _ => k
 | .int _ => !k
 | _ => false
theorem lEq_cons {x : SV} {xs ys : List SV} {b : Bool} (h : lEq (x :: xs) ys = some b) : ∃ y ys' b0 b1, ys = y :: ys' ∧ sEq x y = some b0 ∧ lEq xs ys' = some b1 ∧ b = (b0 && b1) := by
 cases ys with
 | nil => simp [lEq] at h
 | cons y ys' =>
   simp only [lEq] at h
   split at h
   · rename_i b0 h0
     split at h
     · rename_i b1 h1
       simp only [Option.some.injEq] at h
       exact ⟨y, ys', b0, b1, rfl, h0, h1, h.symm⟩
     · cases h
   · cases h
theorem lEq_nil {ys : List SV} {b : Bool} (h : lEq [] ys = some b) : ys = [] ∧ b = true := by
 cases ys with
 | nil => simp only [lEq, Option.some.injEq] at h; exact ⟨rfl, h.symm⟩
 | cons y r => simp [lEq] at h
theorem sEq_one {x y : SV} {b : Bool} (h : sEq x y = some b) : (∃ k a c, x = .int k a ∧ y = .int k c ∧ b = (a == c)) ∨ (∃ k a c, x = .flt k a ∧ y = .flt k c ∧ b = fEq k a c) := by
 unfold sEq at h
 split at h
 · split at h
   · rename_i he
     have := kEq_eq he
     subst this
     simp only [Option.some.injEq] at h
     exact .inl ⟨_, _, _, rfl, rfl, h.symm⟩
   · cases h
 · split at h
   · rename_i he
     have := fkEq_eq he
     subst this
     simp only [Option.some.injEq] at h
     exact .inr ⟨_, _, _, rfl, rfl, h.symm⟩
   · cases h
 · cases h
section
variable {P : Program} (w : World) (ρ : Rho)
theorem run_equalIn_num {d t : Nat} {ti : TI} (ht : TOk P t ti) {k : Bool} (hk : numK k ti.tk = true) {x y : SV} {b : Bool} (hx : hasK [k] [x] = true) (h : sEq x y = some b) :
   (Op.equalIn (d + 1) t (x.den ρ) (y.den ρ)).run P w = .ok b w := by
 obtain ⟨dd, hd, hd2⟩ := ht.desc
 rcases sEq_one h with ⟨k1, a, c, rfl, rfl, rfl⟩ | ⟨k1, a, c, rfl, rfl, rfl⟩
 · simp only [hasK, Bool.and_true, Bool.not_eq_true'] at hx
   subst hx
   cases dd <;> simp only [tkOf] at hd2 <;> rw [← hd2] at hk <;> simp [numK] at hk
   unfold Op.equalIn
   simp [run_underlying hd, SV.den]
 · simp only [hasK, Bool.and_true] at hx
   subst hx
   cases dd <;> simp only [tkOf] at hd2 <;> rw [← hd2] at hk <;> simp [numK] at hk
   unfold Op.equalIn
   simp [run_underlying hd, SV.den]
   rfl
theorem num_flat {ti : TI} {k : Bool} (hk : numK k ti.tk = true) : ti.isAgg = false := by
 unfold TI.isAgg
 split <;> rename_i hh <;> simp_all [numK]
def FE (P : Program) (t : Nat) (n : List Bool) (D : Nat) : Prop :=
 ∀ (d : Nat) (xs ys : List SV) (b : Bool), hasK n xs = true → lEq xs ys = some b → ∀ (ρ : Rho) (w : World), (Op.equalIn (d + D) t (.agg (denL ρ xs).toArray) (.agg (denL ρ ys).toArray)).run P w = .ok b w
theorem FE.flat {t : Nat} {n : List Bool} {D : Nat} (h : FE P t n D) (hg : P.eqGuardType P.depth t = false) (hD : D ≤ 10000) : FlatEq P t n :=
 ⟨hg, fun xs ys b hx hb ρ w => by
   have := h (10000 - D) xs ys b hx hb ρ w
   rw [Nat.sub_add_cancel hD] at this
   exact this⟩
theorem fe_struct2 {T : Tys} (hT : TysOk P T) {t e0 e1 : Nat} {f0 f1 : Field} {t0 t1 : TI} {k0 k1 : Bool} (hu : P.underlying t = some (.struct #[f0, f1])) (hp : P.stoodInHeld t = false)
   (hn0 : f0.name ≠ "_") (hn1 : f1.name ≠ "_") (h0 : f0.type = e0 ∧ f0.offset = 0) (h1 : f1.type = e1 ∧ f1.offset = 1) (ht0 : ty T e0 = some t0) (ht1 : ty T e1 = some t1)
   (hk0 : numK k0 t0.tk = true) (hk1 : numK k1 t1.tk = true) : FE P t [k0, k1] 2 := by
 intro d xs ys b hx h ρ w
 have hf : P.fieldsOf t = #[f0, f1] := by simp [Program.fieldsOf, hu]
 match xs with
 | [] => simp [hasK] at hx
 | [_] => simp [hasK] at hx; split at hx <;> simp at hx
 | _ :: _ :: _ :: _ => simp [hasK] at hx; split at hx <;> (try split at hx) <;> simp at hx
 | [x0, x1] =>
   obtain ⟨y0, ys', b0, c, rfl, e0', h', rfl⟩ := lEq_cons h
   obtain ⟨y1, ys'', b1, c', rfl, e1', h'', rfl⟩ := lEq_cons h'
   obtain ⟨rfl, rfl⟩ := lEq_nil h''
   have hx0 : hasK [k0] [x0] = true := by
     rcases sEq_one e0' with ⟨k, a, c, rfl, rfl, rfl⟩ | ⟨k, a, c, rfl, rfl, rfl⟩ <;> simp_all [hasK]
   have hx1 : hasK [k1] [x1] = true := by
     rcases sEq_one e0' with ⟨k, a, c, rfl, rfl, rfl⟩ | ⟨k, a, c, rfl, rfl, rfl⟩ <;> rcases sEq_one e1' with ⟨k, a, c, rfl, rfl, rfl⟩ | ⟨k, a, c, rfl, rfl, rfl⟩ <;> simp_all [hasK]
   have p0 := fun (cs : List SV) (v : SV) (hc : cs[0]? = some v) => (evPart_sound (U := fun _ => True) hT (cs := cs) (by rw [bdL_iff]; exact fun v _ => SV.bd_all v) (e := e0) (o := 0) (v := v) (by simp [evPart, ht0, num_flat hk0, getL_eq, hc]) ρ w).1
   have p1 := fun (cs : List SV) (v : SV) (hc : cs[1]? = some v) => (evPart_sound (U := fun _ => True) hT (cs := cs) (by rw [bdL_iff]; exact fun v _ => SV.bd_all v) (e := e1) (o := 1) (v := v) (by simp [evPart, ht1, num_flat hk1, getL_eq, hc]) ρ w).1
   rw [run_equalIn_agg w (d + 1) t _ _ (by rw [hf]; exact hu) hp, hf]
   simp only [Op.eqFields, hn0, hn1, ne_eq, not_false_eq_true, if_true, h0.1, h0.2, h1.1, h1.2, Sem.run_bind]
   rw [p0 _ x0 rfl]
   simp only [Result.andThen_ok]
   rw [p0 _ y0 rfl]
   simp only [Result.andThen_ok, run_equalIn_num w ρ (hT _ _ ht0) hk0 hx0 e0']
   cases b0
   · simp
   · simp only [Bool.not_true, Bool.false_eq_true, if_false, Sem.run_bind]
     rw [p1 _ x1 rfl]
     simp only [Result.andThen_ok]
     rw [p1 _ y1 rfl]
     simp only [Result.andThen_ok, run_equalIn_num w ρ (hT _ _ ht1) hk1 hx1 e1']
     cases b1 <;> simp
end
end Go.Sx

namespace Go.Fl
open Ieee Go.Sx
theorem quo_fin {x y r : Nat} {a b : Int} (h : QuoRel .f64 x y r) (hx : FI x a) (hy : FI y b) (hb : b ≠ 0) (hb2 : b.natAbs < 2 ^ 53) (ha2 : a.natAbs < 2 ^ 53) : Fin r ∧ QV (V r) a b := by
 obtain ⟨q, h1, h2, h3⟩ := div_QV hx hy hb hb2 ha2
 have : floatBits .quo .f64 x y = some q := h1
 unfold QuoRel at h
 rw [this] at h
 subst h
 exact ⟨h2, h3⟩
theorem FI_zero_mag {y : Nat} (hy : FI y 0) : ∃ t j, double.read y = .number t 0 j := by
 obtain ⟨t, n, j, h4, h5, h6, hn⟩ := read_fin hy.1
 rw [hy.2, Int.zero_mul] at h6
 have := congrArg Int.natAbs h6
 rw [signed_natAbs] at this
 rcases Nat.mul_eq_zero.1 this with h | h
 · subst h; exact ⟨t, j, h4⟩
 · exact absurd h (Nat.ne_of_gt (Nat.two_pow_pos _))
theorem read_word_inf (s : Bool) : double.read (double.word s double.infRung) = .infinity s := by cases s <;> decide
theorem quo_inf {x y r : Nat} {a : Int} (h : QuoRel .f64 x y r) (hx : FI x a) (ha : a ≠ 0) (hy : FI y 0) {z : Nat} (hz : Fin z) : fEq .f64 r z = false ∧ fEq .f64 z r = false := by
 obtain ⟨s, m, i, h1, h2, h3, hm⟩ := read_fin hx.1
 obtain ⟨t, j, h4⟩ := FI_zero_mag hy
 have hm0 : m ≠ 0 := fun e => by
   subst e
   rw [hx.2] at h3
   have := congrArg Int.natAbs h3
   rw [signed_natAbs, Nat.zero_mul, Int.natAbs_mul, natAbs_pow2] at this
   rcases Nat.mul_eq_zero.1 this.symm with h | h
   · omega
   · exact absurd h (Nat.ne_of_gt (Nat.two_pow_pos _))
 have hd : floatBits .quo .f64 x y = some (double.word (s ^^ t) double.infRung) := by
   show double.div x y = _
   unfold Format.div
   rw [h1, h4]
   unfold Datum.quotient
   simp only [hm0, if_true, if_false]
   rfl
 unfold QuoRel at h
 rw [hd] at h
 subst h
 obtain ⟨u, l, k, h7, _⟩ := read_fin hz
 constructor
 · unfold fEq
   show (Datum.order (double.read _) (double.read z) == _) = _
   rw [read_word_inf, h7]
   show ((some (if (s ^^ t) then Ordering.lt else Ordering.gt) : Option Ordering) == some .eq) = false
   cases (s ^^ t) <;> rfl
 · unfold fEq
   show (Datum.order (double.read z) (double.read _) == _) = _
   rw [read_word_inf, h7]
   show ((some (if (s ^^ t) then Ordering.gt else Ordering.lt) : Option Ordering) == some .eq) = false
   cases (s ^^ t) <;> rfl
theorem nan_order {r z : Nat} (h : (double.read r).isNaN = true) : fEq .f64 r z = false ∧ fEq .f64 z r = false := by
 cases hr : double.read r with
 | nan s f =>
   constructor
   · unfold fEq
     show (Datum.order (double.read r) (double.read z) == _) = _
     rw [hr]; rfl
   · unfold fEq
     show (Datum.order (double.read z) (double.read r) == _) = _
     rw [hr]
     cases double.read z <;> rfl
 | number s m i => rw [hr] at h; cases h
 | infinity s => rw [hr] at h; cases h
theorem quo_nan {x y r : Nat} (h : QuoRel .f64 x y r) (hx : FI x 0) (hy : FI y 0) {z : Nat} : fEq .f64 r z = false ∧ fEq .f64 z r = false := by
 obtain ⟨s, i, h1⟩ := FI_zero_mag hx
 obtain ⟨t, j, h4⟩ := FI_zero_mag hy
 have hd : floatBits .quo .f64 x y = none := by
   show double.div x y = _
   unfold Format.div
   rw [h1, h4]; rfl
 unfold QuoRel at h
 rw [hd] at h
 exact nan_order h
theorem QV_iff {v w a b c d : Int} (h1 : QV v a b) (h2 : QV w c d) (hb : b ≠ 0) (hd : d ≠ 0) (hs1 : a.natAbs * d.natAbs ≤ 2 ^ 50) (hs2 : c.natAbs * b.natAbs ≤ 2 ^ 50) : v = w ↔ a * d = c * b := by
 constructor
 · intro hvw
   rcases Int.lt_trichotomy (a * b * (d * d)) (c * d * (b * b)) with h | h | h
   · have := QV_lt h1 h2 hb hd hs1 hs2 h; omega
   · have e1 : a * b * (d * d) = (b * d) * (a * d) := by ac_rfl
     have e2 : c * d * (b * b) = (b * d) * (c * b) := by ac_rfl
     rw [e1, e2] at h
     exact Int.eq_of_mul_eq_mul_left (Int.mul_ne_zero hb hd) h
   · have := QV_lt h2 h1 hd hb hs2 hs1 h; omega
 · exact QV_eq h1 h2 hb hd
theorem QV_le_iff {v w a b c d : Int} (h1 : QV v a b) (h2 : QV w c d) (hbd : 0 < b * d) (hs1 : a.natAbs * d.natAbs ≤ 2 ^ 50) (hs2 : c.natAbs * b.natAbs ≤ 2 ^ 50) : v ≤ w ↔ a * d ≤ c * b := by
 have hb : b ≠ 0 := fun e => by rw [e, Int.zero_mul] at hbd; omega
 have hd : d ≠ 0 := fun e => by rw [e, Int.mul_zero] at hbd; omega
 have e1 : a * b * (d * d) = (b * d) * (a * d) := by ac_rfl
 have e2 : c * d * (b * b) = (b * d) * (c * b) := by ac_rfl
 rcases Int.lt_trichotomy (a * d) (c * b) with h | h | h
 · have h3 := Int.mul_lt_mul_of_pos_left h hbd
   rw [← e1, ← e2] at h3
   have := QV_lt h1 h2 hb hd hs1 hs2 h3
   omega
 · have := QV_eq h1 h2 hb hd h; omega
 · have h3 := Int.mul_lt_mul_of_pos_left h hbd
   rw [← e1, ← e2] at h3
   have := QV_lt h2 h1 hd hb hs2 hs1 h3
   omega
theorem sub_I {x y : Nat} {a b : Int} (hx : FI x a) (hy : FI y b) (ha : a.natAbs ≤ 2 ^ 22) (hb : b.natAbs ≤ 2 ^ 22) : fok .sub .f64 x y ∧ FI (fop .sub .f64 x y) (a - b) := by
 obtain ⟨r, h1, h2⟩ := FI_sub hx hy (by omega)
 have : floatBits .sub .f64 x y = some r := h1
 unfold fok fop
 rw [this]
 exact ⟨rfl, h2⟩
theorem near_cmp {n m : Int} {k : Nat} (hk : k ≤ 1045) : (n * 2 ^ U1 + ((2 ^ k : Nat) : Int) < m * 2 ^ U1 ↔ n < m) ∧ (m * 2 ^ U1 < n * 2 ^ U1 + ((2 ^ k : Nat) : Int) ↔ m ≤ n) ∧ n * 2 ^ U1 + ((2 ^ k : Nat) : Int) ≠ m * 2 ^ U1 := by
 have hU : U1 = 1074 := rfl
 have h1 : 2 ^ k < 2 ^ U1 := (Nat.pow_lt_pow_iff_right (by decide)).2 (by omega)
 have h2 : 0 < 2 ^ k := Nat.two_pow_pos k
 have e : (2 : Int) ^ U1 = ((2 ^ U1 : Nat) : Int) := by simp
 rw [e]
 generalize 2 ^ U1 = u at *
 generalize 2 ^ k = t at *
 have hu : (0 : Int) < (u : Int) := by omega
 rcases Int.lt_trichotomy n m with h | h | h
 · have h3 : (n + 1) * (u : Int) ≤ m * u := Int.mul_le_mul_of_nonneg_right (by omega) (by omega)
   rw [Int.add_mul, Int.one_mul] at h3
   omega
 · subst h; omega
 · have h3 : (m + 1) * (u : Int) ≤ n * u := Int.mul_le_mul_of_nonneg_right (by omega) (by omega)
   rw [Int.add_mul, Int.one_mul] at h3
   omega
def Near (q : Nat) (n : Int) : Prop := Fin q ∧ ∃ k, k ≤ 1045 ∧ V q = n * 2 ^ U1 + ((2 ^ k : Nat) : Int)
theorem near_eq {q y : Nat} {n m : Int} (hq : Near q n) (hy : FI y m) : fEq .f64 q y = false := by
 obtain ⟨h1, k, hk, h2⟩ := hq
 rw [feq_V h1 hy.1, h2, hy.2]
 exact decide_eq_false (near_cmp hk).2.2
theorem near_lt {q y : Nat} {n m : Int} (hq : Near q n) (hy : FI y m) : fLt .f64 q y = decide (n < m) := by
 obtain ⟨h1, k, hk, h2⟩ := hq
 rw [flt_V h1 hy.1, h2, hy.2]
 exact decide_eq_decide.2 (near_cmp hk).1
theorem near_gt {q y : Nat} {n m : Int} (hq : Near q n) (hy : FI y m) : fGt .f64 q y = decide (m ≤ n) := by
 obtain ⟨h1, k, hk, h2⟩ := hq
 rw [fgt_V h1 hy.1, h2, hy.2]
 exact decide_eq_decide.2 (near_cmp hk).2.1
theorem near_nxt {x : Nat} {n : Int} (h : FI x n) (hn : n.natAbs ≤ 2 ^ 22) : Near (nxt x) n := ⟨(nxt_spec h hn).2.1, (nxt_spec h hn).2.2⟩
end Go.Fl

namespace Go.Geo
def cross (a1 a2 b1 b2 p1 p2 : Int) : Int := (b1 - a1) * (p2 - a2) - (b2 - a2) * (p1 - a1)
def btw (a b p : Int) : Prop := (a ≤ p ∧ p ≤ b) ∨ (b ≤ p ∧ p ≤ a)
def On (a1 a2 b1 b2 p1 p2 : Int) : Prop := btw a1 b1 p1 ∧ btw a2 b2 p2 ∧ cross a1 a2 b1 b2 p1 p2 = 0
def Lft (a1 a2 b1 b2 p1 p2 : Int) : Prop := (b2 < a2 ∧ b2 ≤ p2 ∧ p2 < a2 ∧ 0 < cross b1 b2 a1 a2 p1 p2) ∨ (a2 ≤ b2 ∧ a2 ≤ p2 ∧ p2 < b2 ∧ 0 < cross a1 a2 b1 b2 p1 p2)
instance (a b p : Int) : Decidable (btw a b p) := by unfold btw; infer_instance
instance (a1 a2 b1 b2 p1 p2 : Int) : Decidable (On a1 a2 b1 b2 p1 p2) := by unfold On; infer_instance
instance (a1 a2 b1 b2 p1 p2 : Int) : Decidable (Lft a1 a2 b1 b2 p1 p2) := by unfold Lft; infer_instance
section
variable {a1 a2 b1 b2 p1 p2 : Int}
theorem cross_swap : cross b1 b2 a1 a2 p1 p2 = -cross a1 a2 b1 b2 p1 p2 := by
 unfold cross
 have e1 : (a1 - b1) * (p2 - b2) = (b1 - a1) * b2 - (b1 - a1) * p2 := by
   rw [show a1 - b1 = -(b1 - a1) by omega, show p2 - b2 = -(b2 - p2) by omega, Int.neg_mul_neg, Int.mul_sub]
 have e2 : (a2 - b2) * (p1 - b1) = (b2 - a2) * b1 - (b2 - a2) * p1 := by
   rw [show a2 - b2 = -(b2 - a2) by omega, show p1 - b1 = -(b1 - p1) by omega, Int.neg_mul_neg, Int.mul_sub]
 have e3 : (b1 - a1) * (p2 - a2) = (b1 - a1) * p2 - (b1 - a1) * a2 := Int.mul_sub _ _ _
 have e4 : (b2 - a2) * (p1 - a1) = (b2 - a2) * p1 - (b2 - a2) * a1 := Int.mul_sub _ _ _
 have e5 : (b1 - a1) * b2 = b1 * b2 - a1 * b2 := Int.sub_mul _ _ _
 have e6 : (b1 - a1) * a2 = b1 * a2 - a1 * a2 := Int.sub_mul _ _ _
 have e7 : (b2 - a2) * b1 = b2 * b1 - a2 * b1 := Int.sub_mul _ _ _
 have e8 : (b2 - a2) * a1 = b2 * a1 - a2 * a1 := Int.sub_mul _ _ _
 rw [Int.mul_comm b2 b1, Int.mul_comm a2 b1] at e7
 rw [Int.mul_comm b2 a1, Int.mul_comm a2 a1] at e8
 rw [e1, e2, e3, e4]
 omega
theorem btw_swap {a b p : Int} : btw b a p ↔ btw a b p := by unfold btw; omega
theorem On_swap : On b1 b2 a1 a2 p1 p2 ↔ On a1 a2 b1 b2 p1 p2 := by
 unfold On; rw [cross_swap]; constructor <;> rintro ⟨h1, h2, h3⟩ <;> exact ⟨btw_swap.1 h1, btw_swap.1 h2, by omega⟩
theorem btw_of_line (h0 : a2 < b2) (h1 : a2 ≤ p2) (h2 : p2 ≤ b2) (h : cross a1 a2 b1 b2 p1 p2 = 0) : btw a1 b1 p1 := by
 unfold cross at h
 have hB : 0 < b2 - a2 := by omega
 have ht0 : 0 ≤ p2 - a2 := by omega
 have ht1 : p2 - a2 ≤ b2 - a2 := by omega
 generalize hBe : b2 - a2 = B at *
 generalize p2 - a2 = t at *
 rcases Int.lt_or_le b1 a1 with hA | hA
 ·
   refine .inr ⟨?_, ?_⟩
   · rcases Int.lt_or_le p1 b1 with hp | hp
     · have e : (b1 - a1) * B ≤ (b1 - a1) * t := Int.mul_le_mul_of_nonpos_left (by omega) ht1
       have e2 : B * (p1 - a1) < B * (b1 - a1) := Int.mul_lt_mul_of_pos_left (by omega) hB
       rw [Int.mul_comm B (b1 - a1)] at e2
       omega
     · exact hp
   · rcases Int.lt_or_le a1 p1 with hp | hp
     · have e : (b1 - a1) * t ≤ 0 := Int.mul_nonpos_of_nonpos_of_nonneg (by omega) ht0
       have e2 : 0 < B * (p1 - a1) := Int.mul_pos hB (by omega)
       omega
     · exact hp
 · refine .inl ⟨?_, ?_⟩
   · rcases Int.lt_or_le p1 a1 with hp | hp
     · have e : 0 ≤ (b1 - a1) * t := Int.mul_nonneg (by omega) ht0
       have e2 : B * (p1 - a1) < 0 := Int.mul_neg_of_pos_of_neg hB (by omega)
       omega
     · exact hp
   · rcases Int.lt_or_le b1 p1 with hp | hp
     · have e : (b1 - a1) * t ≤ (b1 - a1) * B := Int.mul_le_mul_of_nonneg_left ht1 (by omega)
       have e2 : B * (b1 - a1) < B * (p1 - a1) := Int.mul_lt_mul_of_pos_left (by omega) hB
       rw [Int.mul_comm B (b1 - a1)] at e2
       omega
     · exact hp
theorem cross_right (h1 : a2 ≤ p2) (h2 : p2 < b2) (h3 : a1 ≤ p1) (h4 : b1 ≤ p1) : cross a1 a2 b1 b2 p1 p2 ≤ 0 := by
 unfold cross
 have e2 : 0 ≤ (b2 - a2) * (p1 - a1) := Int.mul_nonneg (by omega) (by omega)
 rcases Int.lt_or_le b1 a1 with hA | hA
 · have e : (b1 - a1) * (p2 - a2) ≤ 0 := Int.mul_nonpos_of_nonpos_of_nonneg (by omega) (by omega)
   omega
 · have e : (b1 - a1) * (p2 - a2) ≤ (b1 - a1) * (b2 - a2) := Int.mul_le_mul_of_nonneg_left (by omega) (by omega)
   have e3 : (b2 - a2) * (b1 - a1) ≤ (b2 - a2) * (p1 - a1) := Int.mul_le_mul_of_nonneg_left (by omega) (by omega)
   rw [Int.mul_comm (b2 - a2) (b1 - a1)] at e3
   omega
theorem cross_left (h1 : a2 ≤ p2) (h2 : p2 < b2) (h3 : p1 ≤ a1) (h4 : p1 ≤ b1) : 0 ≤ cross a1 a2 b1 b2 p1 p2 := by
 unfold cross
 have e2 : (b2 - a2) * (p1 - a1) ≤ 0 := Int.mul_nonpos_of_nonneg_of_nonpos (by omega) (by omega)
 rcases Int.lt_or_le a1 b1 with hA | hA
 · have e : 0 ≤ (b1 - a1) * (p2 - a2) := Int.mul_nonneg (by omega) (by omega)
   omega
 · have e : (b1 - a1) * (b2 - a2) ≤ (b1 - a1) * (p2 - a2) := Int.mul_le_mul_of_nonpos_left (by omega) (by omega)
   have e3 : (b2 - a2) * (p1 - a1) ≤ (b2 - a2) * (b1 - a1) := Int.mul_le_mul_of_nonneg_left (by omega) (by omega)
   rw [Int.mul_comm (b2 - a2) (b1 - a1)] at e3
   omega
theorem not_On_line (hn : ¬ On a1 a2 b1 b2 p1 p2) (h1 : a2 ≤ p2) (h2 : p2 < b2) : cross a1 a2 b1 b2 p1 p2 ≠ 0 := fun h =>
 hn ⟨btw_of_line (by omega) h1 (by omega) h, .inl ⟨h1, by omega⟩, h⟩
end
end Go.Geo

namespace Go.Proofs.Tryz.Sx
open Go Go.Sx Go.Proofs Go.Fl Go.Geo
set_option maxRecDepth 100000
theorem flat61 : FlatEq Tryz.prog 100 [true, true] :=
 (fe_struct2 tysOk (t := 100) (e0 := 98) (e1 := 98) Tryz.underlying100 (by kernel_rfl) (by decide) (by decide) ⟨rfl, rfl⟩ ⟨rfl, rfl⟩ (by rfl) (by rfl) rfl rfl).flat (by kernel_rfl) (by decide)
def GR : Ctx := ⟨⟨tys, [(100, [true, true])]⟩, [(99, pureCon nextF), (100, pureCon infF)]⟩
theorem gR : CtxOk Tryz.prog GR := ⟨⟨tysOk, FlatsOk.cons flat61 FlatsOk.nil⟩, GamOk.cons (.pure next) (GamOk.cons (.pure inf) GamOk.nil), by kernel_rfl⟩
def SR (px py ax ay bx by' : Nat) : St :=
 ⟨302, [(4, .ptr 0 0), (5, .ptr 1 0), (6, .ptr 2 0), (7, .ptr 3 0)],
   [(0, ⟨true, 142, .cells [.ff, .ff], 0⟩), (1, ⟨true, 100, .cells [.flt .f64 px, .flt .f64 py], 0⟩), (2, ⟨true, 100, .cells [.flt .f64 ax, .flt .f64 ay], 0⟩), (3, ⟨true, 100, .cells [.flt .f64 bx, .flt .f64 by'], 0⟩)], 4⟩
def KR (i o : Bool) : Xt → St → Prop := endK GR.E.T Tryz.f90.results.toList fun _ v => eqv v (.agg [.bool i, .bool o])
def p2 : Code → Code
 | .seq _ y => y
 | c => c
noncomputable def c0 : Code := codeOf Tryz.f90
noncomputable def c2 : Code := p2 (p2 c0)
noncomputable def c3 : Code := p2 c2
noncomputable def c4 : Code := p2 c3
noncomputable def c5 : Code := p2 c4
noncomputable def c6 : Code := p2 c5
noncomputable def c7 : Code := p2 c6
noncomputable def c8 : Code := p2 c7
noncomputable def c9 : Code := p2 c8
noncomputable def c10 : Code := p2 c9
theorem Wp.refines {P : Program} {N0 : Nat} {S S1 : St} {K : Xt → St → Prop} {c : Code} (hr : Refines N0 S S1) (h : Wp P N0 c S1 K) : Wp P N0 c S K := by
 intro W0 Fr ρ0 ρ a w Q hS hN hρ hK
 obtain ⟨ρ', h1, h2⟩ := hr.2 W0 Fr ρ a w hS
 exact h W0 Fr ρ0 ρ' a w Q h1 hr.1 (fun n hn => (h2 n hn).trans (hρ n hn)) hK
set_option maxHeartbeats 4000000 in
theorem start (ax ay bx by' px py : Nat) (i o : Bool) (h : Wp Tryz.prog 0 c2 (SR px py ax ay bx by') (KR i o)) :
   Wp Tryz.prog 0 c0 (init 302 [.agg [.flt .f64 ax, .flt .f64 ay, .flt .f64 bx, .flt .f64 by'], .agg [.flt .f64 px, .flt .f64 py]] [] 0) (KR i o) := by
 refine Wp.seq (K1 := fun e S' => match e with
   | .normal => Wp Tryz.prog 0 (p2 c0) S' (KR i o)
   | _ => False) (Wp.run gR ?_) (fun S' h' => h') (fun _ _ h => h.elim) (fun _ h => h.elim)
 show Wp Tryz.prog 0 (p2 c0) _ (KR i o)
 refine Wp.seq (K1 := fun e S' => match e with
   | .normal => Refines 0 S' (SR px py ax ay bx by')
   | _ => False) (Wp.run gR ?_) (fun S' h' => Wp.refines h' h) (fun _ _ h => h.elim) (fun _ h => h.elim)
 refine And.intro ?_ ?_
 · kernel_rfl
 · show Refines 0 _ (SR px py ax ay bx by')
   refine Refines.by_names [(0, some 24), (1, some 96), (2, some 108), (3, some 120)] ⟨rfl, rfl, rfl, rfl, ?_, ?_⟩
   · exact ⟨⟨rfl, trivial, rfl⟩, ⟨rfl, trivial, rfl⟩, ⟨rfl, trivial, rfl⟩, ⟨rfl, trivial, rfl⟩, trivial⟩
   · exact ⟨⟨rfl, rfl, rfl, rfl, trivial, trivial, trivial⟩, ⟨rfl, rfl, rfl, rfl, rfl, rfl, trivial⟩, ⟨rfl, rfl, rfl, rfl, rfl, rfl, trivial⟩, ⟨rfl, rfl, rfl, rfl, rfl, rfl, trivial⟩, trivial⟩
structure Pts (ax ay bx by' px py : Nat) (a1 a2 b1 b2 p1 p2 : Int) : Prop where
 ax : FI ax a1
 ay : FI ay a2
 bx : FI bx b1
 by' : FI by' b2
 px : FI px p1
 py : FI py p2
 ha1 : a1.natAbs ≤ 2 ^ 22
 ha2 : a2.natAbs ≤ 2 ^ 22
 hb1 : b1.natAbs ≤ 2 ^ 22
 hb2 : b2.natAbs ≤ 2 ^ 22
 hp1 : p1.natAbs ≤ 2 ^ 22
 hp2 : p2.natAbs ≤ 2 ^ 22
section
variable {ax ay bx by' px py : Nat} {a1 a2 b1 b2 p1 p2 : Int} (H : Pts ax ay bx by' px py a1 a2 b1 b2 p1 p2)
include H
abbrev KK (a1 a2 b1 b2 p1 p2 : Int) : Xt → St → Prop := KR (decide (¬ On a1 a2 b1 b2 p1 p2 ∧ Lft a1 a2 b1 b2 p1 p2)) (decide (On a1 a2 b1 b2 p1 p2))
set_option maxHeartbeats 4000000 in
theorem cut1 (h : ((a2 < b2 → a2 ≤ p2 ∧ p2 ≤ b2) ∧ (b2 < a2 → b2 ≤ p2 ∧ p2 ≤ a2)) → Wp Tryz.prog 0 c3 (SR px py ax ay bx by') (KK a1 a2 b1 b2 p1 p2)) :
   Wp Tryz.prog 0 c2 (SR px py ax ay bx by') (KK a1 a2 b1 b2 p1 p2) := by
 refine Wp.keep _ (Wp.run gR ?_) h
 have e1 := flt_I H.ay H.by'
 have e2 := flt_I H.py H.ay
 have e3 := fgt_I H.py H.by'
 have e4 := fgt_I H.ay H.by'
 have e5 := flt_I H.py H.by'
 have e6 := fgt_I H.py H.ay
 repeat' (first | (intro h) | (refine And.intro ?_ ?_))
 all_goals try simp only [e1, e2, e3, e4, e5, e6, decide_eq_true_eq, decide_eq_false_iff_not] at *
 all_goals first
   | exact trivial
   | exact ⟨rfl, rfl, rfl, rfl, rfl⟩
   | omega
   | exact decide_eq_false (fun hh => by unfold On btw at hh; omega)
   | exact decide_eq_false (fun hh => by unfold Lft at hh; omega)
set_option maxHeartbeats 4000000 in
theorem cut2 (f1 : (a2 < b2 → a2 ≤ p2 ∧ p2 ≤ b2) ∧ (b2 < a2 → b2 ≤ p2 ∧ p2 ≤ a2)) (h : (a2 = b2 → a1 ≠ b1 ∧ (p2 = b2 → ¬ btw a1 b1 p1)) → Wp Tryz.prog 0 c4 (SR px py ax ay bx by') (KK a1 a2 b1 b2 p1 p2)) :
   Wp Tryz.prog 0 c3 (SR px py ax ay bx by') (KK a1 a2 b1 b2 p1 p2) := by
 refine Wp.keep _ (Wp.run gR ?_) h
 have e1 := feq_I H.ay H.by'
 have e2 := feq_I H.ax H.bx
 have e3 := feq_I H.px H.ax
 have e3' := feq_I H.py H.ay
 have e4 := feq_I H.py H.by'
 have e5 := flt_I H.ax H.bx
 have e6 := fge_I H.px H.ax
 have e7 := fle_I H.px H.bx
 have e8 := fge_I H.px H.bx
 have e9 := fle_I H.px H.ax
 have l1 : a2 = b2 → p2 = b2 → cross a1 a2 b1 b2 p1 p2 = 0 := fun x y => by subst x; subst y; unfold cross; simp
 have l2 : a2 = b2 → a1 = b1 → cross a1 a2 b1 b2 p1 p2 = 0 := fun x y => by subst x; subst y; unfold cross; simp
 clear h
 repeat' (first | (intro h) | (refine And.intro ?_ ?_))
 all_goals try simp only [e1, e2, e3, e3', e4, e5, e6, e7, e8, e9, decide_eq_true_eq, decide_eq_false_iff_not, Bool.and_eq_true, Bool.and_true, Bool.and_eq_false_imp] at *
 all_goals first
   | exact trivial
   | exact ⟨rfl, rfl, rfl, rfl, rfl⟩
   | omega
   | (unfold btw at *; omega)
   | exact decide_eq_false (fun hh => by unfold On btw at hh; omega)
   | exact decide_eq_false (fun hh => by unfold Lft at hh; omega)
   | exact decide_eq_true (by unfold On btw; omega)
   | exact decide_eq_false (fun hh => hh.1 (by unfold On btw; omega))
set_option maxHeartbeats 4000000 in
theorem cut3 (f1 : (a2 < b2 → a2 ≤ p2 ∧ p2 ≤ b2) ∧ (b2 < a2 → b2 ≤ p2 ∧ p2 ≤ a2)) (f2 : a2 = b2 → a1 ≠ b1 ∧ (p2 = b2 → ¬ btw a1 b1 p1)) (h : (a1 = b1 → p1 ≠ b1) → Wp Tryz.prog 0 c5 (SR px py ax ay bx by') (KK a1 a2 b1 b2 p1 p2)) :
   Wp Tryz.prog 0 c4 (SR px py ax ay bx by') (KK a1 a2 b1 b2 p1 p2) := by
 refine Wp.keep _ (Wp.run gR ?_) h
 have e1 := feq_I H.ax H.bx
 have e2 := feq_I H.px H.bx
 have e3 := flt_I H.ay H.by'
 have e4 := fge_I H.py H.ay
 have e5 := fle_I H.py H.by'
 have e6 := fge_I H.py H.by'
 have e7 := fle_I H.py H.ay
 have l1 : a1 = b1 → p1 = b1 → cross a1 a2 b1 b2 p1 p2 = 0 := fun x y => by subst x; subst y; unfold cross; simp
 clear h
 repeat' (first | (intro h) | (refine And.intro ?_ ?_))
 all_goals try simp only [e1, e2, e3, e4, e5, e6, e7, decide_eq_true_eq, decide_eq_false_iff_not] at *
 all_goals first
   | exact trivial
   | exact ⟨rfl, rfl, rfl, rfl, rfl⟩
   | omega
   | exact decide_eq_true (by unfold On btw; omega)
   | exact decide_eq_false (fun hh => hh.1 (by unfold On btw; omega))
set_option maxHeartbeats 4000000 in
theorem cut4 (f1 : (a2 < b2 → a2 ≤ p2 ∧ p2 ≤ b2) ∧ (b2 < a2 → b2 ≤ p2 ∧ p2 ≤ a2)) (f2 : a2 = b2 → a1 ≠ b1 ∧ (p2 = b2 → ¬ btw a1 b1 p1)) (f3 : a1 = b1 → p1 ≠ b1)
   (h : ¬ On a1 a2 b1 b2 p1 p2 → Wp Tryz.prog 0 c6 (SR px py ax ay bx by') (KK a1 a2 b1 b2 p1 p2)) :
   Wp Tryz.prog 0 c5 (SR px py ax ay bx by') (KK a1 a2 b1 b2 p1 p2) := by
 refine Wp.keep _ (Wp.run gR ?_) h
 clear h
 obtain ⟨s1, d1⟩ := sub_I H.px H.ax H.hp1 H.ha1
 obtain ⟨s2, d2⟩ := sub_I H.bx H.ax H.hb1 H.ha1
 obtain ⟨s3, d3⟩ := sub_I H.py H.ay H.hp2 H.ha2
 obtain ⟨s4, d4⟩ := sub_I H.by' H.ay H.hb2 H.ha2
 have key : ∀ r q, QuoRel .f64 (fop .sub .f64 px ax) (fop .sub .f64 bx ax) r → QuoRel .f64 (fop .sub .f64 py ay) (fop .sub .f64 by' ay) q → (fEq .f64 r q = true ↔ On a1 a2 b1 b2 p1 p2) := by
   intro r q hr hq
   have hb := H.ha1
   have hb' := H.ha2
   have hb'' := H.hb1
   have hb''' := H.hb2
   have hc := H.hp1
   have hc' := H.hp2
   by_cases hv : b1 - a1 = 0
   · rw [hv] at d2
     have h4 : b2 - a2 ≠ 0 := by omega
     obtain ⟨g1, _⟩ := quo_fin hq d3 d4 h4 (by omega) (by omega)
     rw [(quo_inf hr d1 (by omega) d2 g1).1]
     constructor
     · intro h; cases h
     · intro h; unfold On btw at h; omega
   · obtain ⟨g1, g2⟩ := quo_fin hr d1 d2 hv (by omega) (by omega)
     by_cases hw : b2 - a2 = 0
     · rw [hw] at d4
       have hne : fEq .f64 r q = false := by
         by_cases hz : p2 - a2 = 0
         · rw [hz] at d3
           exact (quo_nan hq d3 d4).2
         · exact (quo_inf hq d3 hz d4 g1).2
       rw [hne]
       constructor
       · intro h; cases h
       · intro h; unfold On at h; unfold btw at h f2; omega
     · obtain ⟨g3, g4⟩ := quo_fin hq d3 d4 hw (by omega) (by omega)
       rw [feq_V g1 g3, decide_eq_true_eq, QV_iff g2 g4 hv hw ?_ ?_]
       · have hcross : cross a1 a2 b1 b2 p1 p2 = (p2 - a2) * (b1 - a1) - (p1 - a1) * (b2 - a2) := by
           unfold cross; rw [Int.mul_comm (b1 - a1), Int.mul_comm (b2 - a2)]
         constructor
         · intro h
           have h0 : cross a1 a2 b1 b2 p1 p2 = 0 := by omega
           rcases Int.lt_or_le a2 b2 with hlt | hge
           · exact ⟨btw_of_line hlt (by omega) (by omega) h0, by unfold btw; omega, h0⟩
           · have hlt : b2 < a2 := by omega
             refine On_swap.1 ⟨btw_of_line (p2 := p2) hlt (by omega) (by omega) (by rw [cross_swap]; omega), by unfold btw; omega, by rw [cross_swap]; omega⟩
         · intro h
           have := h.2.2
           omega
       · have := Nat.mul_le_mul (show (p1 - a1).natAbs ≤ 2 ^ 23 by omega) (show (b2 - a2).natAbs ≤ 2 ^ 23 by omega)
         omega
       · have := Nat.mul_le_mul (show (p2 - a2).natAbs ≤ 2 ^ 23 by omega) (show (b1 - a1).natAbs ≤ 2 ^ 23 by omega)
         omega
 refine And.intro s1 (And.intro s2 ?_)
 intro r hr
 refine And.intro s3 (And.intro s4 ?_)
 intro q hq
 have hk := key r q hr hq
 refine And.intro ?_ ?_
 · intro h
   have ho := hk.1 h
   exact ⟨decide_eq_false (fun hh => hh.1 ho), decide_eq_true ho, trivial⟩
 · intro h
   refine And.intro ?_ ?_
   · intro ho
     rw [hk.2 ho] at h; cases h
   · exact ⟨rfl, rfl, rfl, rfl, rfl⟩
end
end Go.Proofs.Tryz.Sx
