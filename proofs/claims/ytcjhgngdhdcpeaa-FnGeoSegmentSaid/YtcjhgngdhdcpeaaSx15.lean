/- Code; loops; whole functions. -/
import Derived.Test.YtcjhgngdhdcpeaaSx19
namespace Go.Sx
open Go.RowKit

inductive Xt where
  | normal
  | exit (id : Nat)
  | ret

/-- Every world that fits S fits S', names below N0 staying what they are. -/
def Refines (N0 : Nat) (S S' : St) : Prop :=
  N0 ≤ S'.N ∧ ∀ W0 Fr ρ a w, Sat W0 Fr S ρ a w → ∃ ρ', Sat W0 Fr S' ρ' a w ∧ ∀ n, n < N0 → ρ' n = ρ n

/-- A loop: a family of states, one of them at hand, each round from one to a lesser one (or out). -/
structure LoopOk (N0 : Nat) (body : St → (Xt → St → Prop) → Prop) (S : St) (K : Xt → St → Prop) : Prop where
  ex : ∃ (ι : Type) (I : ι → St) (μ : ι → Nat) (i0 : ι), Refines N0 S (I i0) ∧
    ∀ i, body (I i) (fun e S' => match e with
      | .normal => ∃ i', μ i' < μ i ∧ Refines N0 S' (I i')
      | e => K e S')

def runC (G : Ctx) (N0 : Nat) : Code → St → (Xt → St → Prop) → Prop
  | .skip, S, K => K .normal S
  | .region _ ops draw, S, K => match draw with
    | false => runOps G ops.toList ops.toList S (K .normal)
    | true => expl G ops.toList S (K .normal) 20 []
  | .seq x y, S, K => runC G N0 x S (fun e S' => match e with
    | .normal => runC G N0 y S' K
    | e => K e S')
  | .cond c x y, S, K => match opr S.sl c with
    | some .tt => runC G N0 x S K
    | some .ff => runC G N0 y S K
    | some (.bool b) => (b = true → runC G N0 x S K) ∧ (b = false → runC G N0 y S K)
    | _ => False
  | .block id x, S, K => runC G N0 x S (fun e S' => match e with
    | .exit j => match Nat.beq j id with
      | true => K .normal S'
      | false => K (.exit j) S'
    | e => K e S')
  | .exit id, S, K => K (.exit id) S
  | .ret, S, K => K .ret S
  | .loop x, S, K => LoopOk N0 (runC G N0 x) S K
  | _, _, _ => False

section
variable {P : Program} {W0 : World} {Fr : Nat → Prop} {G : Ctx}

/-- What is known of everything that follows, by the way out. -/
def AfterX (W0 : World) (Fr : Nat → Prop) (N0 : Nat) (ρ0 : Rho) (K : Xt → St → Prop) (Q : Exit → Act → World → Prop) : Prop :=
  ∀ e S' ρ' a' w', K e S' → Sat W0 Fr S' ρ' a' w' → N0 ≤ S'.N → (∀ n, n < N0 → ρ' n = ρ0 n) →
    match e with
    | .normal => Q .normal a' w'
    | .exit id => Q (.exit id) a' w'
    | .ret => Q .ret a' w'

/-- A loop by a family of what holds, and a measure on its index. -/
theorem wp_loop_ghost {Q : Exit → Act → World → Prop} {c : Code} {ι : Type} (J : ι → Act → World → Prop) (μ : ι → Nat)
    (round : ∀ i a w, J i a w → c.wp P (Exit.then (fun a' w' => ∃ i', J i' a' w' ∧ μ i' < μ i) Q) a w) {i0 : ι} {a : Act} {w : World} (h0 : J i0 a w) : (Code.loop c).wp P Q a w := by
  classical
  have least : ∀ a w, (∃ i, J i a w) → ∃ i, J i a w ∧ ∀ j, J j a w → μ i ≤ μ j := by
    intro a w ⟨i, hi⟩
    have key : ∀ n (i : ι), J i a w → μ i = n → ∃ i, J i a w ∧ ∀ j, J j a w → μ i ≤ μ j := by
      intro n
      induction n using Nat.strongRecOn with
      | _ n ih =>
        intro i hi hn
        by_cases h : ∃ j, J j a w ∧ μ j < μ i
        · obtain ⟨j, hj, hlt⟩ := h
          exact ih (μ j) (hn ▸ hlt) j hj rfl
        · exact ⟨i, hi, fun j hj => Nat.le_of_not_lt fun hlt => h ⟨j, hj, hlt⟩⟩
    exact key _ i hi rfl
  let m : Act → World → Nat := fun a w => if h : ∃ i, J i a w then μ (Classical.choose (least a w h)) else 0
  refine wp_loop (fun a w => ∃ i, J i a w) m ⟨i0, h0⟩ fun a w hI => ?_
  obtain ⟨h1, h2⟩ := Classical.choose_spec (least a w hI)
  refine wp_mono (round _ a w h1) fun e a' w' hq => ?_
  cases e with
  | normal =>
    obtain ⟨i', hi', hlt⟩ := hq
    refine ⟨⟨i', hi'⟩, ?_⟩
    have hI' : ∃ i, J i a' w' := ⟨i', hi'⟩
    obtain ⟨h3, h4⟩ := Classical.choose_spec (least a' w' hI')
    show m a' w' < m a w
    simp only [m, dif_pos hI', dif_pos hI]
    exact Nat.lt_of_le_of_lt (h4 i' hi') hlt
  | exit id => exact hq
  | goto l => exact hq
  | ret => exact hq
  | panic ch => exact hq
  | outgrown => exact hq

theorem runC_sound (hG : CtxOk P G) {N0 : Nat} {ρ0 : Rho} : ∀ (c : Code) {S : St} {ρ : Rho} {a : Act} {w : World} {K : Xt → St → Prop} {Q : Exit → Act → World → Prop}, runC G N0 c S K → Sat W0 Fr S ρ a w → N0 ≤ S.N →
    (∀ n, n < N0 → ρ n = ρ0 n) → AfterX W0 Fr N0 ρ0 K Q → c.wp P Q a w := by
  intro c
  induction c with
  | skip => intro S ρ a w K Q h hS hN hρ hK; exact wp_skip (hK .normal S ρ a w h hS hN hρ)
  | region id ops draw =>
    intro S ρ a w K Q h hS hN hρ hK
    cases draw with
    | false =>
      simp only [runC] at h
      refine wp_region ?_
      have := runOps_sound hG (Q := Q) ops.toList 0 (fun j => by simp) h hS hN hρ (fun S' ρ' a' w' h' hS' hN' hρ' => hK .normal S' ρ' a' w' h' hS' hN' hρ')
      rw [List.range_eq_range']
      simpa using this
    | true =>
      simp only [runC] at h
      exact expl_sound hG hG.mix 20 [] h hS hN hρ (fun S' ρ' a' w' h' hS' hN' hρ' => hK .normal S' ρ' a' w' h' hS' hN' hρ')
  | seq x y ihx ihy =>
    intro S ρ a w K Q h hS hN hρ hK
    simp only [runC] at h
    refine wp_seq (ihx h hS hN hρ fun e S' ρ' a' w' h' hS' hN' hρ' => ?_)
    cases e with
    | normal => exact ihy h' hS' hN' hρ' hK
    | exit id => exact hK (.exit id) S' ρ' a' w' h' hS' hN' hρ'
    | ret => exact hK .ret S' ρ' a' w' h' hS' hN' hρ'
  | cond c x y ihx ihy =>
    intro S ρ a w K Q h hS hN hρ hK
    simp only [runC] at h
    split at h
    · rename_i hv
      exact wp_cond_true (by simpa [SV.den] using (opr_sat hS.s hv).1) (ihx h hS hN hρ hK)
    · rename_i hv
      exact wp_cond_false (by simpa [SV.den] using (opr_sat hS.s hv).1) (ihy h hS hN hρ hK)
    · rename_i b hv
      have hb := (opr_sat hS.s hv).1
      simp only [SV.den] at hb
      exact wp_cond_split hb (fun e => ihx (h.1 e) hS hN hρ hK) (fun e => ihy (h.2 e) hS hN hρ hK)
    · exact h.elim
  | block id x ih =>
    intro S ρ a w K Q h hS hN hρ hK
    simp only [runC] at h
    refine wp_block (ih h hS hN hρ fun e S' ρ' a' w' h' hS' hN' hρ' => ?_)
    cases e with
    | normal => exact hK .normal S' ρ' a' w' h' hS' hN' hρ'
    | ret => exact hK .ret S' ρ' a' w' h' hS' hN' hρ'
    | exit j =>
      simp only at h'
      simp only [Exit.inBlock]
      split at h'
      · rename_i hj
        rw [if_pos (Nat.eq_of_beq_eq_true hj)]
        exact hK .normal S' ρ' a' w' h' hS' hN' hρ'
      · rename_i hj
        rw [if_neg (fun e => by subst e; simp at hj)]
        exact hK (.exit j) S' ρ' a' w' h' hS' hN' hρ'
  | exit id => intro S ρ a w K Q h hS hN hρ hK; exact wp_exit (hK (.exit id) S ρ a w h hS hN hρ)
  | ret => intro S ρ a w K Q h hS hN hρ hK; exact wp_ret (hK .ret S ρ a w h hS hN hρ)
  | loop x ih =>
    intro S ρ a w K Q h hS hN hρ hK
    simp only [runC] at h
    obtain ⟨ι, I, μ, i0, h0, hr⟩ := h.ex
    have start : ∀ {S1 : St} {i : ι}, Refines N0 S1 (I i) → ∀ {ρ1 a1 w1}, Sat W0 Fr S1 ρ1 a1 w1 → (∀ n, n < N0 → ρ1 n = ρ0 n) →
        ∃ ρ', Sat W0 Fr (I i) ρ' a1 w1 ∧ N0 ≤ (I i).N ∧ ∀ n, n < N0 → ρ' n = ρ0 n := by
      intro S1 i hR ρ1 a1 w1 hS1 hρ1
      obtain ⟨ρ', h1, h2⟩ := hR.2 W0 Fr ρ1 a1 w1 hS1
      exact ⟨ρ', h1, hR.1, fun n hn => (h2 n hn).trans (hρ1 n hn)⟩
    refine wp_loop_ghost (fun i a w => ∃ ρ', Sat W0 Fr (I i) ρ' a w ∧ N0 ≤ (I i).N ∧ ∀ n, n < N0 → ρ' n = ρ0 n) μ ?_ (start h0 hS hρ)
    rintro i a1 w1 ⟨ρ1, hS1, hN1, hρ1⟩
    refine ih (hr i) hS1 hN1 hρ1 fun e S' ρ' a' w' h' hS' hN' hρ' => ?_
    cases e with
    | normal =>
      obtain ⟨i', hlt, hR⟩ := h'
      exact ⟨i', start hR hS' hρ', hlt⟩
    | exit id => exact hK (.exit id) S' ρ' a' w' h' hS' hN' hρ'
    | ret => exact hK .ret S' ρ' a' w' h' hS' hN' hρ'
  | _ => intro S ρ a w K Q h; exact (h : False).elim

/-! ### The results -/
def resV (T : Tys) (S : St) : ResultVar → Option (SV × Option Prop)
  | .tmp t => match slot S.sl t with
    | some v => some (v, none)
    | none => none
  | .cell a t => match slot S.sl a with
    | some (.ptr n i) => match ty T t with
      | some ti => match Nat.ble 1 ti.size with
        | true => match look S.H n with
          | some ob => evLoad ti ob.c i
          | none => none
        | false => none
      | none => none
    | _ => none

def resL (T : Tys) (S : St) : List ResultVar → Option (List SV × Option Prop)
  | [] => some ([], none)
  | x :: r => match resV T S x with
    | some (v, p) => match resL T S r with
      | some (vs, q) => some (v :: vs, match p, q with
        | none, q => q
        | p, none => p
        | some p, some q => some (p ∧ q))
      | none => none
    | none => none

def resS (vs : List SV) : SV :=
  match vs with
  | [v] => v
  | vs => .tup vs

def rdRes (a : Array Value) : ResultVar → Sem Value
  | .tmp t => pure (a.getD t undef)
  | .cell a' t => do loadVar t (← asAddr (a.getD a' undef))

theorem results_eq (fn : Func) (a : Array Value) : results fn a = (do
    let vs ← fn.results.mapM (rdRes a)
    pure (if h : vs.size = 1 then vs[0] else .tuple vs)) := by
  unfold results
  congr 1

theorem resV_sound {T : Tys} (hT : TysOk P T) {S : St} {ρ : Rho} {a : Act} {w : World} (hS : Sat W0 Fr S ρ a w) {x : ResultVar} {v : SV} {p : Option Prop} (h : resV T S x = some (v, p)) (hp : okP p) :
    (rdRes a.tmps x).run P w = .ok (v.den ρ) w ∧ v.bd (· < S.N) := by
  cases x with
  | tmp t =>
    simp only [resV] at h
    split at h
    · rename_i u hu
      simp only [Option.some.injEq, Prod.mk.injEq] at h
      obtain ⟨rfl, rfl⟩ := h
      have := hS.s.val _ _ hu
      exact ⟨by simp [rdRes, Array.getD_eq_getD_getElem?, this], hS.s.bd _ _ hu⟩
    · cases h
  | cell a' t =>
    simp only [resV] at h
    split at h
    · rename_i n i hn
      split at h
      · rename_i ti hti
        split at h
        · rename_i hsz
          split at h
          · rename_i ob hob
            obtain ⟨h1, h2⟩ := evLoad_sound (hT t ti hti) hS.h hob h hp (fun _ => Nat.le_of_ble_eq_true hsz)
            refine ⟨?_, h2⟩
            have hv := hS.s.val _ _ hn
            simp only [SV.den] at hv
            simp only [rdRes, Array.getD_eq_getD_getElem?, hv, Option.getD_some]
            simp only [Instr.loadAt] at h1
            rw [← h1]
            cases ha : ρ.addr n i with
            | none => rw [ha] at h1; simp [Instr.sureAddr] at h1
            | some ad => simp [Instr.sureAddr, asAddr]
          · cases h
        · cases h
      · cases h
    · cases h

theorem resL_sound {T : Tys} (hT : TysOk P T) {S : St} {ρ : Rho} {a : Act} {w : World} (hS : Sat W0 Fr S ρ a w) : ∀ {xs : List ResultVar} {vs : List SV} {p : Option Prop}, resL T S xs = some (vs, p) → okP p →
    (xs.mapM (rdRes a.tmps)).run P w = .ok (denL ρ vs) w ∧ bdL (· < S.N) vs
  | [], vs, p, h, hp => by
    simp only [resL, Option.some.injEq, Prod.mk.injEq] at h
    obtain ⟨rfl, rfl⟩ := h
    simp [denL, bdL]
  | x :: r, vs, p, h, hp => by
    simp only [resL] at h
    split at h
    · rename_i v p1 h1
      split at h
      · rename_i us q h2
        simp only [Option.some.injEq, Prod.mk.injEq] at h
        obtain ⟨rfl, rfl⟩ := h
        have hpq : okP p1 ∧ okP q := by
          cases p1 <;> cases q <;> first | exact ⟨trivial, trivial⟩ | exact ⟨trivial, hp⟩ | exact ⟨hp, trivial⟩ | exact hp
        obtain ⟨h3, h4⟩ := resV_sound hT hS h1 hpq.1
        obtain ⟨h5, h6⟩ := resL_sound hT hS h2 hpq.2
        refine ⟨?_, h4, h6⟩
        simp only [List.mapM_cons, Sem.run_bind, h3, h5, Result.andThen_ok, Sem.run_pure, denL]
      · cases h
    · cases h

theorem resS_sound {T : Tys} (hT : TysOk P T) {S : St} {ρ : Rho} {a : Act} {w : World} (hS : Sat W0 Fr S ρ a w) {fn : Func} {vs : List SV} {p : Option Prop} (h : resL T S fn.results.toList = some (vs, p)) (hp : okP p) :
    (results fn a.tmps).run P w = .ok ((resS vs).den ρ) w ∧ (resS vs).bd (· < S.N) := by
  obtain ⟨h1, h2⟩ := resL_sound hT hS h hp
  have h3 : (fn.results.mapM (rdRes a.tmps)).run P w = .ok (denL ρ vs).toArray w := by
    rw [← Array.toArray_toList (xs := fn.results), List.mapM_toArray]
    simp only [Sem.run_map, h1, Result.andThen_ok]
  rw [results_eq]
  simp only [Sem.run_bind]
  rw [h3]
  simp only [Result.andThen_ok, Sem.run_pure]
  match vs with
  | [v] => exact ⟨by simp [denL, resS], by simpa [resS, bdL] using h2⟩
  | [] => exact ⟨by simp [denL, resS, SV.den], by simp [resS, SV.bd, bdL]⟩
  | v :: u :: r => exact ⟨by simp [denL, resS, SV.den], by simpa [resS, SV.bd] using h2⟩

end

/-! ### Equal in what they stand for -/
mutual
def eqv : SV → SV → Prop
  | .tt, .tt => True
  | .ff, .ff => True
  | .tt, .bool b => b = true
  | .ff, .bool b => b = false
  | .bool b, .tt => b = true
  | .bool b, .ff => b = false
  | .bool a, .bool b => a = b
  | .int k a, .int k' b => match kEq k k' with
    | true => a = b
    | false => False
  | .flt k a, .flt k' b => match fkEq k k' with
    | true => a = b
    | false => False
  | .str a, .str b => a = b
  | .ptr n o, .ptr n' o' => match Nat.beq n n' with
    | true => o = o'
    | false => False
  | .nilp, .nilp => True
  | .slc n o l c, .slc n' o' l' c' => match Nat.beq n n' with
    | true => o = o' ∧ l = l' ∧ c = c'
    | false => False
  | .nils, .nils => True
  | .slcc n l, .slcc n' l' => match Nat.beq n n' with
    | true => l = l'
    | false => False
  | .agg a, .agg b => eqvL a b
  | .tup a, .tup b => eqvL a b
  | .ifc t v, .ifc t' v' => match Nat.beq t t' with
    | true => eqv v v'
    | false => False
  | .nili, .nili => True
  | .fn f a c, .fn f' a' c' => f = f' ∧ eqvL a a' ∧ eqvL c c'
  | .nilf, .nilf => True
  | _, _ => False
def eqvL : List SV → List SV → Prop
  | [], [] => True
  | x :: xs, y :: ys => eqv x y ∧ eqvL xs ys
  | _, _ => False
end

mutual
theorem eqv_den (ρ : Rho) : ∀ (x y : SV), eqv x y → x.den ρ = y.den ρ
  | .slcc n l, y, h => by
    cases y <;> simp only [eqv] at h
    split at h
    · rename_i ht; have := Nat.eq_of_beq_eq_true ht; subst this; simp [SV.den, h]
    · exact h.elim
  | .agg a, y, h => by cases y <;> simp only [eqv] at h; simp [SV.den, eqvL_den ρ a _ h]
  | .tup a, y, h => by cases y <;> simp only [eqv] at h; simp [SV.den, eqvL_den ρ a _ h]
  | .ifc t v, y, h => by
    cases y <;> simp only [eqv] at h
    split at h
    · rename_i ht; have := Nat.eq_of_beq_eq_true ht; subst this; simp [SV.den, eqv_den ρ v _ h]
    · exact h.elim
  | .fn f a c, y, h => by
    cases y <;> simp only [eqv] at h
    obtain ⟨rfl, h1, h2⟩ := h
    simp [SV.den, eqvL_den ρ a _ h1, eqvL_den ρ c _ h2]
  | .int k a, y, h => by
    cases y <;> simp only [eqv] at h
    split at h
    · rename_i ht; have := kEq_eq ht; subst this; simp [SV.den, h]
    · exact h.elim
  | .flt k a, y, h => by
    cases y <;> simp only [eqv] at h
    split at h
    · rename_i ht; have := fkEq_eq ht; subst this; simp [SV.den, h]
    · exact h.elim
  | .ptr n o, y, h => by
    cases y <;> simp only [eqv] at h
    split at h
    · rename_i ht; have := Nat.eq_of_beq_eq_true ht; subst this; simp [SV.den, h]
    · exact h.elim
  | .slc n o l c, y, h => by
    cases y <;> simp only [eqv] at h
    split at h
    · rename_i ht; have := Nat.eq_of_beq_eq_true ht; subst this; simp [SV.den, h]
    · exact h.elim
  | .tt, y, h | .ff, y, h | .bool _, y, h | .str _, y, h | .nilp, y, h | .nils, y, h | .nili, y, h | .nilf, y, h => by
    cases y <;> simp_all [eqv, SV.den]
theorem eqvL_den (ρ : Rho) : ∀ (x y : List SV), eqvL x y → denL ρ x = denL ρ y
  | [], y, h => by cases y <;> simp_all [eqvL]
  | x :: r, y, h => by
    cases y with
    | nil => simp [eqvL] at h
    | cons u s => simp only [eqvL] at h; simp [denL, eqv_den ρ x u h.1, eqvL_den ρ r s h.2]
end

/-! ### A function of values -/
def initSl : Nat → List SV → Slots
  | _, [] => []
  | i, v :: r => (i, v) :: initSl (i + 1) r

theorem slot_initSl : ∀ (l : List SV) (i t : Nat), slot (initSl i l) t = if i ≤ t then l[t - i]? else none
  | [], i, t => by simp [initSl, slot]
  | v :: r, i, t => by
    simp only [initSl, slot_cons, slot_initSl r (i + 1) t]
    by_cases h : i = t
    · subst h; simp
    · rw [if_neg h]
      by_cases h2 : i ≤ t
      · rw [if_pos h2, if_pos (by omega)]
        rw [show t - i = (t - (i + 1)) + 1 by omega]
        simp
      · rw [if_neg h2, if_neg (by omega)]

def init (nt : Nat) (args : List SV) (H : Heap) (N : Nat) : St := { nt := nt, sl := initSl 0 args, H := H, N := N }

theorem sat_init {W0 : World} {Fr : Nat → Prop} {nt N : Nat} {args : List SV} {H : Heap} {ρ : Rho} {w : World} (hH : HSat W0 Fr (· < N) H ρ w) (hb : bdL (· < N) args) (hl : args.length ≤ nt) :
    Sat W0 Fr (init nt args H N) ρ { tmps := (denL ρ args).toArray ++ Array.replicate (nt - (denL ρ args).toArray.size) undef, defers := [] } w where
  h := hH
  s := {
    nd := rfl
    size := by simp [denL_eq, init]; omega
    bd := fun t v hv => by
      simp only [init, slot_initSl, Nat.zero_le, if_true, Nat.sub_zero] at hv
      exact (bdL_iff _ _).1 hb v (List.mem_of_getElem? hv)
    val := fun t v hv => by
      simp only [init, slot_initSl, Nat.zero_le, if_true, Nat.sub_zero] at hv
      obtain ⟨h1, h2⟩ := List.getElem?_eq_some_iff.1 hv
      simp [denL_eq, Array.getElem?_append, h1, h2] }

/-- What is asked where the function ends: its result is v. -/
def retK (T : Tys) (rs : List ResultVar) (K : St → SV → Prop) (S : St) : Prop :=
  match resL T S rs with
  | some (vs, p) => okK p (K S (resS vs))
  | none => False

def endK (T : Tys) (rs : List ResultVar) (K : St → SV → Prop) (e : Xt) (S : St) : Prop :=
  match e with
  | .exit _ => False
  | _ => retK T rs K S

theorem pure_of_run {P : Program} {G : Ctx} (hG : CtxOk P G) {f : Nat} {fn : Func} {c : Code} (hf : P.funcs[f]? = some fn) (hb : fn.body = some c) (hnm : (fn.name == "runtime.NumGoroutine") = false) {F : PF}
    (h : ∀ args v p, F args = some (v, p) → okP p → v.closed = true ∧ closedL args = true ∧ Nat.ble args.length fn.ntmps = true ∧
      runC G 0 c (init fn.ntmps args [] 0) (endK G.E.T fn.results.toList fun _ v' => eqv v' v)) : PureOk P f F := by
  intro args v p hF hp
  obtain ⟨h1, h2, h3, h4⟩ := h args v p hF hp
  refine ⟨h1, fun ρ w => .inl ⟨⟨fn, hf, hnm, by rw [hb]; rfl⟩, ?_⟩⟩
  refine calls_of_wp hf hb ?_
  have hH : HSat w (· < w.heap.size) (· < 0) [] ρ w :=
    { os := rfl, tape := rfl, output := rfl, size := Nat.le_refl _, frlt := fun _ h => h, frame := fun _ _ => rfl
      used := fun n o hn => by simp [look] at hn
      bd := fun n o hn => by simp [look] at hn
      obj := fun n o hn => by simp [look] at hn
      inj := fun n m o o' p q hn => by simp [look] at hn
      free := fun n o p hn => by simp [look] at hn }
  refine runC_sound hG (ρ0 := ρ) c h4 (sat_init hH (bdL_closed _ _ h2) (Nat.le_of_ble_eq_true h3)) (Nat.zero_le _) (fun _ _ => rfl) ?_
  intro e S' ρ' a' w' hK hS hN hρ
  have fin : retK G.E.T fn.results.toList (fun _ v' => eqv v' v) S' → a'.defers = [] ∧ ∃ u, (results fn a'.tmps).run P w' = .ok u w' ∧ (Ending.returned u = .returned (v.den ρ) ∧ Below w.heap.size w w') := by
    intro hr
    unfold retK at hr
    split at hr
    · rename_i vs q hvs
      obtain ⟨hq, he⟩ := okK_iff hr
      obtain ⟨h5, h6⟩ := resS_sound hG.E.T hS hvs hq
      refine ⟨hS.s.nd, _, h5, ?_, ⟨hS.h.os, hS.h.tape, hS.h.output, hS.h.size, fun k hk => hS.h.frame k hk⟩⟩
      rw [eqv_den ρ' _ _ he, SV.den_closed ρ ρ' h1]
    · exact hr.elim
  cases e with
  | normal => exact fin hK
  | ret => exact fin hK
  | exit id => exact hK.elim

end Go.Sx
