/- Regions in the order of the text, and code. -/
import Derived.Test.YtcjhgngdhdcpeaaSx13
namespace Go.Sx
open Go.RowKit

def setSl (S : St) (d : Nat) (v : SV) : St := { S with sl := (d, v) :: S.sl }

/-- What becomes of the state behind an operation. -/
def St.app (S : St) (dst : Option Nat) (e : Eff) : St :=
  { nt := S.nt
    sl := match dst with
      | some d => match e.val with
        | some v => (d, v) :: S.sl
        | none => (d, .tup []) :: S.sl
      | none => S.sl
    H := e.wr ++ (e.news ++ S.H)
    N := S.N + 4 }

def okK : Option Prop → Prop → Prop
  | none, q => q
  | some p, q => p ∧ q

theorem okK_iff {p : Option Prop} {q : Prop} (h : okK p q) : okP p ∧ q := by
  cases p with
  | none => exact ⟨trivial, h⟩
  | some p => exact h

def dstOk (S : St) : Option Nat → Bool
  | none => true
  | some d => Nat.blt d S.nt

/-- What a float division may give: its value; a NaN of any bits where it has none. -/
def QuoRel (k : FloatKind) (a b r : Nat) : Prop :=
  match floatBits .quo k a b with
  | some v => r = v
  | none => (k.decode r).isNaN = true

/-- A division of floats. -/
def fquo (S : St) (o : Op) : Option (FloatKind × Nat × Nat) :=
  match o with
  | .binOp .quo _ x y _ => match opr S.sl x, opr S.sl y with
    | some (.flt k a), some (.flt k' b) => match fkEq k k' with
      | true => some (k, a, b)
      | false => none
    | _, _ => none
  | _ => none

/-- One operation that is carried out. -/
def stepK (G : Ctx) (o : Oper) (S : St) (K : St → Prop) : Prop :=
  match dstOk S o.dst with
  | true => match fquo S o.op with
    | some (k, a, b) => ∀ r, QuoRel k a b r → K (S.app o.dst (Eff.pure (.flt k r)))
    | none => match evAny G (opr S.sl) (look S.H) S.N o.op with
      | some e => okK e.obl (K (S.app o.dst e))
      | none => False
  | false => False

/-- One operation that is passed over. -/
def skipK (o : Oper) (S : St) (K : St → Prop) : Prop :=
  match dstOk S o.dst with
  | true => match o.dst with
    | some d => K (setSl S d (.tup []))
    | none => K S
  | false => False

def gdst (ops : List Oper) (j : Nat) : Option Nat :=
  match nth ops j with
  | some o => o.dst
  | none => none

/-- One operation, guarded or not. -/
def operK (G : Ctx) (ops : List Oper) (o : Oper) (S : St) (K : St → Prop) : Prop :=
  match o.guard with
  | none => stepK G o S K
  | some (j, want) => match gdst ops j with
    | none => False
    | some d => match slot S.sl d with
      | some .tt => match want with
        | true => stepK G o S K
        | false => skipK o S K
      | some .ff => match want with
        | true => skipK o S K
        | false => stepK G o S K
      | some (.tup []) => skipK o S K
      | some (.bool b) =>
        (b = true → match want with
          | true => stepK G o (setSl S d .tt) K
          | false => skipK o (setSl S d .tt) K) ∧
        (b = false → match want with
          | true => skipK o (setSl S d .ff) K
          | false => stepK G o (setSl S d .ff) K)
      | _ => False

def runOps (G : Ctx) (ops : List Oper) : List Oper → St → (St → Prop) → Prop
  | [], S, K => K S
  | o :: r, S, K => operK G ops o S (fun S' => runOps G ops r S' K)

section
variable {P : Program} {W0 : World} {Fr : Nat → Prop} {G : Ctx} {S : St} {ρ : Rho} {a : Act} {w : World}

/-- What is known of everything that follows. -/
def After (W0 : World) (Fr : Nat → Prop) (N0 : Nat) (ρ0 : Rho) (K : St → Prop) (Q : Act → World → Prop) : Prop :=
  ∀ S' ρ' a' w', K S' → Sat W0 Fr S' ρ' a' w' → N0 ≤ S'.N → (∀ n, n < N0 → ρ' n = ρ0 n) → Q a' w'

theorem const_opr {sl : Slots} {c : Value} {v : SV} (h : opr sl (.const c) = some v) (ρ : Rho) : c = v.den ρ := ((ofV_den (v := c) (s := v) h ρ (fun _ => True)).1).symm

theorem Sat.put (h : Sat W0 Fr S ρ a w) {d : Nat} (hd : d < S.nt) {v : SV} (hv : v.bd (· < S.N)) : Sat W0 Fr (setSl S d v) ρ (a.put (some d) (v.den ρ)) w :=
  ⟨h.h, h.s.put hd hv⟩

theorem Sat.set (h : Sat W0 Fr S ρ a w) {d : Nat} {v u : SV} (hu : slot S.sl d = some u) (he : u.den ρ = v.den ρ) (hv : v.bd (· < S.N)) : Sat W0 Fr (setSl S d v) ρ a w :=
  ⟨h.h, { h.s with
    bd := fun t x hx => by
      simp only [setSl, slot_cons] at hx
      split at hx
      · cases hx; exact hv
      · exact h.s.bd t x hx
    val := fun t x hx => by
      simp only [setSl, slot_cons] at hx
      split at hx
      · rename_i e; subst e; cases hx; rw [← he]; exact h.s.val _ u hu
      · exact h.s.val t x hx }⟩

theorem read_nan (f : Ieee.Format) (b : Nat) (h1 : ¬ b % f.signWeight < f.binade) (h2 : ¬ b % f.signWeight < f.infRung) (h3 : ¬ b % f.signWeight = f.infRung) : (f.read b).isNaN = true := by
  simp [Ieee.Format.read, h1, h2, h3, Ieee.Datum.isNaN]

theorem nan_cut (k : FloatKind) (x y t : Nat) : (k.decode ((Question.nanBits k x y).cut t)).isNaN = true := by
  cases k
  · have hs : (t / 2) % (2 ^ 23 - 1) < 2 ^ 23 - 1 := Nat.mod_lt _ (by decide)
    simp only [Question.cut]
    generalize (t / 2) % (2 ^ 23 - 1) = s at hs
    have hm : ((t % 2) * 2 ^ 31 + 0x7f800000 + 1 + s) % Ieee.single.signWeight = 0x7f800000 + 1 + s := by
      rw [show Ieee.single.signWeight = 2 ^ 31 by decide]; omega
    refine read_nan Ieee.single _ ?_ ?_ ?_ <;> rw [hm]
    · rw [show Ieee.single.binade = 2 ^ 23 by decide]; omega
    · rw [show Ieee.single.infRung = 0x7f800000 by decide]; omega
    · rw [show Ieee.single.infRung = 0x7f800000 by decide]; omega
  · have hs : (t / 2) % (2 ^ 52 - 1) < 2 ^ 52 - 1 := Nat.mod_lt _ (by decide)
    simp only [Question.cut]
    generalize (t / 2) % (2 ^ 52 - 1) = s at hs
    have hm : ((t % 2) * 2 ^ 63 + 0x7ff0000000000000 + 1 + s) % Ieee.double.signWeight = 0x7ff0000000000000 + 1 + s := by
      rw [show Ieee.double.signWeight = 2 ^ 63 by decide]; omega
    refine read_nan Ieee.double _ ?_ ?_ ?_ <;> rw [hm]
    · rw [show Ieee.double.binade = 2 ^ 52 by decide]; omega
    · rw [show Ieee.double.infRung = 0x7ff0000000000000 by decide]; omega
    · rw [show Ieee.double.infRung = 0x7ff0000000000000 by decide]; omega

theorem run_quo {P : Program} (w : World) (t : TypeId) (k : FloatKind) (a b : Nat) : ∃ r w', (binOp .quo t (.float k a) (.float k b)).run P w = .ok (.float k r) w' ∧ QuoRel k a b r ∧ (w' = w ∨ w' = w.drew) := by
  unfold QuoRel
  cases hq : floatBits .quo k a b with
  | some v => exact ⟨v, w, run_float_arith w .quo t k a b v hq, rfl, .inl rfl⟩
  | none =>
    have hd : k.format.div a b = none := hq
    refine ⟨(Question.nanBits k a b).cut (w.tape w.drawn (.nanBits k a b)), w.drew, ?_, nan_cut k a b _, .inr rfl⟩
    simp [binOp, Op.floatArith, hd, Question.forced]

theorem stepK_sound (hG : CtxOk P G) {N0 : Nat} {ρ0 : Rho} {o : Oper} {K : St → Prop} (h : stepK G o S K) (hS : Sat W0 Fr S ρ a w) (hN : N0 ≤ S.N) (hρ : ∀ n, n < N0 → ρ n = ρ0 n)
    {next : Act → World → Prop} {Q : Exit → Act → World → Prop} (hK : After W0 Fr N0 ρ0 K next) : o.wp P a w next Q := by
  unfold stepK at h
  split at h
  · rename_i hd
    split at h
    · rename_i k x y hq
      unfold fquo at hq
      split at hq
      · rename_i t xo yo yt hop
        split at hq
        · rename_i k1 a1 k2 b1 hx hy
          split at hq
          · rename_i hk
            have := fkEq_eq hk
            subst this
            simp only [Option.some.injEq, Prod.mk.injEq] at hq
            obtain ⟨rfl, rfl, rfl⟩ := hq
            obtain ⟨r, w', hrun, hrel, hw'⟩ := run_quo (P := P) w t k1 a1 b1
            have e1 := (opr_sat hS.s hx).1
            have e2 := (opr_sat hS.s hy).1
            simp only [SV.den] at e1 e2
            have hexec : (execOp a.eval o).run P w = .ok (.value (.float k1 r)) w' := by
              simp only [execOp, hop, e1, e2, eqGuard_quo, Sem.run_bind, Sem.run_pure, Result.andThen_ok, hrun]
            have hS' : Sat W0 Fr S ρ a w' := by
              rcases hw' with rfl | rfl
              · exact hS
              · exact ⟨hS.h.drew, hS.s⟩
            unfold Oper.wp
            rw [hexec]
            have hH' := hS'.h.mono (U' := (· < S.N + 4)) (fun n hn => Nat.lt_of_lt_of_le hn (Nat.le_add_right _ _))
            have hs' := hS'.s.mono (U' := (· < S.N + 4)) (fun n hn => Nat.lt_of_lt_of_le hn (Nat.le_add_right _ _)) (fun _ _ => rfl)
            refine hK (S.app o.dst (Eff.pure (.flt k1 r))) ρ _ _ (h r hrel) ⟨hH', ?_⟩ (Nat.le_trans hN (Nat.le_add_right _ _)) hρ
            cases hdst : o.dst with
            | none => simpa [St.app, Act.put] using hs'
            | some d =>
              have hd' : d < S.nt := by rw [hdst] at hd; simpa [dstOk] using hd
              exact hs'.put (v := .flt k1 r) hd' trivial
          · cases hq
        · cases hq
      · cases hq
    split at h
    · rename_i e he
      obtain ⟨h1, h2⟩ := okK_iff h
      refine evAny_sound hG hS.h (fun j _ => by simp) (fun x v hx => opr_sat hS.s hx) (fun c v hc => const_opr hc ρ) he h1 (fun ρ' w' hr hH => ?_)
      have hU : ∀ n, UU (· < S.N) S.N n → n < S.N + 4 := by
        intro n hn
        rcases hn with hn | hn
        · exact Nat.lt_of_lt_of_le hn (Nat.le_add_right _ _)
        · exact hn.2
      have hH' := hH.mono (U' := (· < S.N + 4)) hU
      have hs' := hS.s.mono (U' := (· < S.N + 4)) (fun n hn => Nat.lt_of_lt_of_le hn (Nat.le_add_right _ _)) hr
      have hρ' : ∀ n, n < N0 → ρ' n = ρ0 n := fun n hn => (hr n (Nat.lt_of_lt_of_le hn hN)).trans (hρ n hn)
      have hN' : N0 ≤ S.N + 4 := Nat.le_trans hN (Nat.le_add_right _ _)
      split
      · rename_i v hv
        intro hb
        refine hK (S.app o.dst e) ρ' _ _ h2 ⟨hH', ?_⟩ hN' hρ'
        cases hdst : o.dst with
        | none => simpa [St.app, Act.put] using hs'
        | some d =>
          have hd' : d < S.nt := by rw [hdst] at hd; simpa [dstOk] using hd
          simp only [St.app, hv]
          exact hs'.put hd' (SV.bd_mono hU v hb)
      · rename_i hv
        refine hK (S.app o.dst e) ρ' _ _ h2 ⟨hH', ?_⟩ hN' hρ'
        cases hdst : o.dst with
        | none => simpa [St.app, Act.put] using hs'
        | some d =>
          have hd' : d < S.nt := by rw [hdst] at hd; simpa [dstOk] using hd
          simp only [St.app, hv]
          exact hs'.put (v := .tup []) hd' (by simp [SV.bd, bdL])
    · exact h.elim
  · exact h.elim

theorem skipK_sound {N0 : Nat} {ρ0 : Rho} {o : Oper} {K : St → Prop} (h : skipK o S K) (hS : Sat W0 Fr S ρ a w) (hN : N0 ≤ S.N) (hρ : ∀ n, n < N0 → ρ n = ρ0 n)
    {next : Act → World → Prop} (hK : After W0 Fr N0 ρ0 K next) : next (a.put o.dst undef) w := by
  unfold skipK at h
  split at h
  · rename_i hd
    split at h
    · rename_i d hdst
      rw [hdst] at hd ⊢
      have hd' : d < S.nt := by simpa [dstOk] using hd
      exact hK _ ρ _ _ h (hS.put (v := .tup []) hd' (by simp [SV.bd, bdL])) hN hρ
    · rename_i hdst
      rw [hdst]
      exact hK _ ρ _ _ h hS hN hρ
  · exact h.elim

/-- An operation's turn, as 'wpOps' has it. -/
def turn (P : Program) (ops : Array Oper) (o : Oper) (a : Act) (w : World) (next : Act → World → Prop) (Q : Exit → Act → World → Prop) : Prop :=
  if Region.wanted o (yielded ops a.tmps) then o.wp P a w next Q ∨ (o.asks P a w ∧ LetsOut Q) else next (a.put o.dst undef) w

theorem operK_sound (hG : CtxOk P G) {N0 : Nat} {ρ0 : Rho} {ops : List Oper} {o : Oper} {K : St → Prop} (h : operK G ops o S K) (hS : Sat W0 Fr S ρ a w) (hN : N0 ≤ S.N) (hρ : ∀ n, n < N0 → ρ n = ρ0 n)
    {next : Act → World → Prop} {Q : Exit → Act → World → Prop} (hK : After W0 Fr N0 ρ0 K next) : turn P ops.toArray o a w next Q := by
  unfold operK at h
  unfold turn
  split at h
  · rename_i hg
    rw [if_pos (by simp [Region.wanted, hg])]
    exact .inl (stepK_sound hG h hS hN hρ hK)
  · rename_i j want hg
    split at h
    · exact h.elim
    · rename_i d hd
      have hdst : (ops.toArray[j]?).bind (·.dst) = some d := by
        unfold gdst at hd
        rw [nth_eq] at hd
        split at hd
        · rename_i o' ho'; simp [ho', hd]
        · cases hd
      have wantedIs : ∀ (v : Value), a.tmps[d]? = some v → Region.wanted o (yielded ops.toArray a.tmps) = ((match v with | .bool b => some b | _ => none) == some want) := by
        intro v hv
        simp only [Region.wanted, hg, yielded, hdst, Option.bind_some, hv]
        cases v <;> rfl
      split at h
      · rename_i hv
        have hw := wantedIs _ (hS.s.val _ _ hv)
        simp only [SV.den] at hw
        split at h
        · rw [hw]; exact .inl (stepK_sound hG h hS hN hρ hK)
        · rw [hw]; exact skipK_sound h hS hN hρ hK
      · rename_i hv
        have hw := wantedIs _ (hS.s.val _ _ hv)
        simp only [SV.den] at hw
        split at h
        · rw [hw]; exact skipK_sound h hS hN hρ hK
        · rw [hw]; exact .inl (stepK_sound hG h hS hN hρ hK)
      · rename_i hv
        have hw := wantedIs _ (hS.s.val _ _ hv)
        simp only [SV.den] at hw
        rw [hw]
        exact skipK_sound h hS hN hρ hK
      · rename_i b hv
        have hw := wantedIs _ (hS.s.val _ _ hv)
        simp only [SV.den] at hw
        rw [hw]
        cases b
        · have h2 := h.2 rfl
          have hS' : Sat W0 Fr (setSl S d .ff) ρ a w := hS.set hv rfl trivial
          split at h2
          · exact skipK_sound h2 hS' hN hρ hK
          · exact .inl (stepK_sound hG h2 hS' hN hρ hK)
        · have h1 := h.1 rfl
          have hS' : Sat W0 Fr (setSl S d .tt) ρ a w := hS.set hv rfl trivial
          split at h1
          · exact .inl (stepK_sound hG h1 hS' hN hρ hK)
          · exact skipK_sound h1 hS' hN hρ hK
      · exact h.elim

theorem runOps_sound (hG : CtxOk P G) {N0 : Nat} {ρ0 : Rho} {ops : List Oper} {Q : Exit → Act → World → Prop} : ∀ (l : List Oper) (k : Nat) {S : St} {ρ : Rho} {a : Act} {w : World} {K : St → Prop}, (∀ j, l[j]? = ops[k + j]?) →
    runOps G ops l S K → Sat W0 Fr S ρ a w → N0 ≤ S.N → (∀ n, n < N0 → ρ n = ρ0 n) → After W0 Fr N0 ρ0 K (Q .normal) → wpOps P ops.toArray Q (List.range' k l.length) a w
  | [], k, S, ρ, a, w, K, _, h, hS, hN, hρ, hK => hK S ρ a w h hS hN hρ
  | o :: r, k, S, ρ, a, w, K, hl, h, hS, hN, hρ, hK => by
    have ho : ops[k]? = some o := by simpa using (hl 0).symm
    simp only [List.length_cons, List.range'_succ]
    unfold wpOps
    simp only [List.getElem?_toArray, ho]
    refine operK_sound hG h hS hN hρ fun S' ρ' a' w' h' hS' hN' hρ' => ?_
    refine runOps_sound hG r (k + 1) (fun j => ?_) h' hS' hN' hρ' hK
    have := hl (j + 1)
    simp only [List.getElem?_cons_succ] at this
    rw [this]; congr 1; omega

end
end Go.Sx
