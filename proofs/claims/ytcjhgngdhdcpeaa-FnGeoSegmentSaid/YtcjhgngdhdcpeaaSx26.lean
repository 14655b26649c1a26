/- Conditions of a walk, whole: loops and cuts by given families of states. -/
import Derived.Test.YtcjhgngdhdcpeaaSx24
import Derived.Test.YtcjhgngdhdcpeaaSx20
namespace Go.Sx
open Go.RowKit

def okFlag (b : Bool) (p : Prop) : Prop :=
  match b with
  | true => p
  | false => False
theorem okFlag_iff {b : Bool} {p : Prop} (h : okFlag b p) : b = true ∧ p := by
  cases b
  · exact h.elim
  · exact ⟨rfl, h⟩

/-! ### One state fits another: what is left to show -/
def slotsP (σ : Sig) (sl : Slots) (N : Nat) : Slots → Prop
  | [] => True
  | (t, v') :: r => match slot sl t with
    | some v => okFlag (v'.und N) (eqvR σ v v' ∧ slotsP σ sl N r)
    | none => False

def Cont.undP (N : Nat) : Cont → Prop
  | .cells l => okFlag (undL N l) True
  | .ints _ _ _ => True
  | .flts _ _ _ => True
  | .gen n f => ∀ i, i < n → (f i).und N = true

def heapP (σ : Sig) (H : Heap) (N : Nat) : Heap → Prop
  | [] => True
  | (n, o') :: r => okFlag (Nat.blt n N) (o'.c.undP N ∧ (match σ n with
    | some m => match look H m with
      | some o => obR σ o o'
      | none => False
    | none => o'.c.size = 0) ∧ heapP σ H N r)

theorem slotsP_spec {σ : Sig} {sl : Slots} {N : Nat} : ∀ {s : Slots}, slotsP σ sl N s → slotsR σ sl N s
  | [], _ => trivial
  | (t, v') :: r, h => by
    unfold slotsP at h
    unfold slotsR
    split at h
    · rename_i v hv
      obtain ⟨h1, h2, h3⟩ := okFlag_iff h
      refine ⟨?_, slotsP_spec h3⟩
      rw [hv]
      exact ⟨h1, h2⟩
    · exact h.elim

theorem Cont.undP_spec {N : Nat} {c : Cont} (h : c.undP N) : c.und N := by
  cases c with
  | cells l => exact (okFlag_iff h).1
  | ints k n g => trivial
  | flts k n g => trivial
  | gen n f => exact h

theorem heapP_spec {σ : Sig} {H : Heap} {N : Nat} : ∀ {s : Heap}, heapP σ H N s → heapR σ H N s
  | [], _ => trivial
  | (n, o') :: r, h => by
    unfold heapP at h
    unfold heapR
    obtain ⟨h1, h2, h3, h4⟩ := okFlag_iff h
    exact ⟨⟨h1, Cont.undP_spec h2, h3⟩, heapP_spec h4⟩

def fitsP (N0 : Nat) (S S' : St) : Prop :=
  okFlag (Nat.ble N0 S'.N && (fixN N0 (autoSig N0 S S') && (Nat.beq S'.nt S.nt && distN (images (sigAt (autoSig N0 S S')) S'.H))))
    (slotsP (sigAt (autoSig N0 S S')) S.sl S'.N S'.sl ∧ heapP (sigAt (autoSig N0 S S')) S.H S'.N S'.H)

theorem fitsP_spec {N0 : Nat} {S S' : St} (h : fitsP N0 S S') : Refines N0 S S' := by
  obtain ⟨h1, h2, h3⟩ := okFlag_iff h
  simp only [Bool.and_eq_true] at h1
  obtain ⟨h4, h5, h6, h7⟩ := h1
  exact Refines.auto ⟨h4, h5, Nat.eq_of_beq_eq_true h6, h7, slotsP_spec h2, heapP_spec h3⟩

/-! ### Families of states -/
structure Fam where
  ι : Type
  I : ι → St
  inv : ι → Prop
  μ : ι → Nat

/-- By the number of the first region. -/
abbrev Ann := List (Nat × Fam)
def ann : Ann → Nat → Option Fam
  | [], _ => none
  | (m, v) :: r, n => match Nat.beq m n with
    | true => some v
    | false => ann r n

def firstReg : Code → Option Nat
  | .region id _ _ => some id
  | .seq x y => match firstReg x with
    | some i => some i
    | none => firstReg y
  | .block _ x => firstReg x
  | .loop x => firstReg x
  | _ => none

def annAt (A : Ann) (c : Code) : Option Fam :=
  match firstReg c with
  | some i => ann A i
  | none => none

/-- A: the loops' families; B: the cuts'. -/
def runA (G : Ctx) (N0 : Nat) (A B : Ann) : Code → St → (Xt → St → Prop) → Prop
  | .skip, S, K => K .normal S
  | .region _ ops draw, S, K => match draw with
    | false => runOps G ops.toList ops.toList S (K .normal)
    | true => expl G ops.toList S (K .normal) 20 []
  | .seq x y, S, K => match annAt B y with
    | none => runA G N0 A B x S (fun e S' => match e with
      | .normal => runA G N0 A B y S' K
      | e => K e S')
    | some J => runA G N0 A B x S (fun e S' => match e with
      | .normal => ∃ j, J.inv j ∧ fitsP N0 S' (J.I j)
      | e => K e S') ∧ ∀ j, J.inv j → runA G N0 A B y (J.I j) K
  | .cond c x y, S, K => match opr S.sl c with
    | some .tt => runA G N0 A B x S K
    | some .ff => runA G N0 A B y S K
    | some (.bool b) => (b = true → runA G N0 A B x S K) ∧ (b = false → runA G N0 A B y S K)
    | _ => False
  | .block id x, S, K => runA G N0 A B x S (fun e S' => match e with
    | .exit j => match Nat.beq j id with
      | true => K .normal S'
      | false => K (.exit j) S'
    | e => K e S')
  | .exit id, S, K => K (.exit id) S
  | .ret, S, K => K .ret S
  | .loop x, S, K => match annAt A x with
    | none => False
    | some J => (∃ i, J.inv i ∧ fitsP N0 S (J.I i)) ∧ ∀ i, J.inv i → runA G N0 A B x (J.I i) (fun e S' => match e with
      | .normal => ∃ i', J.inv i' ∧ J.μ i' < J.μ i ∧ fitsP N0 S' (J.I i')
      | e => K e S')
  | _, _, _ => False

section
variable {P : Program} {G : Ctx}

theorem Wp.refines' {N0 : Nat} {S S1 : St} {K : Xt → St → Prop} {c : Code} (hr : Refines N0 S S1) (h : Wp P N0 c S1 K) : Wp P N0 c S K := by
  intro W0 Fr ρ0 ρ a w Q hS hN hρ hK
  obtain ⟨ρ', h1, h2⟩ := hr.2 W0 Fr ρ a w hS
  exact h W0 Fr ρ0 ρ' a w Q h1 hr.1 (fun n hn => (h2 n hn).trans (hρ n hn)) hK

theorem runA_sound (hG : CtxOk P G) {N0 : Nat} {A B : Ann} : ∀ (c : Code) {S : St} {K : Xt → St → Prop}, runA G N0 A B c S K → Wp P N0 c S K := by
  intro c
  induction c with
  | skip => intro S K h; exact Wp.run hG h
  | region id ops draw => intro S K h; exact Wp.run hG h
  | seq x y ihx ihy =>
    intro S K h
    unfold runA at h
    split at h
    · exact Wp.seq (ihx h) (fun S' h' => ihy h') (fun _ _ h => h) (fun _ h => h)
    · rename_i J hJ
      obtain ⟨h1, h2⟩ := h
      refine Wp.seq (ihx h1) (fun S' h' => ?_) (fun _ _ h => h) (fun _ h => h)
      obtain ⟨j, hj, hf⟩ := h'
      exact Wp.refines' (fitsP_spec hf) (ihy (h2 j hj))
  | cond c x y ihx ihy =>
    intro S K h W0 Fr ρ0 ρ a w Q hS hN hρ hK
    unfold runA at h
    split at h
    · rename_i hv
      exact wp_cond_true (by simpa [SV.den] using (opr_sat hS.s hv).1) (ihx h W0 Fr ρ0 ρ a w Q hS hN hρ hK)
    · rename_i hv
      exact wp_cond_false (by simpa [SV.den] using (opr_sat hS.s hv).1) (ihy h W0 Fr ρ0 ρ a w Q hS hN hρ hK)
    · rename_i b hv
      have hb := (opr_sat hS.s hv).1
      simp only [SV.den] at hb
      exact wp_cond_split hb (fun e => ihx (h.1 e) W0 Fr ρ0 ρ a w Q hS hN hρ hK) (fun e => ihy (h.2 e) W0 Fr ρ0 ρ a w Q hS hN hρ hK)
    · exact h.elim
  | block id x ih =>
    intro S K h
    exact Wp.block (ih h)
  | exit id => intro S K h; exact Wp.run hG h
  | ret => intro S K h; exact Wp.run hG h
  | loop x ih =>
    intro S K h
    unfold runA at h
    split at h
    · exact h.elim
    · rename_i J hJ
      obtain ⟨⟨i0, h0, hf⟩, hr⟩ := h
      refine Wp.loop (ι := { i : J.ι // J.inv i }) (fun i => J.I i.1) (fun i => J.μ i.1) ⟨i0, h0⟩ (fitsP_spec hf) fun i => ?_
      refine Wp.mono (ih (hr i.1 i.2)) fun e S' h' => ?_
      cases e with
      | normal =>
        obtain ⟨i', h1, h2, h3⟩ := h'
        exact ⟨⟨i', h1⟩, h2, fitsP_spec h3⟩
      | exit id => exact h'
      | ret => exact h'
  | _ => intro S K h; exact (h : False).elim
end

/-! ### The end of a call that makes or writes named pieces -/
def postP (k : Nat) (hc : HC) (S : St) (v : SV) : Prop :=
  okFlag (hc.val.und (k + 4) && distN (images (tauSig k (autoTau k hc S v)) (hc.wr ++ hc.news)))
    (eqvR (tauSig k (autoTau k hc S v)) v hc.val ∧ heapP (tauSig k (autoTau k hc S v)) S.H (k + 4) (hc.wr ++ hc.news))

theorem postP_spec {k : Nat} {hc : HC} {S : St} {v : SV} (h : postP k hc S v) : ∃ tau, PostOk k hc S v tau := by
  obtain ⟨h1, h2, h3⟩ := okFlag_iff h
  simp only [Bool.and_eq_true] at h1
  exact ⟨_, h2, h1.1, heapP_spec h3, h1.2⟩

theorem endK_mono {T : Tys} {rs : List ResultVar} {K K' : St → SV → Prop} (h : ∀ S v, K S v → K' S v) {e : Xt} {S : St} (hk : endK T rs K e S) : endK T rs K' e S := by
  have key : retK T rs K S → retK T rs K' S := by
    intro hr
    unfold retK at hr ⊢
    split at hr
    · rename_i vs p hvs
      cases p with
      | none => exact h _ _ hr
      | some p => exact ⟨hr.1, h _ _ hr.2⟩
    · exact hr.elim
  cases e with
  | normal => exact key hk
  | ret => exact key hk
  | exit id => exact hk.elim

/-- A pure function by its conditions. -/
theorem body_codeOf {fn : Func} (hb : fn.body.isNone = false) : fn.body = some (codeOf fn) := by
  unfold codeOf
  cases h : fn.body with
  | none => rw [h] at hb; cases hb
  | some c => rfl

theorem pure_of_vc {P : Program} {G : Ctx} (hG : CtxOk P G) {f : Nat} {fn : Func} (hf : P.funcs[f]? = some fn) (hb : fn.body.isNone = false) (hnm : (fn.name == "runtime.NumGoroutine") = false) {F : PF}
    (h : ∀ args v p, F args = some (v, p) → okP p → (v.closed && (closedL args && Nat.ble args.length fn.ntmps)) = true ∧
      ∃ A B, runA G 0 A B (codeOf fn) (init fn.ntmps args [] 0) (endK G.E.T fn.results.toList fun _ v' => eqv v' v)) : PureOk P f F :=
  pure_of_wp hG hf (body_codeOf hb) hnm fun args v p hF hp => by
    obtain ⟨h1, A, B, h2⟩ := h args v p hF hp
    simp only [Bool.and_eq_true] at h1
    exact ⟨h1.1, h1.2.1, h1.2.2, runA_sound hG _ h2⟩

/-- What the call begins with, checked. -/
def preP (σ : Sig) (N : Nat) : Nat → List (Nm × Ob) → Heap → Prop
  | _, [], [] => True
  | i, (_, o) :: r, (j, o') :: r' => okFlag (Nat.beq i j) (o'.c.undP N ∧ obR σ o o' ∧ preP σ N (i + 1) r r')
  | _, _, _ => False
theorem preP_spec {σ : Sig} {N : Nat} : ∀ {i : Nat} {r : List (Nm × Ob)} {h : Heap}, preP σ N i r h → preR σ N i r h
  | _, [], [], _ => trivial
  | i, (_, o) :: r, (j, o') :: r', h => by
    obtain ⟨h1, h2, h3, h4⟩ := okFlag_iff h
    exact ⟨h1, Cont.undP_spec h2, h3, preP_spec h4⟩
  | _, [], _ :: _, h => h.elim
  | _, _ :: _, [], h => h.elim

def callP (fn : Func) (args : List SV) (acc : List (Nm × Ob)) (hc : HC) : Prop :=
  okFlag (undL acc.length hc.args && (Nat.ble hc.args.length fn.ntmps && (keysLt acc.length hc.heap hc.wr && (keysGe acc.length hc.news && rwIn hc.wr hc.heap))))
    (eqvRL (sgSig (fsts acc)) args hc.args ∧ preP (sgSig (fsts acc)) acc.length 0 acc hc.heap)

/-- A function that reads or makes named pieces, by its conditions. -/
theorem con_of_vc {P : Program} {G : Ctx} (hG : CtxOk P G) {f : Nat} {fn : Func} (hf : P.funcs[f]? = some fn) (hb : fn.body.isNone = false) (hnm : (fn.name == "runtime.NumGoroutine") = false) {C : List SV → RdM}
    (h : ∀ args, (C args).All (fun acc hc => okP hc.obl → callP fn args acc hc ∧
      ∃ A B, runA G acc.length A B (codeOf fn) (init fn.ntmps hc.args hc.heap acc.length) (endK G.E.T fn.results.toList fun S v => postP acc.length hc S v)) []) : ConOk P f (conR C) :=
  conR_okW hG hf (body_codeOf hb) hnm fun args => (h args).imp fun acc hc hk ho => by
    obtain ⟨h1, A, B, h2⟩ := hk ho
    obtain ⟨h3, h4, h5⟩ := okFlag_iff h1
    simp only [Bool.and_eq_true] at h3
    exact ⟨h4, h3.1, h3.2.1, preP_spec h5, h3.2.2.1, h3.2.2.2.1, h3.2.2.2.2, Wp.mono (runA_sound hG _ h2) fun e S' hk' => endK_mono (fun _ _ => postP_spec) hk'⟩

theorem okFlag_mk {b : Bool} {p : Prop} (h : b = true) (hp : p) : okFlag b p := by subst h; exact hp
theorem toB_eqvR {σ : Sig} {v : SV} {b : Bool} (h : v.toB = some b) : eqvR σ v (.bool b) := by
  cases v <;> simp_all [SV.toB, eqvR]
end Go.Sx
