/- Contracts that read and write memory, by names of their own. -/
import Derived.Test.YtcjhgngdhdcpeaaSx22
import Derived.Test.YtcjhgngdhdcpeaaSx20
namespace Go.Sx
open Go.RowKit

mutual
def SV.ren (θ : Nm → Nm) : SV → SV
  | .ptr n o => .ptr (θ n) o
  | .slc n o l c => .slc (θ n) o l c
  | .slcc n l => .slcc (θ n) l
  | .agg cs => .agg (renL θ cs)
  | .tup vs => .tup (renL θ vs)
  | .ifc t v => .ifc t (v.ren θ)
  | .fn f a c => .fn f (renL θ a) (renL θ c)
  | .tt => .tt
  | .ff => .ff
  | .bool b => .bool b
  | .int k n => .int k n
  | .flt k n => .flt k n
  | .str s => .str s
  | .nilp => .nilp
  | .nils => .nils
  | .nili => .nili
  | .nilf => .nilf
def renL (θ : Nm → Nm) : List SV → List SV
  | [] => []
  | v :: r => v.ren θ :: renL θ r
end

mutual
theorem SV.ren_den (ρ : Rho) (θ : Nm → Nm) : ∀ v : SV, (v.ren θ).den ρ = v.den fun i => ρ (θ i)
  | .ptr n o => by simp [SV.ren, SV.den, Rho.addr]
  | .slc n o l c => by simp [SV.ren, SV.den, Rho.addr]
  | .slcc n l => by simp [SV.ren, SV.den, Rho.addr, Rho.cap]
  | .agg cs => by simp [SV.ren, SV.den, renL_den ρ θ cs]
  | .tup cs => by simp [SV.ren, SV.den, renL_den ρ θ cs]
  | .ifc t v => by simp [SV.ren, SV.den, SV.ren_den ρ θ v]
  | .fn f a c => by simp [SV.ren, SV.den, renL_den ρ θ a, renL_den ρ θ c]
  | .tt | .ff | .bool _ | .int _ _ | .flt _ _ | .str _ | .nilp | .nils | .nili | .nilf => by simp [SV.ren, SV.den]
theorem renL_den (ρ : Rho) (θ : Nm → Nm) : ∀ l : List SV, denL ρ (renL θ l) = denL (fun i => ρ (θ i)) l
  | [] => by simp [renL, denL]
  | v :: r => by simp [renL, denL, SV.ren_den ρ θ v, renL_den ρ θ r]
end

mutual
theorem SV.ren_bd {U V : Nm → Prop} {θ : Nm → Nm} (h : ∀ n, U n → V (θ n)) : ∀ v : SV, v.bd U → (v.ren θ).bd V
  | .ptr n o => by simpa [SV.ren, SV.bd] using h n
  | .slc n o l c => by simpa [SV.ren, SV.bd] using h n
  | .slcc n l => by simpa [SV.ren, SV.bd] using h n
  | .agg cs => by simpa [SV.ren, SV.bd] using renL_bd h cs
  | .tup cs => by simpa [SV.ren, SV.bd] using renL_bd h cs
  | .ifc t v => by simpa [SV.ren, SV.bd] using SV.ren_bd h v
  | .fn f a c => by simpa [SV.ren, SV.bd] using fun h1 h2 => ⟨renL_bd h a h1, renL_bd h c h2⟩
  | .tt | .ff | .bool _ | .int _ _ | .flt _ _ | .str _ | .nilp | .nils | .nili | .nilf => by simp [SV.ren, SV.bd]
theorem renL_bd {U V : Nm → Prop} {θ : Nm → Nm} (h : ∀ n, U n → V (θ n)) : ∀ l : List SV, bdL U l → bdL V (renL θ l)
  | [] => by simp [renL, bdL]
  | v :: r => by simpa [renL, bdL] using fun h1 h2 => ⟨SV.ren_bd h v h1, renL_bd h r h2⟩
end

theorem renL_len (θ : Nm → Nm) : ∀ l : List SV, (renL θ l).length = l.length
  | [] => rfl
  | v :: r => by simp [renL, renL_len θ r]
theorem renL_get (θ : Nm → Nm) : ∀ (l : List SV) (i : Nat), i < l.length → (getL (renL θ l) i).getD .nilp = ((getL l i).getD .nilp).ren θ
  | [], i, h => by simp at h
  | v :: r, 0, _ => by simp [renL, getL]
  | v :: r, i + 1, h => by simpa [renL, getL] using renL_get θ r i (by simpa using h)

def Cont.ren (θ : Nm → Nm) : Cont → Cont
  | .cells l => .cells (renL θ l)
  | .ints k n g => .ints k n g
  | .flts k n g => .flts k n g
  | .gen n f => .gen n fun i => (f i).ren θ

theorem Cont.ren_spec (θ : Nm → Nm) (c : Cont) : (c.ren θ).size = c.size ∧ ∀ i, i < c.size → (c.ren θ).at i = (c.at i).ren θ := by
  cases c with
  | cells l => exact ⟨by simp [Cont.ren, Cont.size, renL_len], fun i hi => by simp only [Cont.ren, Cont.at]; exact renL_get θ l i hi⟩
  | ints k n g => exact ⟨rfl, fun i hi => by simp [Cont.ren, Cont.at, SV.ren]⟩
  | flts k n g => exact ⟨rfl, fun i hi => by simp [Cont.ren, Cont.at, SV.ren]⟩
  | gen n f => exact ⟨rfl, fun i hi => rfl⟩

def Ob.ren (θ : Nm → Nm) (o : Ob) : Ob := ⟨o.rw, o.elem, o.c.ren θ, o.es⟩
def renH (θ : Nm → Nm) : Heap → Heap
  | [] => []
  | (n, o) :: r => (θ n, o.ren θ) :: renH θ r

theorem look_ren {θ : Nm → Nm} {n : Nm} {o : Ob} : ∀ {h : Heap}, look (renH θ h) n = some o → ∃ i o0, look h i = some o0 ∧ θ i = n ∧ o = o0.ren θ
  | [], h => by simp [renH, look] at h
  | (m, u) :: r, h => by
    simp only [renH, look_cons] at h
    split at h
    · rename_i e
      simp only [Option.some.injEq] at h
      exact ⟨m, u, by simp [look_cons], e, h.symm⟩
    · rename_i e
      obtain ⟨i, o0, h1, h2, h3⟩ := look_ren h
      exact ⟨i, o0, by rw [look_cons, if_neg (fun e' => e (by rw [e', h2]))]; exact h1, h2, h3⟩

theorem look_ren_some {θ : Nm → Nm} {i : Nm} {o : Ob} : ∀ {h : Heap}, look h i = some o → ∃ o', look (renH θ h) (θ i) = some o'
  | [], h => by simp [look] at h
  | (m, u) :: r, h => by
    rw [look_cons] at h
    simp only [renH, look_cons]
    split
    · exact ⟨_, rfl⟩
    · rename_i e
      split at h
      · rename_i e'; subst e'; exact absurd rfl e
      · exact look_ren_some h

/-! ### What a contract reads, and what it gives -/
structure HC where
  args : List SV
  heap : Heap
  val : SV
  wr : Heap
  news : Heap
  obl : Option Prop

inductive RdM where
  | fail
  | ret (hc : HC)
  | read (n : Nm) (k : Ob → RdM)

def RdM.run (rd : Nm → Option Ob) : RdM → List Nm → Option (List Nm × HC)
  | .fail, _ => none
  | .ret hc, sg => some (sg, hc)
  | .read n k, sg => match rd n with
    | some o => (k o).run rd (sg ++ [n])
    | none => none

/-- What holds of all that it may come to. -/
def RdM.All (Q : List (Nm × Ob) → HC → Prop) : RdM → List (Nm × Ob) → Prop
  | .fail, _ => True
  | .ret hc, acc => Q acc hc
  | .read n k, acc => ∀ o, (k o).All Q (acc ++ [(n, o)])

def fsts : List (Nm × Ob) → List Nm
  | [] => []
  | (n, _) :: r => n :: fsts r
theorem fsts_append : ∀ a b, fsts (a ++ b) = fsts a ++ fsts b
  | [], b => rfl
  | (n, o) :: r, b => by simp [fsts, fsts_append r b]

theorem RdM.all_run {rd : Nm → Option Ob} {Q : List (Nm × Ob) → HC → Prop} : ∀ {m : RdM} {acc : List (Nm × Ob)} {sg : List Nm} {hc : HC}, m.All Q acc → (∀ p ∈ acc, rd p.1 = some p.2) → m.run rd (fsts acc) = some (sg, hc) →
    ∃ acc', fsts acc' = sg ∧ (∀ p ∈ acc', rd p.1 = some p.2) ∧ Q acc' hc
  | .fail, _, _, _, _, _, h => by simp [RdM.run] at h
  | .ret hc', acc, sg, hc, hq, hacc, h => by
    simp only [RdM.run, Option.some.injEq, Prod.mk.injEq] at h
    obtain ⟨rfl, rfl⟩ := h
    exact ⟨acc, rfl, hacc, hq⟩
  | .read n k, acc, sg, hc, hq, hacc, h => by
    simp only [RdM.run] at h
    split at h
    · rename_i o ho
      refine RdM.all_run (hq o) (acc := acc ++ [(n, o)]) (fun p hp => ?_) (by rw [fsts_append]; exact h)
      rcases List.mem_append.1 hp with hp | hp
      · exact hacc p hp
      · simp only [List.mem_singleton] at hp; subst hp; exact ho
    · cases h

theorem RdM.run_sg {rd : Nm → Option Ob} : ∀ {m : RdM} {sg sg' : List Nm} {hc : HC}, m.run rd sg = some (sg', hc) → ∀ n ∈ sg, n ∈ sg'
  | .fail, _, _, _, h => by simp [RdM.run] at h
  | .ret hc', sg, sg', hc, h => by
    simp only [RdM.run, Option.some.injEq, Prod.mk.injEq] at h
    obtain ⟨rfl, rfl⟩ := h
    exact fun n hn => hn
  | .read n k, sg, sg', hc, h => by
    simp only [RdM.run] at h
    split at h
    · exact fun m hm => RdM.run_sg h m (List.mem_append_left _ hm)
    · cases h

theorem RdM.run_loc {rd rd' : Nm → Option Ob} : ∀ {m : RdM} {sg sg' : List Nm} {hc : HC}, m.run rd sg = some (sg', hc) → (∀ n ∈ sg', rd' n = rd n) → m.run rd' sg = some (sg', hc)
  | .fail, _, _, _, h, _ => by simp [RdM.run] at h
  | .ret hc', sg, sg', hc, h, _ => h
  | .read n k, sg, sg', hc, h, hr => by
    simp only [RdM.run] at h ⊢
    split at h
    · rename_i o ho
      have hn : n ∈ sg' := RdM.run_sg h n (by simp)
      rw [hr n hn, ho]
      exact RdM.run_loc h hr
    · cases h

def theta (sg : List Nm) (nm : Nm) : Nm → Nm := fun i => match nth sg i with
  | some n => n
  | none => nm + (i - sg.length)

def conR (C : List SV → RdM) : Con := fun args rd nm => match (C args).run rd [] with
  | some (sg, hc) => match distN sg with
    | true => some ⟨some (hc.val.ren (theta sg nm)), renH (theta sg nm) hc.wr, renH (theta sg nm) hc.news, sg, hc.obl⟩
    | false => none
  | none => none

/-- The pieces that were read are those that the call begins with. -/
def preR (σ : Sig) (N : Nat) : Nat → List (Nm × Ob) → Heap → Prop
  | _, [], [] => True
  | i, (_, o) :: r, (j, o') :: r' => Nat.beq i j = true ∧ o'.c.und N ∧ obR σ o o' ∧ preR σ N (i + 1) r r'
  | _, _, _ => False

/-- Written: only what came in to be written, and all of that. New: only what may be written. -/
def keysLt (k : Nat) (H0 : Heap) : Heap → Bool
  | [] => true
  | (i, _) :: r => (Nat.blt i k && match look H0 i with
    | some o => o.rw
    | none => false) && keysLt k H0 r
def keysGe (k : Nat) : Heap → Bool
  | [] => true
  | (i, o) :: r => (Nat.ble k i && Nat.blt i (k + 4) && o.rw) && keysGe k r
def rwIn (wr : Heap) : Heap → Bool
  | [] => true
  | (i, o) :: r => (match o.rw with
    | true => match look wr i with
      | some _ => true
      | none => false
    | false => true) && rwIn wr r

def sgSig (sg : List Nm) : Sig := fun i => nth sg i
def tauSig (k : Nat) (tau : List (Option Nm)) : Sig := fun i => match Nat.blt i k with
  | true => some i
  | false => match nth tau (i - k) with
    | some x => x
    | none => none

structure PostOk (k : Nat) (hc : HC) (S : St) (v : SV) (tau : List (Option Nm)) : Prop where
  val : eqvR (tauSig k tau) v hc.val
  vu : hc.val.und (k + 4) = true
  hp : heapR (tauSig k tau) S.H (k + 4) (hc.wr ++ hc.news)
  dist : distN (images (tauSig k tau) (hc.wr ++ hc.news)) = true

structure CallOkW (P : Program) (G : Ctx) (c : Code) (fn : Func) (args : List SV) (acc : List (Nm × Ob)) (hc : HC) : Prop where
  args : eqvRL (sgSig (fsts acc)) args hc.args
  argsU : undL acc.length hc.args = true
  argsN : Nat.ble hc.args.length fn.ntmps = true
  pre : preR (sgSig (fsts acc)) acc.length 0 acc hc.heap
  wr : keysLt acc.length hc.heap hc.wr = true
  news : keysGe acc.length hc.news = true
  rw : rwIn hc.wr hc.heap = true
  run : Wp P acc.length c (init fn.ntmps hc.args hc.heap acc.length) (endK G.E.T fn.results.toList fun S v => ∃ tau, PostOk acc.length hc S v tau)

structure CallOk (G : Ctx) (c : Code) (fn : Func) (args : List SV) (acc : List (Nm × Ob)) (hc : HC) : Prop where
  args : eqvRL (sgSig (fsts acc)) args hc.args
  argsU : undL acc.length hc.args = true
  argsN : Nat.ble hc.args.length fn.ntmps = true
  pre : preR (sgSig (fsts acc)) acc.length 0 acc hc.heap
  wr : keysLt acc.length hc.heap hc.wr = true
  news : keysGe acc.length hc.news = true
  rw : rwIn hc.wr hc.heap = true
  run : runC G acc.length c (init fn.ntmps hc.args hc.heap acc.length) (endK G.E.T fn.results.toList fun S v => ∃ tau, PostOk acc.length hc S v tau)

theorem fsts_len : ∀ a, (fsts a).length = a.length
  | [] => rfl
  | (n, o) :: r => by simp [fsts, fsts_len r]

theorem fsts_get : ∀ (a : List (Nm × Ob)) (i : Nat), nth (fsts a) i = (a[i]?).map (·.1)
  | [], i => by simp [fsts, nth]
  | (n, o) :: r, 0 => by simp [fsts, nth]
  | (n, o) :: r, i + 1 => by simp [fsts, nth, fsts_get r i]

theorem preR_heapR {σ : Sig} {N : Nat} {H : Heap} : ∀ {i : Nat} {acc : List (Nm × Ob)} {h : Heap}, preR σ N i acc h → (∀ p ∈ acc, look H p.1 = some p.2) → (∀ j, j < acc.length → σ (i + j) = (acc[j]?).map (·.1)) → i + acc.length ≤ N → heapR σ H N h
  | _, [], [], _, _, _, _ => trivial
  | _, [], _ :: _, h, _, _, _ => by simp [preR] at h
  | _, _ :: _, [], h, _, _, _ => by simp [preR] at h
  | i, (n, o) :: r, (j, o') :: r', h, hl, hs, hN => by
    obtain ⟨h1, h2, h3, h4⟩ := h
    have hij := Nat.eq_of_beq_eq_true h1
    subst hij
    have h0 := hs 0 (by simp)
    simp only [Nat.add_zero, List.getElem?_cons_zero, Option.map_some] at h0
    simp only [heapR]
    refine ⟨⟨?_, h2, ?_⟩, preR_heapR h4 (fun p hp => hl p (by simp [hp])) (fun j hj => by
      have := hs (j + 1) (by simpa using hj)
      simpa [Nat.add_assoc, Nat.add_comm 1 j] using this) (by simp at hN; omega)⟩
    · refine Nat.ble_eq_true_of_le ?_
      simp at hN; omega
    · rw [h0]
      have := hl (n, o) (by simp)
      simp only at this
      simp only [this]
      exact h3

theorem preR_keys {σ : Sig} {N : Nat} : ∀ {i : Nat} {acc : List (Nm × Ob)} {h : Heap}, preR σ N i acc h → ∀ (j : Nat) o, look h j = some o → i ≤ j ∧ j < i + acc.length
  | _, [], [], _, j, o, h => by simp [look] at h
  | _, [], _ :: _, h, _, _, _ => by simp [preR] at h
  | _, _ :: _, [], h, _, _, _ => by simp [preR] at h
  | i, (n, o) :: r, (k, o') :: r', h, j, u, hu => by
    obtain ⟨h1, h2, h3, h4⟩ := h
    have hij := Nat.eq_of_beq_eq_true h1
    subst hij
    rw [look_cons] at hu
    split at hu
    · rename_i e; subst e; simp only [List.length_cons]; omega
    · have := preR_keys h4 j u hu
      simp only [List.length_cons]
      omega

theorem images_dist {sg : List Nm} (hd : distN sg = true) {σ : Sig} {N : Nat} : ∀ {i : Nat} {acc : List (Nm × Ob)} {h : Heap}, preR σ N i acc h → (∀ j, j < acc.length → σ (i + j) = (acc[j]?).map (·.1)) → images σ h = fsts acc
  | _, [], [], _, _ => rfl
  | _, [], _ :: _, h, _ => by simp [preR] at h
  | _, _ :: _, [], h, _ => by simp [preR] at h
  | i, (n, o) :: r, (k, o') :: r', h, hs => by
    obtain ⟨h1, h2, h3, h4⟩ := h
    have hij := Nat.eq_of_beq_eq_true h1
    subst hij
    have h0 := hs 0 (by simp)
    simp only [Nat.add_zero, List.getElem?_cons_zero, Option.map_some] at h0
    simp only [images, h0, fsts]
    rw [images_dist hd h4 (fun j hj => by
      have := hs (j + 1) (by simpa using hj)
      simpa [Nat.add_assoc, Nat.add_comm 1 j] using this)]

theorem keysLt_spec {k : Nat} {H0 : Heap} : ∀ {h : Heap}, keysLt k H0 h = true → ∀ (i : Nat) o, look h i = some o → i < k ∧ ∃ o0, look H0 i = some o0 ∧ o0.rw = true
  | [], _, i, o, h => by simp [look] at h
  | (m, u) :: r, h, i, o, hi => by
    simp only [keysLt, Bool.and_eq_true] at h
    rw [look_cons] at hi
    split at hi
    · rename_i e; subst e
      refine ⟨blt_lt h.1.1, ?_⟩
      have h2 := h.1.2
      split at h2
      · rename_i o0 h0; exact ⟨o0, h0, h2⟩
      · cases h2
    · exact keysLt_spec h.2 i o hi

theorem keysGe_spec {k : Nat} : ∀ {h : Heap}, keysGe k h = true → ∀ (i : Nat) o, look h i = some o → k ≤ i ∧ i < k + 4 ∧ o.rw = true
  | [], _, i, o, h => by simp [look] at h
  | (m, u) :: r, h, i, o, hi => by
    simp only [keysGe, Bool.and_eq_true] at h
    rw [look_cons] at hi
    split at hi
    · rename_i e; subst e
      simp only [Option.some.injEq] at hi
      subst hi
      exact ⟨Nat.le_of_ble_eq_true h.1.1.1, blt_lt h.1.1.2, h.1.2⟩
    · exact keysGe_spec h.2 i o hi

theorem rwIn_spec {wr : Heap} : ∀ {h : Heap}, rwIn wr h = true → ∀ i o, look h i = some o → o.rw = true → ∃ o', look wr i = some o'
  | [], _, i, o, h, _ => by simp [look] at h
  | (m, u) :: r, h, i, o, hi, hr => by
    simp only [rwIn, Bool.and_eq_true] at h
    rw [look_cons] at hi
    split at hi
    · rename_i e; subst e
      simp only [Option.some.injEq] at hi
      subst hi
      have h1 := h.1
      rw [hr] at h1
      simp only at h1
      split at h1
      · rename_i o' ho'; exact ⟨o', ho'⟩
      · cases h1
    · exact rwIn_spec h.2 i o hi hr

theorem Ob.ren_sat {w : World} {ρ ρ2 : Rho} {θ : Nm → Nm} {N : Nat} {o : Ob} {p : Option (Nat × Nat × Nat)} (h : OSat w ρ o p) (hb : o.c.bd (· < N)) (hθ : ∀ i, i < N → ρ2 (θ i) = ρ i) : OSat w ρ2 (o.ren θ) p := by
  obtain ⟨h1, h2⟩ := Cont.ren_spec θ o.c
  have hd : ∀ i, i < o.c.size → ((o.c.ren θ).at i).den ρ2 = (o.c.at i).den ρ := fun i hi => by
    rw [h2 i hi, SV.ren_den]
    exact SV.den_congr (U := (· < N)) hθ _ (hb i hi)
  cases p with
  | none =>
    have h0 : o.c.size = 0 := h
    show (o.c.ren θ).size = 0
    omega
  | some q =>
    obtain ⟨b, off, cp⟩ := q
    refine ⟨fun i hi => ?_, fun hr => ?_⟩
    · have hi' : i < o.c.size := by rw [← h1]; exact hi
      show _ = some (((o.c.ren θ).at i).den ρ2)
      rw [hd i hi']
      exact h.1 i hi'
    · obtain ⟨h3, arr, h4, h5⟩ := h.2 hr
      refine ⟨h3, arr, h4, ?_⟩
      show (o.c.ren θ).size ≤ _ ∧ _
      rw [h1]
      exact h5

theorem conR_okW {P : Program} {G : Ctx} (hG : CtxOk P G) {f : Nat} {fn : Func} {c : Code} (hf : P.funcs[f]? = some fn) (hb : fn.body = some c) (hnm : (fn.name == "runtime.NumGoroutine") = false) {C : List SV → RdM}
    (h : ∀ args, (C args).All (fun acc hc => okP hc.obl → CallOkW P G c fn args acc hc) []) : ConOk P f (conR C) where
  loc := by
    intro args rd rd' nm e hc hr
    unfold conR at *
    split at hc
    · rename_i sg hc0 hrun
      split at hc
      · rename_i hd
        have he := hc
        simp only [Option.some.injEq] at he
        subst he
        simp only [RdM.run_loc hrun hr, hd]
      · cases hc
    · cases hc
  calls := by
    intro W0 Fr U H ρ w nm args e hH hbd hn hc ho
    unfold conR at hc
    split at hc
    case h_2 => cases hc
    rename_i sg hc0 hrun
    split at hc
    case h_2 => cases hc
    rename_i hd
    simp only [Option.some.injEq] at hc
    subst hc
    obtain ⟨acc, hacc, hlook, hQ⟩ := RdM.all_run (rd := look H) (h args) (acc := []) (by simp) hrun
    have hcall := hQ ho
    subst hacc
    have hσ : ∀ j, j < acc.length → sgSig (fsts acc) (0 + j) = (acc[j]?).map (·.1) := fun j _ => by rw [Nat.zero_add]; exact fsts_get acc j
    have hhp : heapR (sgSig (fsts acc)) H acc.length hc0.heap := preR_heapR hcall.pre hlook hσ (by omega)
    have hs0 := hH.other hhp (by rw [images_dist hd hcall.pre hσ]; exact hd)
    -- where the call may not write
    let ρc : Rho := ρ.under (sgSig (fsts acc))
    let Frc : Nat → Prop := fun b => b < w.heap.size ∧ ∀ i o p, look hc0.heap i = some o → o.rw = true → ρc i = some p → p.1 ≠ b
    have hs1 : HSat w Frc (· < acc.length) hc0.heap ρc w :=
      { hs0 with
        os := rfl, tape := rfl, output := rfl, size := Nat.le_refl _
        frlt := fun b hb => hb.1
        frame := fun _ _ => rfl
        free := fun n o p hn hr hp hF => hF.2 n o p hn hr hp rfl }
    have hargs : denL ρ args = denL ρc hc0.args := eqvRL_den ρ _ _ _ hcall.args
    refine .inl ⟨⟨fn, hf, hnm, by rw [hb]; rfl⟩, ?_⟩
    refine calls_of_wp hf hb ?_
    rw [hargs]
    refine hcall.run w Frc ρc ρc _ w _ (sat_init hs1 (undL_bd _ hcall.argsU) (Nat.le_of_ble_eq_true hcall.argsN)) (Nat.le_refl _) (fun _ _ => rfl) ?_
    intro e S' ρ' a' w' hK hS hN hρ
    have fin : retK G.E.T fn.results.toList (fun S v => ∃ tau, PostOk acc.length hc0 S v tau) S' → a'.defers = [] ∧ ∃ u, (results fn a'.tmps).run P w' = .ok u w' ∧
        (∃ ρ2, (∀ n, U n → ρ2 n = ρ n) ∧ HSat W0 Fr (UU U nm) (renH (theta (fsts acc) nm) hc0.wr ++ (renH (theta (fsts acc) nm) hc0.news ++ H)) ρ2 w' ∧
          ∃ v, some (hc0.val.ren (theta (fsts acc) nm)) = some v ∧ v.bd (UU U nm) ∧ Ending.returned u = .returned (v.den ρ2)) := by
      intro hr
      unfold retK at hr
      split at hr
      case h_2 => exact hr.elim
      rename_i vs q hvs
      obtain ⟨hq, tau, hpost⟩ := okK_iff hr
      obtain ⟨h5, h6⟩ := resS_sound hG.E.T hS hvs hq
      refine ⟨hS.s.nd, _, h5, ?_⟩
      have hp := hS.h.other hpost.hp hpost.dist
      let ρp : Rho := ρ'.under (tauSig acc.length tau)
      have hpk : ∀ i : Nat, i < acc.length → ρp i = ρc i := by
        intro i hi
        show (match tauSig acc.length tau i with | some m => ρ' m | none => none) = _
        have : tauSig acc.length tau i = some i := by
          unfold tauSig
          rw [show Nat.blt i acc.length = true from Nat.ble_eq_true_of_le hi]
        rw [this]
        exact hρ i hi
      classical
      let ρ2 : Rho := fun n => if U n then ρ n else if nm ≤ n ∧ n < nm + 4 then ρp (acc.length + (n - nm)) else ρ n
      have hρU : ∀ n, U n → ρ2 n = ρ n := fun n hU => if_pos hU
      let θ := theta (fsts acc) nm
      have hθlo : ∀ i : Nat, i < acc.length → ∃ n o, acc[i]? = some (n, o) ∧ θ i = n ∧ look H n = some o := by
        intro i hi
        have hg := fsts_get acc i
        have he : acc[i]? = some acc[i] := List.getElem?_eq_getElem hi
        rw [he] at hg
        refine ⟨acc[i].1, acc[i].2, he, ?_, hlook acc[i] (List.getElem_mem hi)⟩
        show theta (fsts acc) nm i = _
        unfold theta
        rw [hg]; rfl
      have hθhi : ∀ i : Nat, acc.length ≤ i → θ i = nm + (i - acc.length) := by
        intro i hi
        have hg := fsts_get acc i
        rw [List.getElem?_eq_none hi] at hg
        show theta (fsts acc) nm i = _
        unfold theta
        rw [hg]
        simp [fsts_len]
      have hθ : ∀ i : Nat, i < acc.length + 4 → ρ2 (θ i) = ρp i := by
        intro i hi
        by_cases hk : i < acc.length
        · obtain ⟨n, o, h1, h2, h3⟩ := hθlo i hk
          rw [h2, hρU n (hH.used n o h3), hpk i hk]
          show ρ n = (match sgSig (fsts acc) i with | some m => ρ m | none => none)
          have : sgSig (fsts acc) i = some n := by
            show nth (fsts acc) i = _
            rw [fsts_get, h1]; rfl
          rw [this]
        · rw [hθhi i (by omega)]
          have hnU : ¬ U (nm + (i - acc.length)) := hn (i - acc.length) (show ((i - acc.length : Nat) < 4) by omega)
          show (if U _ then _ else if _ then _ else _) = _
          rw [if_neg hnU, if_pos ⟨Nat.le_add_right _ _, Nat.add_lt_add_left (show i - acc.length < 4 by omega) nm⟩]
          congr 1
          show acc.length + (nm + (i - acc.length) - nm) = i
          omega
      have hθU : ∀ i : Nat, i < acc.length + 4 → UU U nm (θ i) := by
        intro i hi
        by_cases hk : i < acc.length
        · obtain ⟨n, o, h1, h2, h3⟩ := hθlo i hk
          rw [h2]; exact .inl (hH.used n o h3)
        · rw [hθhi i (by omega)]
          exact .inr ⟨Nat.le_add_right _ _, Nat.add_lt_add_left (show i - acc.length < 4 by omega) nm⟩
      -- an entry of the memory afterwards
      have keyLt : ∀ (i : Nat) o, look (hc0.wr ++ hc0.news) i = some o → i < acc.length + 4 := by
        intro i o hi
        exact hp.used i o hi
      have ent : ∀ n o, look (renH θ hc0.wr ++ (renH θ hc0.news ++ H)) n = some o →
          (∃ i o0, look (hc0.wr ++ hc0.news) i = some o0 ∧ θ i = n ∧ o = o0.ren θ) ∨ (look H n = some o ∧ look (renH θ hc0.wr) n = none) := by
        intro n o hno
        rw [look_append] at hno
        split at hno
        · rename_i o1 h1
          simp only [Option.some.injEq] at hno
          subst hno
          obtain ⟨i, o0, h2, h3, h4⟩ := look_ren h1
          exact .inl ⟨i, o0, by rw [look_append, h2], h3, h4⟩
        · rename_i h1
          rw [look_append] at hno
          split at hno
          · rename_i o1 h2
            simp only [Option.some.injEq] at hno
            subst hno
            obtain ⟨i, o0, h3, h4, h5⟩ := look_ren h2
            refine .inl ⟨i, o0, ?_, h4, h5⟩
            rw [look_append]
            cases hw : look hc0.wr i with
            | none => exact h3
            | some o2 =>
              have ha := (keysLt_spec hcall.wr i o2 hw).1
              have hb' := (keysGe_spec hcall.news i o0 h3).1
              omega
          · exact .inr ⟨hno, h1⟩
      -- the pieces of the call, as they were
      have orig : ∀ i o p, look hc0.heap i = some o → o.rw = true → ρc i = some p → ∃ n o1, look H n = some o1 ∧ o1.rw = true ∧ ρ n = some p ∧ θ i = n := by
        intro i o p hi hr hpi
        obtain ⟨h1, _, h2⟩ := heapR_spec hhp i o hi
        rcases h2 with ⟨m, o1, h3, h4, h5⟩ | ⟨h3, _⟩
        · refine ⟨m, o1, h4, ((obR_spec h5).2 hr).1, ?_, ?_⟩
          · have : ρc i = ρ m := by
              show (match sgSig (fsts acc) i with | some m => ρ m | none => none) = _
              rw [h3]
            rw [← this]; exact hpi
          · show theta (fsts acc) nm i = m
            unfold theta
            have : nth (fsts acc) i = some m := h3
            rw [this]
        · have : ρc i = none := by
            show (match sgSig (fsts acc) i with | some m => ρ m | none => none) = _
            rw [h3]
          rw [this] at hpi; cases hpi
      have oldFr : ∀ n o p, look H n = some o → look (renH θ hc0.wr) n = none → (o.rw = true ∨ 0 < o.c.size) → ρ n = some p → Frc p.1 := by
        intro n o p hno hnw hor hpn
        have hob := hH.obj n o hno
        rw [hpn] at hob
        refine ⟨?_, fun i o' p' hi hr hpi e => ?_⟩
        · rcases hor with hor | hor
          · exact OSat.lt (b := p.1) (off := p.2.1) (cp := p.2.2) hob hor
          · exact lt_of_cell (hob.1 0 hor)
        · obtain ⟨m, o1, h1, h2, h3, h4⟩ := orig i o' p' hi hr hpi
          obtain ⟨o2, ho2⟩ := rwIn_spec hcall.rw i o' hi hr
          obtain ⟨o3, ho3⟩ := look_ren_some (θ := θ) ho2
          have hne : m ≠ n := fun e' => by subst e'; rw [← h4, ho3] at hnw; cases hnw
          exact hH.inj m n o1 o p' p h1 hno hne h2 hor h3 hpn e
      have frSub : ∀ b, Fr b → Frc b := by
        intro b hF
        refine ⟨Nat.lt_of_lt_of_le (hH.frlt b hF) hH.size, fun i o p hi hr hpi e => ?_⟩
        obtain ⟨m, o1, h1, h2, h3, _⟩ := orig i o p hi hr hpi
        exact hH.free m o1 p h1 h2 h3 (e ▸ hF)
      have newFr : ∀ i o p, look (hc0.wr ++ hc0.news) i = some o → ρp i = some p → ¬ Frc p.1 := by
        intro i o p hi hpi hF
        have hi' := hi
        rw [look_append] at hi'
        split at hi'
        · rename_i o1 h1
          obtain ⟨h2, o0, h3, h4⟩ := keysLt_spec hcall.wr i o1 h1
          rw [hpk i h2] at hpi
          exact hF.2 i o0 p h3 h4 hpi rfl
        · obtain ⟨h2, h3, h4⟩ := keysGe_spec hcall.news i o hi'
          exact hp.free i o p hi h4 hpi hF
      refine ⟨ρ2, hρU, ?_, _, rfl, SV.ren_bd hθU _ (SV.und_bd _ hpost.vu), ?_⟩
      · refine {
          os := hS.h.os.trans hH.os, tape := hS.h.tape.trans hH.tape, output := hS.h.output.trans hH.output
          size := Nat.le_trans hH.size hS.h.size
          frlt := hH.frlt
          frame := fun b hF => (hS.h.frame b (frSub b hF)).trans (hH.frame b hF)
          used := fun n o hno => ?_
          bd := fun n o hno => ?_
          obj := fun n o hno => ?_
          inj := fun n1 n2 o1 o2 p q h1 h2 hne hr hr2 hp1 hq => ?_
          free := fun n o p hno hr hpn => ?_ }
        · rcases ent n o hno with ⟨i, o0, h1, rfl, h3⟩ | ⟨h1, _⟩
          · exact hθU i (keyLt i o0 h1)
          · exact .inl (hH.used n o h1)
        · rcases ent n o hno with ⟨i, o0, h1, rfl, rfl⟩ | ⟨h1, _⟩
          · intro j hj
            obtain ⟨hsz, hat⟩ := Cont.ren_spec θ o0.c
            have hj' : j < o0.c.size := by rw [← hsz]; exact hj
            show ((o0.c.ren θ).at j).bd _
            rw [hat j hj']
            exact SV.ren_bd hθU _ (hp.bd i o0 h1 j hj')
          · exact Cont.bd_mono UU_of (hH.bd n o h1)
        · rcases ent n o hno with ⟨i, o0, h1, rfl, rfl⟩ | ⟨h1, h2⟩
          · rw [hθ i (keyLt i o0 h1)]
            exact Ob.ren_sat (hp.obj i o0 h1) (hp.bd i o0 h1) hθ
          · rw [hρU n (hH.used n o h1)]
            refine (hH.obj n o h1).congr (fun b off cp hpn hor _ => ?_) (fun j hj => SV.den_congr hρU _ (hH.bd n o h1 j hj))
            exact hS.h.frame b (oldFr n o (b, off, cp) h1 h2 hor hpn)
        · rcases ent n1 o1 h1 with ⟨i1, o3, h3, rfl, rfl⟩ | ⟨h3, h4⟩
          · rw [hθ i1 (keyLt i1 o3 h3)] at hp1
            rcases ent n2 o2 h2 with ⟨i2, o4, h5, rfl, rfl⟩ | ⟨h5, h6⟩
            · rw [hθ i2 (keyLt i2 o4 h5)] at hq
              refine hp.inj i1 i2 o3 o4 p q h3 h5 (fun e => hne (by rw [e])) hr ?_ hp1 hq
              rcases hr2 with hr2 | hr2
              · exact .inl hr2
              · refine .inr ?_
                have := (Cont.ren_spec θ o4.c).1
                have h0 : 0 < (o4.c.ren θ).size := hr2
                omega
            · rw [hρU n2 (hH.used n2 o2 h5)] at hq
              intro e
              exact newFr i1 o3 p h3 hp1 (e ▸ oldFr n2 o2 q h5 h6 hr2 hq)
          · rw [hρU n1 (hH.used n1 o1 h3)] at hp1
            rcases ent n2 o2 h2 with ⟨i2, o4, h5, rfl, rfl⟩ | ⟨h5, h6⟩
            · rw [hθ i2 (keyLt i2 o4 h5)] at hq
              intro e
              exact newFr i2 o4 q h5 hq (e ▸ oldFr n1 o1 p h3 h4 (.inl hr) hp1)
            · rw [hρU n2 (hH.used n2 o2 h5)] at hq
              exact hH.inj n1 n2 o1 o2 p q h3 h5 hne hr hr2 hp1 hq
        · rcases ent n o hno with ⟨i, o0, h1, rfl, rfl⟩ | ⟨h1, _⟩
          · rw [hθ i (keyLt i o0 h1)] at hpn
            exact fun hF => newFr i o0 p h1 hpn (frSub _ hF)
          · rw [hρU n (hH.used n o h1)] at hpn
            exact hH.free n o p h1 hr hpn
      · congr 1
        rw [eqvR_den ρ' _ _ _ hpost.val, SV.ren_den]
        exact (SV.den_congr (U := (· < acc.length + 4)) hθ _ (SV.und_bd _ hpost.vu)).symm
    cases e with
    | normal => exact fin hK
    | ret => exact fin hK
    | exit id => exact hK.elim


theorem RdM.All.imp {Q Q' : List (Nm × Ob) → HC → Prop} (hq : ∀ acc hc, Q acc hc → Q' acc hc) : ∀ {m : RdM} {acc : List (Nm × Ob)}, m.All Q acc → m.All Q' acc
  | .fail, _, _ => trivial
  | .ret _, _, h => hq _ _ h
  | .read _ _, _, h => fun o => RdM.All.imp hq (h o)

theorem conR_ok {P : Program} {G : Ctx} (hG : CtxOk P G) {f : Nat} {fn : Func} {c : Code} (hf : P.funcs[f]? = some fn) (hb : fn.body = some c) (hnm : (fn.name == "runtime.NumGoroutine") = false) {C : List SV → RdM}
    (h : ∀ args, (C args).All (fun acc hc => okP hc.obl → CallOk G c fn args acc hc) []) : ConOk P f (conR C) :=
  conR_okW hG hf hb hnm fun args => (h args).imp fun _ _ hc ho =>
    let hk := hc ho
    ⟨hk.args, hk.argsU, hk.argsN, hk.pre, hk.wr, hk.news, hk.rw, Wp.run hG hk.run⟩

end Go.Sx
