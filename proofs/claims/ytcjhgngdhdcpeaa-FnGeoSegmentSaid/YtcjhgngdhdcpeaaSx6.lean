/- Reading and writing named memory. -/
import Derived.Test.YtcjhgngdhdcpeaaSx5
namespace Go.Sx
open Go.RowKit

def Cont.get (c : Cont) (i : Nat) : Option SV :=
  match c with
  | .cells l => getL l i
  | .ints k _ g => some (.int k (g i))
  | .flts k _ g => some (.flt k (g i))
  | .gen _ f => some (f i)

/-- The n cells from i on. -/
def Cont.getN (c : Cont) : (i n : Nat) → Option (List SV)
  | _, 0 => some []
  | i, n + 1 => match c.get i with
    | some v => match c.getN (i + 1) n with
      | some r => some (v :: r)
      | none => none
    | none => none

/-- i up to i + n lies within (a list of cells says so by itself). -/
def Cont.inb (c : Cont) (i n : Nat) : Prop :=
  match c with
  | .cells _ => True
  | .ints _ m _ => i + n ≤ m
  | .flts _ m _ => i + n ≤ m
  | .gen m _ => i + n ≤ m

/-- The same as an obligation: none for a list of cells. -/
def Cont.inbO (c : Cont) (i n : Nat) : Option Prop :=
  match c with
  | .cells _ => none
  | .ints _ m _ => some (i + n ≤ m)
  | .flts _ m _ => some (i + n ≤ m)
  | .gen m _ => some (i + n ≤ m)
theorem Cont.inbO_ok {c : Cont} {i n : Nat} (h : okP (c.inbO i n)) : c.inb i n := by
  cases c <;> first | trivial | exact h

theorem Cont.get_spec {c : Cont} {i : Nat} {v : SV} (h : c.get i = some v) (hb : c.inb i 1) : i < c.size ∧ c.at i = v := by
  cases c with
  | cells l =>
    simp only [Cont.get, getL_eq] at h
    obtain ⟨hl, he⟩ := List.getElem?_eq_some_iff.1 h
    exact ⟨hl, by simp [Cont.at, getL_eq, h]⟩
  | ints k n g => simp only [Cont.get, Option.some.injEq] at h; exact ⟨hb, h⟩
  | flts k n g => simp only [Cont.get, Option.some.injEq] at h; exact ⟨hb, h⟩
  | gen n f => simp only [Cont.get, Option.some.injEq] at h; exact ⟨hb, h⟩

theorem Cont.inb_head {c : Cont} {i n : Nat} (h : c.inb i (n + 1)) : c.inb i 1 ∧ c.inb (i + 1) n := by
  cases c <;> simp_all [Cont.inb] <;> omega

theorem Cont.getN_spec {c : Cont} : ∀ {n i : Nat} {vs : List SV}, c.getN i n = some vs → c.inb i n → vs.length = n ∧ ∀ j v, vs[j]? = some v → i + j < c.size ∧ c.at (i + j) = v
  | 0, i, vs, h, _ => by simp only [Cont.getN, Option.some.injEq] at h; subst h; simp
  | n + 1, i, vs, h, hb => by
    simp only [Cont.getN] at h
    split at h
    · rename_i v hv
      split at h
      · rename_i r hr
        simp only [Option.some.injEq] at h
        subst h
        obtain ⟨h1, h2⟩ := Cont.inb_head hb
        obtain ⟨h3, h4⟩ := Cont.getN_spec hr h2
        refine ⟨by simp [h3], fun j u hu => ?_⟩
        cases j with
        | zero => simp at hu; subst hu; simpa using Cont.get_spec hv h1
        | succ j =>
          simp at hu
          have := h4 j u hu
          rw [show i + (j + 1) = i + 1 + j by omega]
          exact this
      · cases h
    · cases h

theorem run_loadCellsFrom {P : Program} {w : World} {b o : Nat} : ∀ (vs : List Value) (i : Nat) (acc : Array Value), (∀ j v, vs[j]? = some v → w.cell? ⟨b, o + (i + j), none⟩ = some v) →
    (loadCellsFrom ⟨b, o, none⟩ i vs.length acc).run P w = .ok (acc ++ vs.toArray) w
  | [], i, acc, _ => by simp [loadCellsFrom]
  | v :: r, i, acc, h => by
    have h0 := h 0 v rfl
    simp only [List.length_cons, loadCellsFrom, Sem.run_bind, run_load, Addr.add_lit]
    rw [show o + (i + 0) = o + i by omega] at h0
    rw [h0]
    simp only [Result.andThen_ok]
    rw [run_loadCellsFrom r (i + 1) (acc.push v) (fun j u hu => by
      have := h (j + 1) u (by simpa using hu)
      rw [show o + (i + (j + 1)) = o + (i + 1 + j) by omega] at this
      exact this)]
    simp

theorem run_loadCells {P : Program} {w : World} {b o : Nat} (vs : List Value) (h : ∀ j v, vs[j]? = some v → w.cell? ⟨b, o + j, none⟩ = some v) :
    (loadCells ⟨b, o, none⟩ vs.length).run P w = .ok vs.toArray w := by
  unfold loadCells
  rw [run_loadCellsFrom vs 0 #[] (fun j v hv => by simpa using h j v hv)]
  simp

/-- A type whose values lie in several cells. -/
def TI.isAgg (ti : TI) : Bool :=
  match ti.tk with
  | .struct _ => true
  | .array _ _ => true
  | _ => false

theorem TOk.isAgg' {P : Program} {t : Nat} {ti : TI} (h : TOk P t ti) (w : World) : (Go.isAgg t).run P w = .ok ti.isAgg w := by
  rw [h.isAgg w]; rfl

/-- A variable of a type, read at i. -/
def evLoad (ti : TI) (c : Cont) (i : Nat) : Option (SV × Option Prop) :=
  match ti.isAgg with
  | true => match c.getN i ti.size with
    | some vs => some (.agg vs, c.inbO i ti.size)
    | none => none
  | false => match c.get i with
    | some v => some (v, c.inbO i 1)
    | none => none

section
variable {P : Program} {W0 : World} {Fr : Nat → Prop} {U : Nm → Prop} {H : Heap} {ρ : Rho} {w : World}

theorem HSat.cell (hH : HSat W0 Fr U H ρ w) {n : Nm} {o : Ob} (hn : look H n = some o) {i : Nat} (hi : i < o.c.size) : ∃ b off cp, ρ n = some (b, off, cp) ∧ w.cell? ⟨b, off + i, none⟩ = some ((o.c.at i).den ρ) := by
  have := hH.obj n o hn
  cases hρ : ρ n with
  | none => rw [hρ] at this; simp only [OSat] at this; omega
  | some p =>
    rw [hρ] at this
    exact ⟨p.1, p.2.1, p.2.2, rfl, this.1 i hi⟩

theorem evLoad_sound {t : Nat} {ti : TI} (ht : TOk P t ti) (hH : HSat W0 Fr U H ρ w) {n : Nm} {o : Ob} (hn : look H n = some o) {i : Nat} {v : SV} {p : Option Prop} (h : evLoad ti o.c i = some (v, p)) (hp : okP p)
    (hz : ti.isAgg = true → 0 < ti.size) :
    (Instr.loadAt t (.pointer (ρ.addr n i))).run P w = .ok (v.den ρ) w ∧ v.bd U := by
  unfold evLoad at h
  split at h
  · rename_i hag
    split at h
    · rename_i vs hvs
      simp only [Option.some.injEq, Prod.mk.injEq] at h
      obtain ⟨rfl, rfl⟩ := h
      obtain ⟨hl, hv⟩ := Cont.getN_spec hvs (Cont.inbO_ok hp)
      have hpos := hz hag
      obtain ⟨b, off, cp, hρ, _⟩ := hH.cell hn (i := i) (by
        have := hv 0 (vs[0]'(by omega)) (by simp)
        simpa using this.1)
      have ha : ρ.addr n i = some ⟨b, off + i, none⟩ := by simp [Rho.addr, hρ]
      refine ⟨?_, ?_⟩
      · simp only [ha, Instr.loadAt, Instr.sureAddr, loadVar, Sem.run_bind, Sem.run_pure, Result.andThen_ok, ht.isAgg' w, hag, if_true, ht.run_size w]
        have := run_loadCells (P := P) (w := w) (b := b) (o := off + i) (denL ρ vs) (fun j u hu => by
          rw [denL_eq] at hu
          simp only [List.getElem?_map, Option.map_eq_some_iff] at hu
          obtain ⟨x, hx, rfl⟩ := hu
          obtain ⟨h1, h2⟩ := hv j x hx
          obtain ⟨b', off', cp', hρ', hc⟩ := hH.cell hn h1
          rw [hρ] at hρ'
          injection hρ' with e; injection e with e1 e2; injection e2 with e2 e3; subst e1; subst e2
          rw [h2] at hc
          rw [← hc]; congr 2; omega)
        rw [denL_eq] at this
        simp only [List.length_map, hl] at this
        simp [this, SV.den, denL_eq]
      · simp only [SV.bd, bdL_iff]
        intro x hx
        obtain ⟨j, hj, rfl⟩ := List.getElem_of_mem hx
        obtain ⟨h1, h2⟩ := hv j _ (List.getElem?_eq_getElem hj)
        rw [← h2]
        exact hH.bd n o hn _ h1
    · cases h
  · rename_i hag
    split at h
    · rename_i x hx
      simp only [Option.some.injEq, Prod.mk.injEq] at h
      obtain ⟨rfl, rfl⟩ := h
      obtain ⟨h1, h2⟩ := Cont.get_spec hx (Cont.inbO_ok hp)
      obtain ⟨b, off, cp, hρ, hc⟩ := hH.cell hn h1
      have ha : ρ.addr n i = some ⟨b, off + i, none⟩ := by simp [Rho.addr, hρ]
      refine ⟨?_, h2 ▸ hH.bd n o hn _ h1⟩
      simp only [ha, Instr.loadAt, Instr.sureAddr, loadVar, Sem.run_bind, Sem.run_pure, Result.andThen_ok, ht.isAgg' w, hag, Bool.false_eq_true, if_false, run_load, hc, h2]
    · cases h
end

/-! ### Writing -/
def upd {α : Type} (g : Nat → α) (i : Nat) (x : α) : Nat → α := fun j => if j = i then x else g j

def setL : List SV → Nat → SV → Option (List SV)
  | [], _, _ => none
  | _ :: r, 0, v => some (v :: r)
  | x :: r, n + 1, v => match setL r n v with
    | some r' => some (x :: r')
    | none => none

theorem setL_spec : ∀ {l l' : List SV} {i : Nat} {v : SV}, setL l i v = some l' → i < l.length ∧ l' = l.set i v
  | [], _, _, _, h => by simp [setL] at h
  | _ :: r, _, 0, v, h => by simp [setL] at h; subst h; simp
  | x :: r, _, n + 1, v, h => by
    simp only [setL] at h
    split at h
    · rename_i r' hr
      simp only [Option.some.injEq] at h
      subst h
      obtain ⟨h1, h2⟩ := setL_spec hr
      exact ⟨by simp; omega, by simp [h2]⟩
    · cases h

def Cont.set (c : Cont) (i : Nat) (v : SV) : Option Cont :=
  match c with
  | .cells l => match v.one with
    | true => match setL l i v with
      | some l' => some (.cells l')
      | none => none
    | false => none
  | .ints k n g => match v with
    | .int k' x => match kEq k k' with
      | true => some (.ints k n (upd g i x))
      | false => none
    | _ => none
  | .flts k n g => match v with
    | .flt k' x => match fkEq k k' with
      | true => some (.flts k n (upd g i x))
      | false => none
    | _ => none
  | .gen n f => match v.one with
    | true => some (.gen n (upd f i v))
    | false => none

theorem Cont.set_spec {c c' : Cont} {i : Nat} {v : SV} (h : c.set i v = some c') (hb : c.inb i 1) : i < c.size ∧ v.one = true ∧ c'.size = c.size ∧ (∀ j, j < c.size → c'.at j = if j = i then v else c.at j) := by
  cases c with
  | cells l =>
    simp only [Cont.set] at h
    split at h
    · rename_i ho
      split at h
      · rename_i l' hl
        simp only [Option.some.injEq] at h
        subst h
        obtain ⟨h1, rfl⟩ := setL_spec hl
        refine ⟨h1, ho, by simp [Cont.size], fun j hj => ?_⟩
        simp only [Cont.at, getL_eq, List.getElem?_set]
        by_cases e : i = j
        · subst e; simp [h1]
        · simp [e, Ne.symm e]
      · cases h
    · cases h
  | ints k n g =>
    simp only [Cont.set] at h
    split at h
    · rename_i k' x
      split at h
      · rename_i hk
        simp only [Option.some.injEq] at h
        subst h
        have := kEq_eq hk
        subst this
        refine ⟨hb, rfl, rfl, fun j _ => ?_⟩
        simp only [Cont.at, upd]
        split <;> rfl
      · cases h
    · cases h
  | flts k n g =>
    simp only [Cont.set] at h
    split at h
    · rename_i k' x
      split at h
      · rename_i hk
        simp only [Option.some.injEq] at h
        subst h
        have := fkEq_eq hk
        subst this
        refine ⟨hb, rfl, rfl, fun j _ => ?_⟩
        simp only [Cont.at, upd]
        split <;> rfl
      · cases h
    · cases h
  | gen n f =>
    simp only [Cont.set] at h
    split at h
    · rename_i ho
      simp only [Option.some.injEq] at h
      subst h
      refine ⟨hb, ho, rfl, fun j _ => ?_⟩
      simp only [Cont.at, upd]
    · cases h

def Cont.setN (c : Cont) (i : Nat) : List SV → Option Cont
  | [] => some c
  | v :: r => match c.set i v with
    | some c' => c'.setN (i + 1) r
    | none => none

theorem Cont.inb_set {c c' : Cont} {i j n : Nat} {v : SV} (h : c.set i v = some c') : c'.inb j n ↔ c.inb j n := by
  cases c with
  | cells l =>
    simp only [Cont.set] at h
    split at h
    · split at h
      · simp only [Option.some.injEq] at h; subst h; simp [Cont.inb]
      · cases h
    · cases h
  | ints k n g =>
    simp only [Cont.set] at h
    split at h
    · split at h
      · simp only [Option.some.injEq] at h; subst h; simp [Cont.inb]
      · cases h
    · cases h
  | flts k n g =>
    simp only [Cont.set] at h
    split at h
    · split at h
      · simp only [Option.some.injEq] at h; subst h; simp [Cont.inb]
      · cases h
    · cases h
  | gen n f =>
    simp only [Cont.set] at h
    split at h
    · simp only [Option.some.injEq] at h; subst h; simp [Cont.inb]
    · cases h

section
variable {P : Program} {W0 : World} {Fr : Nat → Prop} {U : Nm → Prop} {H : Heap} {ρ : Rho}

theorem run_store_cell {w : World} (hH : HSat W0 Fr U H ρ w) {n : Nm} {o : Ob} (hn : look H n = some o) (hr : o.rw = true) {b cp : Nat} (hρ : ρ n = some (b, 0, cp)) {i : Nat} {v : SV} (hv : v.bd U) {c' : Cont} (h : o.c.set i v = some c') (hb : o.c.inb i 1) :
    (store ⟨b, i, none⟩ (v.den ρ)).run P w = .ok () (w.setCell ⟨b, i, none⟩ (v.den ρ)) ∧ HSat W0 Fr U ((n, { o with c := c' }) :: H) ρ (w.setCell ⟨b, i, none⟩ (v.den ρ)) := by
  obtain ⟨h1, h2, h3, h4⟩ := Cont.set_spec h hb
  have hs := hH.store hn hr hρ hv h1 h3 h4
  rw [Nat.zero_add] at hs
  refine ⟨?_, hs⟩
  have ho := hH.obj n o hn
  rw [hρ] at ho
  have hc := ho.1 i h1
  rw [Nat.zero_add] at hc
  obtain ⟨_, arr, ha, _⟩ := ho.2 hr
  rw [run_store P w _ _ _ (SV.one_den ρ h2), hc]
  have hf : w.frozen? ⟨b, i, none⟩ = false := by simp [World.frozen?, ha]
  simp [hf]

end

theorem run_storeCells {P : Program} {W0 : World} {Fr : Nat → Prop} {U : Nm → Prop} {ρ : Rho} : ∀ (vs : List SV) {H : Heap} {w : World}, HSat W0 Fr U H ρ w → ∀ {n : Nm} {o : Ob}, look H n = some o → o.rw = true → ∀ {b cp : Nat}, ρ n = some (b, 0, cp) → ∀ (base i : Nat), bdL U vs → ∀ {c' : Cont}, o.c.setN (base + i) vs = some c' → o.c.inb (base + i) vs.length →
    ∃ w', (storeCells ⟨b, base, none⟩ (denL ρ vs) i).run P w = .ok () w' ∧ HSat W0 Fr U ((n, { o with c := c' }) :: H) ρ w'
  | [], H, w, hH, n, o, hn, hr, b, cp, hρ, base, i, hv, c', h, hb => by
    simp only [Cont.setN, Option.some.injEq] at h
    subst h
    refine ⟨w, by simp [denL, storeCells], hH.lookEq fun m => ?_⟩
    rw [look_cons]
    split
    · rename_i e; subst e; exact hn.symm
    · rfl
  | v :: r, H, w, hH, n, o, hn, hr, b, cp, hρ, base, i, hv, c', h, hb => by
    simp only [Cont.setN] at h
    split at h
    · rename_i c1 h1
      simp only [bdL] at hv
      obtain ⟨hb1, hb2⟩ := Cont.inb_head (by simpa using hb)
      obtain ⟨hrun, hH1⟩ := run_store_cell (P := P) hH hn hr hρ hv.1 h1 hb1
      obtain ⟨w', hrun', hH'⟩ := run_storeCells (P := P) (H := (n, { o with c := c1 }) :: H) r hH1 (n := n) (o := { o with c := c1 }) (by simp [look_cons]) hr hρ base (i + 1) hv.2
        (c' := c') (by rw [show base + (i + 1) = base + i + 1 by omega]; exact h) (by rw [show base + (i + 1) = base + i + 1 by omega]; exact (Cont.inb_set h1).2 hb2)
      refine ⟨w', ?_, hH'.lookEq fun m => ?_⟩
      · simp only [denL, storeCells, Sem.run_bind, Addr.add_lit, hrun, Result.andThen_ok, hrun']
      · simp only [look_cons]
        split <;> rfl
    · cases h

end Go.Sx
