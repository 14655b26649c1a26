/- The effect of one operation: memory operations. -/
import Derived.Test.YtcjhgngdhdcpeaaSx6
namespace Go.Sx
open Go.RowKit

structure Eff where
  val : Option SV
  wr : Heap
  news : Heap
  rds : List Nm
  obl : Option Prop

def Eff.pure (v : SV) : Eff := ⟨some v, [], [], [], none⟩
def Eff.pureO (v : SV) (p : Option Prop) : Eff := ⟨some v, [], [], [], p⟩
def Eff.read (v : SV) (n : Nm) (p : Option Prop) : Eff := ⟨some v, [], [], [n], p⟩

/-- The names that the operation with base name nm may make. -/
def UU (U : Nm → Prop) (nm : Nm) : Nm → Prop := fun (n : Nat) => U n ∨ (nm ≤ n ∧ n < nm + 4)

theorem UU_of {U : Nm → Prop} {nm : Nm} : ∀ n, U n → UU U nm n := fun _ h => .inl h

/-- What an operation has come to. -/
def Done (W0 : World) (Fr : Nat → Prop) (U : Nm → Prop) (H : Heap) (ρ : Rho) (nm : Nm) (e : Eff) (r : Result Next) : Prop :=
  ∃ ρ' w', (∀ n, U n → ρ' n = ρ n) ∧ HSat W0 Fr (UU U nm) (e.wr ++ (e.news ++ H)) ρ' w' ∧
    (match e.val with
     | some v => v.bd (UU U nm) ∧ r = .ok (.value (v.den ρ')) w'
     | none => r = .ok .skip w')

section
variable {P : Program} {W0 : World} {Fr : Nat → Prop} {U : Nm → Prop} {H : Heap} {ρ : Rho} {w : World} {nm : Nm}

theorem Done.same (hH : HSat W0 Fr U H ρ w) {v : SV} (hv : v.bd U) {rds : List Nm} {p : Option Prop} {r : Result Next} (hr : r = .ok (.value (v.den ρ)) w) : Done W0 Fr U H ρ nm ⟨some v, [], [], rds, p⟩ r :=
  ⟨ρ, w, fun _ _ => rfl, hH.mono UU_of, SV.bd_mono UU_of v hv, hr⟩

/-- A new block. -/
theorem Done.new (hH : HSat W0 Fr U H ρ w) (hn : ¬ U nm) {t : TypeId} {c : Cont} (hc : c.bd U) {arr : Array Value} {es cp : Nat} (hs : c.size ≤ arr.size ∧ (0 < es → arr.size = cp * es) ∧ cp ≤ maxLen)
    (ha : ∀ i, i < c.size → arr[i]? = some ((c.at i).den ρ)) {p : Option Prop} {v : SV} (hv : v.bd (fun n => n = nm)) {r : Result Next}
    (hr : ∀ ρ' : Rho, ρ' nm = some (w.heap.size, 0, cp) → r = .ok (.value (v.den ρ')) (w.alloc (.cells arr t))) :
    Done W0 Fr U H ρ nm ⟨some v, [], [(nm, ⟨true, t, c, es⟩)], [], p⟩ r := by
  refine ⟨ρ.set nm (w.heap.size, 0, cp), _, Rho.set_agree hn, (hH.alloc hn (t := t) hc hs ha).mono ?_, SV.bd_mono ?_ v hv, hr _ Rho.set_self⟩
  · intro n h
    rcases h with h | h
    · exact .inl h
    · subst h; exact .inr ⟨Nat.le_refl _, Nat.lt_add_of_pos_right (by decide)⟩
  · intro n h; subst h; exact .inr ⟨Nat.le_refl _, Nat.lt_add_of_pos_right (by decide)⟩

theorem fixed {n m : Nat} (h : n = m) : m ≤ n ∧ (0 < 0 → n = 0 * 0) ∧ 0 ≤ maxLen := ⟨by omega, fun h => absurd h (Nat.lt_irrefl 0), Nat.zero_le _⟩

theorem cells_get (ρ : Rho) (vs : List SV) : ((denL ρ vs).toArray.size = (Cont.cells vs).size) ∧ ∀ i, i < (Cont.cells vs).size → (denL ρ vs).toArray[i]? = some (((Cont.cells vs).at i).den ρ) := by
  refine ⟨by simp [denL_eq, Cont.size], fun i hi => ?_⟩
  have hi' : i < vs.length := hi
  simp [denL_eq, Cont.at, getL_eq, hi']

theorem cells_bd {vs : List SV} (h : bdL U vs) : (Cont.cells vs).bd U := fun i hi => by
  have hi' : i < vs.length := hi
  simp only [Cont.at, getL_eq, List.getElem?_eq_getElem hi', Option.getD_some]
  exact (bdL_iff U vs).1 h _ (List.getElem_mem hi')

/-! ### alloc, box -/
def evAlloc (T : Tys) (nm : Nm) (t : Nat) : Option Eff :=
  match ty T t with
  | some ti => some ⟨some (.ptr nm 0), [], [(nm, ⟨true, t, ti.zero, 0⟩)], [], none⟩
  | none => none

theorem evAlloc_sound {T : Tys} (hT : TysOk P T) (hH : HSat W0 Fr U H ρ w) (hn : ¬ U nm) {t : Nat} {e : Eff} (h : evAlloc T nm t = some e) :
    Done W0 Fr U H ρ nm e ((do pure (.value (← Instr.alloc t true (.tuple #[]))) : Sem Next).run P w) := by
  unfold evAlloc at h
  split at h
  · rename_i ti hti
    simp only [Option.some.injEq] at h
    subst h
    have ht := hT t ti hti
    obtain ⟨z, hz, hzs, hzv⟩ := ht.run_zero w
    refine Done.new hH hn (cp := 0) (ht.zero_bd U) (fixed hzs) (fun i hi => hzv ρ i hi) (by simp [SV.bd]) (fun ρ' hρ' => ?_)
    simp [Instr.alloc, hz, newVar, newRow, SV.den, Rho.addr, hρ']
  · cases h

def evBox (nm : Nm) (t : Nat) (v : SV) : Eff := ⟨some (.ptr nm 0), [], [(nm, ⟨true, t, .cells v.cells, 0⟩)], [], none⟩

theorem evBox_sound (hH : HSat W0 Fr U H ρ w) (hn : ¬ U nm) {t : Nat} {v : SV} (hv : v.bd U) :
    Done W0 Fr U H ρ nm (evBox nm t v) ((do pure (.value (← Instr.box t (v.den ρ))) : Sem Next).run P w) := by
  obtain ⟨h1, h2⟩ := cells_get ρ v.cells
  refine Done.new hH hn (cp := 0) (cells_bd (SV.bd_cells hv)) (fixed h1) h2 (by simp [SV.bd]) (fun ρ' hρ' => ?_)
  simp [Instr.box, newVar, newRow, SV.den_cells, SV.den, Rho.addr, hρ']

/-! ### load, store -/
def evLd (T : Tys) (rd : Nm → Option Ob) (t : Nat) (x : SV) : Option Eff :=
  match x with
  | .ptr n i => match ty T t with
    | some ti => match Nat.ble 1 ti.size with
      | true => match rd n with
        | some ob => match evLoad ti ob.c i with
          | some (v, p) => some ⟨some v, [], [], [n], p⟩
          | none => none
        | none => none
      | false => none
    | none => none
  | _ => none

theorem evLd_sound {T : Tys} (hT : TysOk P T) (hH : HSat W0 Fr U H ρ w) {t : Nat} {x : SV} {e : Eff} (h : evLd T (look H) t x = some e) (ho : okP e.obl) :
    Done W0 Fr U H ρ nm e ((do pure (.value (← Instr.loadAt t (x.den ρ))) : Sem Next).run P w) := by
  unfold evLd at h
  split at h
  · rename_i n i
    split at h
    · rename_i ti hti
      split at h
      · rename_i hsz
        split at h
        · rename_i ob hob
          split at h
          · rename_i v p hv
            simp only [Option.some.injEq] at h
            subst h
            obtain ⟨h1, h2⟩ := evLoad_sound (hT t ti hti) hH hob hv ho (fun _ => Nat.le_of_ble_eq_true hsz)
            exact Done.same hH h2 (by simp [SV.den, h1])
          · cases h
        · cases h
      · cases h
    · cases h
  · cases h

def evSt (T : Tys) (rd : Nm → Option Ob) (t : Nat) (x v : SV) : Option Eff :=
  match x with
  | .ptr n i => match ty T t with
    | some ti => match Nat.beq v.cells.length ti.size with
      | true => match Nat.ble 1 ti.size with
        | true => match rd n with
          | some ⟨true, el, c, es⟩ => match c.setN i v.cells with
            | some c' => some ⟨none, [(n, ⟨true, el, c', es⟩)], [], [n], c.inbO i ti.size⟩
            | none => none
          | _ => none
        | false => none
      | false => none
    | none => none
  | _ => none

theorem setN_lt {c c' : Cont} {i : Nat} {v : SV} {r : List SV} (h : c.setN i (v :: r) = some c') (hb : c.inb i (r.length + 1)) : i < c.size := by
  simp only [Cont.setN] at h
  split at h
  · rename_i c1 h1
    exact (Cont.set_spec h1 (Cont.inb_head hb).1).1
  · cases h

theorem evSt_sound {T : Tys} (hT : TysOk P T) (hH : HSat W0 Fr U H ρ w) {t : Nat} {x v : SV} (hv : v.bd U) {e : Eff} (h : evSt T (look H) t x v = some e) (ho : okP e.obl) :
    Done W0 Fr U H ρ nm e ((do Instr.storeAt t (x.den ρ) (v.den ρ); pure .skip : Sem Next).run P w) := by
  unfold evSt at h
  split at h
  · rename_i n i
    split at h
    · rename_i ti hti
      split at h
      · rename_i hlen
        split at h
        · rename_i hpos
          split at h
          · rename_i el c es hob
            split at h
            · rename_i c' hc'
              simp only [Option.some.injEq] at h
              subst h
              have hl := Nat.eq_of_beq_eq_true hlen
              have hps := Nat.le_of_ble_eq_true hpos
              have hb : c.inb i v.cells.length := by rw [hl]; exact Cont.inbO_ok ho
              have hlt : i < c.size := by
                cases hcs : v.cells with
                | nil => rw [hcs] at hl; simp at hl; omega
                | cons y r => rw [hcs] at hc' hb; exact setN_lt hc' hb
              obtain ⟨b, off, cp, hρ, _⟩ := hH.cell hob hlt
              have hob' := hH.obj n _ hob
              rw [hρ] at hob'
              obtain ⟨rfl, _⟩ := hob'.2 rfl
              have hloc : ρ.addr n i = some ⟨b, i, none⟩ := by simp [Rho.addr, hρ]
              obtain ⟨w', hrun, hH'⟩ := run_storeCells (P := P) v.cells hH hob rfl hρ i 0 (SV.bd_cells hv) hc' hb
              refine ⟨ρ, w', fun _ _ => rfl, hH'.mono UU_of, ?_⟩
              have hsz : (denL ρ v.cells).toArray.size = ti.size := by simp [denL_eq, hl]
              simp only [SV.den, hloc, Instr.storeAt, Instr.sureAddr, storeVar, Sem.run_bind, Sem.run_pure, Result.andThen_ok, (hT t ti hti).run_size w, hsz, ne_eq, not_true_eq_false, if_false, SV.den_cells, hrun]
            · cases h
          · cases h
        · cases h
      · cases h
    · cases h
  · cases h

end
end Go.Sx
