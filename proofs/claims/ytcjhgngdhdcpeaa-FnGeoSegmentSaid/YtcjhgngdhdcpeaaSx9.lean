/- Slicing, building, making; len and cap. -/
import Derived.Test.YtcjhgngdhdcpeaaSx8
namespace Go.Sx
open Go.RowKit

section
variable {P : Program} {W0 : World} {Fr : Nat → Prop} {U : Nm → Prop} {H : Heap} {ρ : Rho} {w : World} {nm : Nm}

/-! ### Slicing a slice -/
/-- Where 's[l:h:m]' begins: at the very end of the capacity it stays where it was. -/
def slOff (off l m sz : Nat) : Nat := if m = l then off else off + l * sz

theorem slOff_ne {off l m sz : Nat} (h : m ≠ l) : slOff off l m sz = off + l * sz := by simp [slOff, h]
theorem slOff_zero {off m sz : Nat} : slOff off 0 m sz = off := by simp [slOff]

/-- A bound: the value given, or a number that stands for it where none is given. -/
def bnd : Option SV → Nat → Option (Nat × Prop)
  | none, d => some (d, True)
  | some (.int _ i), _ => some (i.toNat, 0 ≤ i)
  | some _, _ => none

def lowOff (lo : Option SV) (off l m sz : Nat) : Nat :=
  match lo with
  | none => off
  | some _ => slOff off l m sz

def evSlice (T : Tys) (t : Nat) (x : SV) (lo hi mx : Option SV) : Option Eff :=
  match x with
  | .slc n off len cap => match ty T t with
    | some { tk := .slice e, .. } => match ty T e with
      | some te => match bnd mx cap with
        | some (m, pm) => match bnd hi len with
          | some (h, ph) => match bnd lo 0 with
            | some (l, pl) => match mx, hi with
              | some _, none => none
              | _, _ => some (Eff.pureO (.slc n (lowOff lo off l m te.size) (h - l) (m - l))
                  (some ((pm ∧ m ≤ cap) ∧ (ph ∧ h ≤ match mx, hi with | none, none => len | _, _ => m) ∧ (pl ∧ l ≤ h))))
            | none => none
          | none => none
        | none => none
      | none => none
    | _ => none
  | _ => none

theorem run_sliceBound {v : Option SV} {d b : Nat} {p : Prop} (h : bnd v d = some (b, p)) (hp : p) {y : Nat} (hy : b ≤ y) {code : BoundsCode} {x : SV} (hx : v = some x) :
    (Instr.sliceBound (x.den ρ) y code).run P w = .ok b w := by
  subst hx
  cases x <;> simp only [bnd, Option.some.injEq, Prod.mk.injEq, reduceCtorEq] at h
  obtain ⟨rfl, rfl⟩ := h
  rename_i k i
  have : i ≤ (y : Int) := by omega
  simp [Instr.sliceBound, SV.den, asIntOf, hp, this]

theorem evSlice_sound {T : Tys} (hT : TysOk P T) (hH : HSat W0 Fr U H ρ w) {t : Nat} {x : SV} (hx : x.bd U) {lo hi mx : Option SV} {e : Eff} (h : evSlice T t x lo hi mx = some e) (ho : okP e.obl) :
    Done W0 Fr U H ρ nm e ((do pure (.value (← Instr.sliceAt t (x.den ρ) (lo.map (SV.den ρ)) (hi.map (SV.den ρ)) (mx.map (SV.den ρ)))) : Sem Next).run P w) := by
  unfold evSlice at h
  split at h
  · rename_i n off len cap
    split at h
    · rename_i el _ _ _ hti
      split at h
      · rename_i te hte
        split at h
        · rename_i m pm hm
          split at h
          · rename_i hh ph hhi
            split at h
            · rename_i l pl hl
              split at h
              · cases h
              · rename_i hno
                simp only [Option.some.injEq] at h
                subst h
                obtain ⟨⟨pm', hmc⟩, ⟨ph', hhm⟩, ⟨pl', hlh⟩⟩ := ho
                obtain ⟨d, hd, hd2⟩ := (hT t _ hti).desc
                cases d <;> simp only [tkOf, TK.slice.injEq, reduceCtorEq] at hd2
                subst hd2
                refine Done.same hH (v := .slc n (lowOff lo off l m te.size) (hh - l) (m - l)) hx ?_
                have hbounds : (Instr.sliceBounds true len cap (lo.map (SV.den ρ)) (hi.map (SV.den ρ)) (mx.map (SV.den ρ))).run P w = .ok (l, hh, m) w := by
                  have hm1 : ∀ v c, mx = some v → (Instr.sliceBound (v.den ρ) cap c).run P w = .ok m w := fun v c e => run_sliceBound hm pm' hmc e
                  have hm2 : mx = none → cap = m := fun e => by subst e; simp only [bnd, Option.some.injEq, Prod.mk.injEq] at hm; exact hm.1
                  have hl1 : ∀ v c, lo = some v → (Instr.sliceBound (v.den ρ) hh c).run P w = .ok l w := fun v c e => run_sliceBound hl pl' hlh e
                  have hl2 : lo = none → 0 = l := fun e => by subst e; simp only [bnd, Option.some.injEq, Prod.mk.injEq] at hl; exact hl.1
                  have hh1 : ∀ v c, hi = some v → (Instr.sliceBound (v.den ρ) m c).run P w = .ok hh w := fun v c e => run_sliceBound hhi ph' (by subst e; cases mx <;> exact hhm) e
                  have hh2 : hi = none → len = hh := fun e => by subst e; simp only [bnd, Option.some.injEq, Prod.mk.injEq] at hhi; exact hhi.1
                  unfold Instr.sliceBounds
                  cases mx <;> cases hi <;> cases lo <;> first
                    | exact absurd rfl (hno _ rfl)
                    | skip
                  all_goals
                    (try have hm1 := fun c => hm1 _ c rfl); (try have hl1 := fun c => hl1 _ c rfl); (try have hh1 := fun c => hh1 _ c rfl)
                    (try have hm2 := hm2 rfl); (try have hl2 := hl2 rfl); (try have hh2 := hh2 rfl)
                    simp [*]
                simp only [Instr.sliceAt, Sem.run_bind, run_underlying hd, Result.andThen_ok, Instr.slice, SV.den, hbounds, (hT _ te hte).run_size w, Sem.run_pure]
                congr 3
                cases lo with
                | none =>
                  simp only [bnd, Option.some.injEq, Prod.mk.injEq] at hl
                  rw [← hl.1]
                  simp only [lowOff, Rho.addr]
                  split
                  · rfl
                  · cases ρ n <;> simp [Addr.add]
                | some v =>
                  simp only [lowOff, slOff, Rho.addr]
                  split
                  · rfl
                  · cases ρ n <;> simp [Addr.add_lit, Nat.add_assoc]
            · cases h
          · cases h
        · cases h
      · cases h
    · cases h
  · cases h

/-! ### 's[:h]' of a row of which the capacity is not known -/
def evSliceC (T : Tys) (rd : Nm → Option Ob) (t : Nat) (x : SV) (lo hi mx : Option SV) : Option Eff :=
  match x, lo, hi, mx with
  | .slcc n _, none, some (.int _ i), none => match ty T t with
    | some { tk := .slice e, .. } => match ty T e with
      | some te => match rd n with
        | some ob => match ob.rw && (Nat.beq ob.es te.size && Nat.ble 1 te.size) with
          | true => some ⟨some (.slcc n i.toNat), [], [], [n], some (0 ≤ i ∧ i.toNat * te.size ≤ ob.c.size)⟩
          | false => none
        | none => none
      | none => none
    | _ => none
  | _, _, _, _ => none

theorem evSliceC_sound {T : Tys} (hT : TysOk P T) (hH : HSat W0 Fr U H ρ w) {t : Nat} {x : SV} (hx : x.bd U) {lo hi mx : Option SV} {e : Eff} (h : evSliceC T (look H) t x lo hi mx = some e) (ho : okP e.obl) :
    Done W0 Fr U H ρ nm e ((do pure (.value (← Instr.sliceAt t (x.den ρ) (lo.map (SV.den ρ)) (hi.map (SV.den ρ)) (mx.map (SV.den ρ)))) : Sem Next).run P w) := by
  unfold evSliceC at h
  split at h
  · rename_i n len k i
    split at h
    · rename_i el _ _ _ hti
      split at h
      · rename_i te hte
        split at h
        · rename_i ob hob
          split at h
          · rename_i hf
            simp only [Option.some.injEq] at h
            subst h
            simp only [Bool.and_eq_true] at hf
            obtain ⟨hrw, hes, hsz⟩ := hf
            have hes := Nat.eq_of_beq_eq_true hes
            have hsz := Nat.le_of_ble_eq_true hsz
            obtain ⟨h0, hle⟩ := ho
            obtain ⟨d, hd, hd2⟩ := (hT t _ hti).desc
            cases d <;> simp only [tkOf, TK.slice.injEq, reduceCtorEq] at hd2
            subst hd2
            refine Done.same hH (v := .slcc n i.toNat) hx ?_
            have hcap : i.toNat ≤ ρ.cap n := by
              have hobj := hH.obj n ob hob
              unfold Rho.cap
              cases hρ : ρ n with
              | none =>
                rw [hρ] at hobj
                have : ob.c.size = 0 := hobj
                rw [this] at hle
                have := Nat.le_mul_of_pos_right i.toNat hsz
                simp only; omega
              | some p =>
                obtain ⟨b, off, cp⟩ := p
                rw [hρ] at hobj
                obtain ⟨_, arr, _, h3, h4, _⟩ := hobj.2 hrw
                have h5 := h4 (by omega)
                rw [hes] at h5
                exact Nat.le_of_mul_le_mul_right (Nat.le_trans hle (h5 ▸ h3)) (by omega)
            have hbounds : (Instr.sliceBounds true len (ρ.cap n) none (some (.int k i)) none).run P w = .ok (0, i.toNat, ρ.cap n) w := by
              have : i ≤ (ρ.cap n : Int) := by omega
              simp [Instr.sliceBounds, Instr.sliceBound, asIntOf, h0, this]
            simp only [Instr.sliceAt, Sem.run_bind, run_underlying hd, Result.andThen_ok, Instr.slice, SV.den, Option.map_none, Option.map_some, hbounds, (hT _ te hte).run_size w, Sem.run_pure]
            congr 3
            simp only [Rho.addr]
            split
            · rfl
            · cases ρ n <;> simp [Addr.add]
          · cases h
        · cases h
      · cases h
    · cases h
  · cases h

end
end Go.Sx
