/- Building structs, arrays and slices; making slices; interface values; tuples; len and cap. -/
import Derived.Test.YtcjhgngdhdcpeaaSx9
namespace Go.Sx
open Go.RowKit

def putMany : List SV → Nat → List SV → List SV
  | l, _, [] => l
  | l, o, v :: r => putMany (l.set o v) (o + 1) r

def fillS (place : Nat → Option (Nat × Nat)) : List SV → List (Nat × SV) → Option (List SV)
  | cells, [] => some cells
  | cells, (i, v) :: rest => match place i with
    | none => none
    | some (o, size) => match Nat.beq v.cells.length size with
      | false => none
      | true => match Nat.ble (o + v.cells.length) cells.length with
        | false => none
        | true => fillS place (putMany cells o v.cells) rest

theorem putMany_length : ∀ (vs l : List SV) (o : Nat), (putMany l o vs).length = l.length
  | [], _, _ => rfl
  | v :: r, l, o => by simp [putMany, putMany_length r]

theorem putMany_bd {U : Nm → Prop} : ∀ (vs l : List SV) (o : Nat), bdL U l → bdL U vs → bdL U (putMany l o vs)
  | [], _, _, h, _ => h
  | v :: r, l, o, h, h' => by
    simp only [bdL] at h'
    refine putMany_bd r _ _ ?_ h'.2
    rw [bdL_iff] at h ⊢
    intro x hx
    rcases List.mem_or_eq_of_mem_set hx with hx | rfl
    · exact h x hx
    · exact h'.1

theorem fold_put (ρ : Rho) (o : Nat) : ∀ (vs l : List SV) (k : Nat),
    ((denL ρ vs).zipIdx k).foldl (fun (cs : Array Value) p => cs.setIfInBounds (o + p.2) p.1) (denL ρ l).toArray = (denL ρ (putMany l (o + k) vs)).toArray
  | [], _, _ => by simp [denL, putMany]
  | v :: r, l, k => by
    simp only [denL, List.zipIdx_cons, List.foldl_cons, putMany]
    have : ((denL ρ l).toArray.setIfInBounds (o + k) (v.den ρ)) = (denL ρ (l.set (o + k) v)).toArray := by
      simp [denL_eq, List.map_set]
    rw [this, fold_put ρ o r _ (k + 1)]
    rfl

theorem fill_eq (ρ : Rho) {place : Nat → Option (Nat × Nat)} : ∀ {ps : List (Nat × SV)} {cells r : List SV}, fillS place cells ps = some r →
    Instr.fill place (denL ρ cells).toArray (ps.map fun p => (p.1, p.2.den ρ)) = some (denL ρ r).toArray
  | [], cells, r, h => by simp only [fillS, Option.some.injEq] at h; subst h; rfl
  | (i, v) :: rest, cells, r, h => by
    simp only [fillS] at h
    split at h
    · cases h
    · rename_i o size hp
      split at h
      · cases h
      · rename_i hl
        split at h
        · cases h
        · rename_i hb
          have hl' := Nat.eq_of_beq_eq_true hl
          have hb' := Nat.le_of_ble_eq_true hb
          simp only [List.map_cons, Instr.fill, hp, SV.den_cells]
          have e1 : (denL ρ v.cells).toArray.size = size := by simp [denL_eq, hl']
          have e2 : (denL ρ cells).toArray.size = cells.length := by simp [denL_eq]
          rw [e1, e2]
          have e3 : (size != size || decide (o + size > cells.length)) = false := by simp; omega
          have e4 : (denL ρ v.cells).toArray.zipIdx.foldl (fun (cs : Array Value) p => cs.setIfInBounds (o + p.2) p.1) (denL ρ cells).toArray = (denL ρ (putMany cells o v.cells)).toArray := by
            rw [← Array.foldl_toList]
            have := fold_put ρ o v.cells cells 0
            simpa using this
          have e5 : (decide (size ≠ size) || decide (o + size > cells.length)) = false := by simp; omega
          simp only [e5, Bool.false_eq_true, if_false]
          rw [e4]
          exact fill_eq ρ h

theorem fillS_bd {U : Nm → Prop} {place : Nat → Option (Nat × Nat)} : ∀ {ps : List (Nat × SV)} {cells r : List SV}, fillS place cells ps = some r → bdL U cells → (∀ p ∈ ps, p.2.bd U) → bdL U r
  | [], cells, r, h, hc, _ => by simp only [fillS, Option.some.injEq] at h; subst h; exact hc
  | (i, v) :: rest, cells, r, h, hc, hp => by
    simp only [fillS] at h
    split at h
    · cases h
    · split at h
      · cases h
      · split at h
        · cases h
        · exact fillS_bd h (putMany_bd _ _ _ hc (SV.bd_cells (hp (i, v) (by simp)))) (fun p hp' => hp p (by simp [hp']))

/-- The places of a struct's fields. -/
def places (T : Tys) : List (Nat × Nat) → Option (List (Nat × Nat))
  | [] => some []
  | (o, e) :: r => match ty T e with
    | some te => match places T r with
      | some ps => some ((o, te.size) :: ps)
      | none => none
    | none => none

section
variable {P : Program} {W0 : World} {Fr : Nat → Prop} {U : Nm → Prop} {H : Heap} {ρ : Rho} {w : World} {nm : Nm}

theorem run_places {T : Tys} (hT : TysOk P T) : ∀ {fs : List Field} {ps : List (Nat × Nat)}, places T (fs.map fun f => (f.offset, f.type)) = some ps →
    (fs.mapM fun f => (do pure (f.offset, ← sizeOf f.type) : Sem (Nat × Nat))).run P w = .ok ps w
  | [], ps, h => by simp only [List.map_nil, places, Option.some.injEq] at h; subst h; simp
  | f :: fs, ps, h => by
    simp only [List.map_cons, places] at h
    split at h
    · rename_i te hte
      split at h
      · rename_i qs hqs
        simp only [Option.some.injEq] at h
        subst h
        simp only [List.mapM_cons, Sem.run_bind, (hT _ te hte).run_size w, Result.andThen_ok, Sem.run_pure, run_places hT hqs]
      · cases h
    · cases h

def evParts (ev : Operand → Option SV) : List (Nat × Operand) → Option (List (Nat × SV))
  | [] => some []
  | (i, x) :: r => match ev x with
    | some v => match evParts ev r with
      | some ps => some ((i, v) :: ps)
      | none => none
    | none => none

theorem evParts_sound {ev : Operand → Option SV} {a : Act} (hev : ∀ x v, ev x = some v → a.eval x = v.den ρ ∧ v.bd U) : ∀ {xs : List (Nat × Operand)} {ps : List (Nat × SV)}, evParts ev xs = some ps →
    (xs.map fun p => (p.1, a.eval p.2)) = (ps.map fun p => (p.1, p.2.den ρ)) ∧ ∀ p ∈ ps, p.2.bd U
  | [], ps, h => by simp only [evParts, Option.some.injEq] at h; subst h; simp
  | (i, x) :: r, ps, h => by
    simp only [evParts] at h
    split at h
    · rename_i v hv
      split at h
      · rename_i qs hqs
        simp only [Option.some.injEq] at h
        subst h
        obtain ⟨h1, h2⟩ := evParts_sound hev hqs
        obtain ⟨h3, h4⟩ := hev x v hv
        refine ⟨by simp [h3, h1], fun p hp => ?_⟩
        rcases List.mem_cons.1 hp with rfl | hp
        · exact h4
        · exact h2 p hp
      · cases h
    · cases h

def evBuild (T : Tys) (t : Nat) (ps : List (Nat × SV)) : Option Eff :=
  match ty T t with
  | some { tk := .struct fs, zero := .cells z, .. } => match places T fs with
    | some pl => match fillS (nth pl) z ps with
      | some r => some (Eff.pure (.agg r))
      | none => none
    | none => none
  | some { tk := .array _ e, zero := .cells z, .. } => match ty T e with
    | some te => match fillS (fun i => some (i * te.size, te.size)) z ps with
      | some r => some (Eff.pure (.agg r))
      | none => none
    | none => none
  | _ => none

theorem zero_cells {t : Nat} {ti : TI} (ht : TOk P t ti) {z : List SV} (hz : ti.zero = .cells z) (ρ : Rho) (w : World) : ∃ v, (zeroValue t).run P w = .ok v w ∧ v.cells = (denL ρ z).toArray ∧ closedL z = true := by
  obtain ⟨v, h1, h2, h3⟩ := ht.run_zero w
  refine ⟨v, h1, ?_, ?_⟩
  · rw [hz] at h2 h3
    apply Array.ext_getElem?
    intro i
    by_cases hi : i < (Cont.cells z).size
    · rw [h3 ρ i hi, (cells_get ρ z).2 i hi]
    · rw [Array.getElem?_eq_none (by omega), Array.getElem?_eq_none (by rw [(cells_get ρ z).1]; omega)]
  · have := ht.cl
    rw [hz] at this
    clear h1 h2 h3 ht hz
    induction z with
    | nil => rfl
    | cons x r ih =>
      simp only [closedL, Bool.and_eq_true]
      refine ⟨by simpa [Cont.at, getL] using this 0 (by simp [Cont.size]), ih fun i hi => ?_⟩
      have h := this (i + 1) (by simp [Cont.size] at hi ⊢; omega)
      simpa [Cont.at, getL] using h

theorem evBuild_sound {T : Tys} (hT : TysOk P T) (hH : HSat W0 Fr U H ρ w) {t : Nat} {ps : List (Nat × SV)} (hps : ∀ p ∈ ps, p.2.bd U) {e : Eff} (h : evBuild T t ps = some e) :
    Done W0 Fr U H ρ nm e ((do pure (.value (← Instr.build t (ps.map fun p => (p.1, p.2.den ρ)).toArray)) : Sem Next).run P w) := by
  unfold evBuild at h
  split at h
  · rename_i fs _ _ z hti
    split at h
    · rename_i pl hpl
      split at h
      · rename_i r hr
        simp only [Option.some.injEq] at h
        subst h
        have ht := hT t _ hti
        obtain ⟨v, hz1, hz2, hz3⟩ := zero_cells ht rfl ρ w
        obtain ⟨d, hd, hd2⟩ := ht.desc
        cases d <;> simp only [tkOf, TK.struct.injEq, reduceCtorEq] at hd2
        rename_i fields
        have hr' : fillS (fun i => pl.toArray[i]?) z ps = some r := by
          rw [← hr]; congr 1; funext i; simp [nth_eq]
        refine Done.same hH (v := .agg r) (fillS_bd hr (bdL_closed U z hz3) hps) ?_
        have hpl' := run_places (w := w) hT (fs := fields.toList) (by rw [hd2]; exact hpl)
        have hpl2 : (fields.mapM fun f => (do pure (f.offset, ← sizeOf f.type) : Sem (Nat × Nat))).run P w = .ok pl.toArray w := by
          rw [← Array.toArray_toList (xs := fields), List.mapM_toArray]
          simp only [Sem.run_map, hpl', Result.andThen_ok]
        simp only [Instr.build, Sem.run_bind, hz1, Result.andThen_ok, run_underlying hd, hpl2, hz2, fill_eq ρ hr', Sem.run_pure, SV.den]
      · cases h
    · cases h
  · rename_i _ el _ _ z hti
    split at h
    · rename_i te hte
      split at h
      · rename_i r hr
        simp only [Option.some.injEq] at h
        subst h
        have ht := hT t _ hti
        obtain ⟨v, hz1, hz2, hz3⟩ := zero_cells ht rfl ρ w
        obtain ⟨d, hd, hd2⟩ := ht.desc
        cases d <;> simp only [tkOf, TK.array.injEq, reduceCtorEq] at hd2
        obtain ⟨rfl, rfl⟩ := hd2
        refine Done.same hH (v := .agg r) (fillS_bd hr (bdL_closed U z hz3) hps) ?_
        simp only [Instr.build, Sem.run_bind, hz1, Result.andThen_ok, run_underlying hd, (hT _ te hte).run_size w, hz2, fill_eq ρ hr, Sem.run_pure, SV.den]
      · cases h
    · cases h
  · cases h

/-! ### buildSlice -/
def repL (z : List SV) : Nat → List SV
  | 0 => []
  | n + 1 => z ++ repL z n

def evBuildSlice (T : Tys) (nm : Nm) (t len : Nat) (ps : List (Nat × SV)) : Option Eff :=
  match ty T t with
  | some { tk := .slice e, .. } => match ty T e with
    | some { zero := .cells z, size := sz, .. } => match Nat.ble 1 (len * sz) with
      | true => match Nat.ble (len * sz) 16777216 with
        | true => match fillS (fun i => some (i * sz, sz)) (repL z len) ps with
          | some r => some ⟨some (.slcc nm len), [], [(nm, ⟨true, e, .cells r, sz⟩)], [], none⟩
          | none => none
        | false => none
      | false => none
    | _ => none
  | _ => none

theorem repL_length (z : List SV) : ∀ n, (repL z n).length = n * z.length
  | 0 => by simp [repL]
  | n + 1 => by simp [repL, repL_length z n, Nat.succ_mul, Nat.add_comm]

theorem repL_get (z : List SV) : ∀ (n i : Nat), i < n * z.length → (repL z n)[i]? = z[i % z.length]?
  | 0, i, h => by simp at h
  | n + 1, i, h => by
    simp only [repL]
    by_cases hi : i < z.length
    · rw [List.getElem?_append_left hi, Nat.mod_eq_of_lt hi]
    · rw [List.getElem?_append_right (by omega), repL_get z n (i - z.length) (by rw [Nat.succ_mul] at h; omega)]
      congr 1
      rw [← Nat.mod_eq_sub_mod (by omega)]

theorem repL_closed {z : List SV} (h : closedL z = true) : ∀ n, closedL (repL z n) = true
  | 0 => rfl
  | n + 1 => by
    have key : ∀ a b : List SV, closedL a = true → closedL b = true → closedL (a ++ b) = true := by
      intro a b ha hb
      induction a with
      | nil => exact hb
      | cons x r ih =>
        simp only [closedL, Bool.and_eq_true, List.cons_append] at ha ⊢
        exact ⟨ha.1, ih ha.2⟩
    exact key _ _ h (repL_closed h n)

theorem fillS_length {place : Nat → Option (Nat × Nat)} : ∀ {ps : List (Nat × SV)} {cells r : List SV}, fillS place cells ps = some r → r.length = cells.length
  | [], cells, r, h => by simp only [fillS, Option.some.injEq] at h; rw [h]
  | (i, v) :: rest, cells, r, h => by
    unfold fillS at h
    split at h
    · cases h
    · split at h
      · cases h
      · split at h
        · cases h
        · rw [fillS_length h, putMany_length]

theorem evBuildSlice_sound {T : Tys} (hT : TysOk P T) (hH : HSat W0 Fr U H ρ w) (hn : ¬ U nm) {t len : Nat} {ps : List (Nat × SV)} (hps : ∀ p ∈ ps, p.2.bd U) {e : Eff} (h : evBuildSlice T nm t len ps = some e) :
    Done W0 Fr U H ρ nm e ((do pure (.value (← Instr.buildSlice t len (ps.map fun p => (p.1, p.2.den ρ)).toArray)) : Sem Next).run P w) := by
  unfold evBuildSlice at h
  split at h
  · rename_i el _ _ _ hti
    split at h
    · rename_i tk sz by' z hte
      split at h
      · rename_i h1
        split at h
        · rename_i h2
          split at h
          · rename_i r hr
            simp only [Option.some.injEq] at h
            subst h
            have h1' := Nat.le_of_ble_eq_true h1
            have h2' := Nat.le_of_ble_eq_true h2
            have hte' := hT el _ hte
            obtain ⟨d, hd, hd2⟩ := (hT t _ hti).desc
            cases d <;> simp only [tkOf, TK.slice.injEq, reduceCtorEq] at hd2
            subst hd2
            obtain ⟨v, hz1, hz2, hz3⟩ := zero_cells hte' rfl ρ w
            have hzl : z.length = sz := hte'.zsz
            have hbd := fillS_bd hr (bdL_closed U _ (repL_closed hz3 len)) hps
            obtain ⟨hc1, hc2⟩ := cells_get ρ r
            have hrl : r.length = len * sz := by rw [fillS_length hr, repL_length, hzl]
            have hsz0 : 1 ≤ sz := by
              rcases Nat.eq_zero_or_pos sz with h0 | h0
              · rw [h0] at h1'; simp at h1'
              · exact h0
            have hlm : len ≤ len * sz := Nat.le_mul_of_pos_right _ hsz0
            have hsize : (denL ρ r).toArray.size = len * sz := by rw [hc1]; exact hrl
            refine Done.new hH hn (es := sz) (cp := len) (cells_bd hbd) ⟨by rw [hsize]; exact Nat.le_of_eq hrl, fun _ => hsize, by simp only [maxLen]; omega⟩ hc2 (by simp [SV.bd]) (fun ρ' hρ' => ?_)
            have hs : (sizeOf ‹Nat›).run P w = .ok sz w := hte'.run_size w
            have hinit : ((Array.range (len * sz)).map fun i => (denL ρ z).toArray[i % (denL ρ z).toArray.size]!) = (denL ρ (repL z len)).toArray := by
              apply Array.ext_getElem?
              intro i
              by_cases hi : i < len * sz
              · have hp0 : 0 < z.length := by
                  rw [hzl]
                  rcases Nat.eq_zero_or_pos sz with h0 | h0
                  · rw [h0] at h1'; simp at h1'
                  · exact h0
                have h3 : i % z.length < z.length := Nat.mod_lt _ hp0
                have h4 : i < len * z.length := by rw [hzl]; exact hi
                simp only [Array.getElem?_map, Array.getElem?_range, hi, if_true, Option.map_some, denL_eq, List.getElem?_toArray, List.getElem?_map, repL_get z len i h4, List.getElem?_eq_getElem h3]
                simp [h3]
              · have h4 : ¬ i < len * z.length := by rw [hzl]; exact hi
                rw [Array.getElem?_eq_none (by simp; omega), Array.getElem?_eq_none (by simp [denL_eq, repL_length]; omega)]
            have hne : len * sz ≠ 0 := by omega
            simp only [Instr.buildSlice, Sem.run_bind, run_underlying hd, Result.andThen_ok, hs, Sem.run_ite, hne, if_false, hz1, hz2, Sem.run_pure]
            have hle2 : ¬ len * sz > 2 ^ 24 := by omega
            simp only [hle2, if_false, Sem.run_bind, Sem.run_pure, hinit, fill_eq ρ hr]
            simp [newRow, SV.den, Rho.addr, Rho.cap, hρ']
          · cases h
        · cases h
      · cases h
    · cases h
  · cases h

end
end Go.Sx
