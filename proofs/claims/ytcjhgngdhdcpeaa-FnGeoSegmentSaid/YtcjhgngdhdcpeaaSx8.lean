/- Addresses of fields and elements, slicing, structs as values. -/
import Derived.Test.YtcjhgngdhdcpeaaSx7
namespace Go.Sx
open Go.RowKit

/-- A piece that is surely there (not a nil slice's). -/
def Cont.ne (c : Cont) : Prop :=
  match c with
  | .cells (_ :: _) => True
  | c => 0 < c.size

def Cont.neO (c : Cont) : Option Prop :=
  match c with
  | .cells (_ :: _) => none
  | c => some (0 < c.size)
theorem Cont.neO_ok {c : Cont} (h : okP c.neO) : c.ne := by
  unfold Cont.neO at h
  unfold Cont.ne
  split at h
  · trivial
  · exact h

theorem Cont.ne_pos {c : Cont} (h : c.ne) : 0 < c.size := by
  unfold Cont.ne at h
  split at h
  · simp [Cont.size]
  · exact h

section
variable {P : Program} {W0 : World} {Fr : Nat → Prop} {U : Nm → Prop} {H : Heap} {ρ : Rho} {w : World} {nm : Nm}

theorem HSat.there (hH : HSat W0 Fr U H ρ w) {n : Nm} {o : Ob} (hn : look H n = some o) (hne : o.c.ne) : ∃ b off cp, ρ n = some (b, off, cp) := by
  obtain ⟨b, off, cp, h, _⟩ := hH.cell hn (Cont.ne_pos hne)
  exact ⟨b, off, cp, h⟩

def nth {α : Type} : List α → Nat → Option α
  | [], _ => none
  | x :: _, 0 => some x
  | _ :: r, n + 1 => nth r n

theorem nth_eq {α : Type} : ∀ (l : List α) (i : Nat), nth l i = l[i]?
  | [], _ => by simp [nth]
  | _ :: _, 0 => by simp [nth]
  | _ :: r, n + 1 => by simp [nth, nth_eq r n]

theorem struct_field {P : Program} {t : Nat} {ti : TI} (ht : TOk P t ti) {fs : List (Nat × Nat)} (hk : ti.tk = .struct fs) {i o e : Nat} (hf : nth fs i = some (o, e)) :
    ∃ d f, P.underlying t = some (.struct d) ∧ d[i]? = some f ∧ f.offset = o ∧ f.type = e := by
  obtain ⟨d, hd, hd2⟩ := ht.desc
  rw [hk] at hd2
  cases d <;> simp only [tkOf, TK.struct.injEq, reduceCtorEq] at hd2
  rename_i fields
  rw [nth_eq, ← hd2] at hf
  simp only [List.getElem?_map, Option.map_eq_some_iff, Array.getElem?_toList] at hf
  obtain ⟨f, h1, h2⟩ := hf
  injection h2 with h3 h4
  exact ⟨fields, f, hd, h1, h3, h4⟩

/-! ### fieldAddr -/
def evFieldAddr (T : Tys) (rd : Nm → Option Ob) (s : Nat) (x : SV) (i : Nat) : Option Eff :=
  match x with
  | .ptr n off => match ty T s with
    | some { tk := .struct fs, .. } => match nth fs i with
      | some (o, e) => match ty T e with
        | some te => match Nat.ble 1 te.size with
          | true => match rd n with
            | some ob => some ⟨some (.ptr n (off + o)), [], [], [n], ob.c.neO⟩
            | none => none
          | false => none
        | none => none
      | none => none
    | _ => none
  | _ => none

theorem evFieldAddr_sound {T : Tys} (hT : TysOk P T) (hH : HSat W0 Fr U H ρ w) {s : Nat} {x : SV} (hx : x.bd U) {i : Nat} {e : Eff} (h : evFieldAddr T (look H) s x i = some e) (ho : okP e.obl) :
    Done W0 Fr U H ρ nm e ((do pure (.value (← Instr.fieldAt s (x.den ρ) i)) : Sem Next).run P w) := by
  unfold evFieldAddr at h
  split at h
  · rename_i n off
    split at h
    · rename_i fs _ _ _ hti
      split at h
      · rename_i o el hf
        split at h
        · rename_i te hte
          split at h
          · rename_i hsz
            split at h
            · rename_i ob hob
              simp only [Option.some.injEq] at h
              subst h
              obtain ⟨d, f, h1, h2, rfl, rfl⟩ := struct_field (hT s _ hti) rfl hf
              obtain ⟨b, off', cp, hρ⟩ := hH.there hob (Cont.neO_ok ho)
              refine Done.same hH (v := .ptr n (off + f.offset)) hx ?_
              have hz : te.size ≠ 0 := by have := Nat.le_of_ble_eq_true hsz; omega
              simp [Instr.fieldAt, run_underlying h1, h2, Instr.sureAddr, SV.den, Rho.addr, hρ, fieldPlace, (hT _ te hte).run_size w, hz, Nat.add_assoc, Addr.add_lit]
            · cases h
          · cases h
        · cases h
      · cases h
    · cases h
  · cases h

/-! ### indexAddr -/
def evIndexAddr (T : Tys) (rd : Nm → Option Ob) (t : Nat) (x ix : SV) : Option Eff :=
  match ix with
  | .int _ i => match x with
    | .ptr n off => match ty T t with
      | some { tk := .array len e, .. } => match ty T e with
        | some te => match rd n with
          | some ob => some ⟨some (.ptr n (off + i.toNat * te.size)), [], [], [n], some ((0 ≤ i ∧ i < (len : Int)) ∧ ob.c.ne)⟩
          | none => none
        | none => none
      | _ => none
    | .slc n off len _ => match ty T t with
      | some { tk := .slice e, .. } => match ty T e with
        | some te => match rd n with
          | some ob => some ⟨some (.ptr n (off + i.toNat * te.size)), [], [], [n], some ((0 ≤ i ∧ i < (len : Int)) ∧ ob.c.ne)⟩
          | none => none
        | none => none
      | _ => none
    | .slcc n len => match ty T t with
      | some { tk := .slice e, .. } => match ty T e with
        | some te => match rd n with
          | some ob => some ⟨some (.ptr n (0 + i.toNat * te.size)), [], [], [n], some ((0 ≤ i ∧ i < (len : Int)) ∧ ob.c.ne)⟩
          | none => none
        | none => none
      | _ => none
    | _ => none
  | _ => none

theorem evIndexAddr_sound {T : Tys} (hT : TysOk P T) (hH : HSat W0 Fr U H ρ w) {t : Nat} {x ix : SV} (hx : x.bd U) {e : Eff} (h : evIndexAddr T (look H) t x ix = some e) (ho : okP e.obl) :
    Done W0 Fr U H ρ nm e ((do pure (.value (← Instr.indexAt t (x.den ρ) (ix.den ρ))) : Sem Next).run P w) := by
  unfold evIndexAddr at h
  split at h
  · rename_i k i
    split at h
    · rename_i n off
      split at h
      · rename_i len el _ _ _ hti
        split at h
        · rename_i te hte
          split at h
          · rename_i ob hob
            simp only [Option.some.injEq] at h
            subst h
            obtain ⟨d, hd, hd2⟩ := (hT t _ hti).desc
            cases d <;> simp only [tkOf, TK.array.injEq, reduceCtorEq] at hd2
            obtain ⟨rfl, rfl⟩ := hd2
            obtain ⟨b, off', cp, hρ⟩ := hH.there hob (show _ ∧ _ from ho).2
            have ho1 := (show (0 ≤ i ∧ i < _) ∧ _ from ho).1
            refine Done.same hH (v := .ptr n (off + i.toNat * te.size)) hx ?_
            simp [Instr.indexAt, run_underlying hd, Instr.sureAddr, SV.den, Rho.addr, hρ, asIntOf, (hT _ te hte).run_size w, ho1, Nat.add_assoc, Addr.add_lit]
          · cases h
        · cases h
      · cases h
    · rename_i n off len cap
      split at h
      · rename_i el _ _ _ hti
        split at h
        · rename_i te hte
          split at h
          · rename_i ob hob
            simp only [Option.some.injEq] at h
            subst h
            obtain ⟨d, hd, hd2⟩ := (hT t _ hti).desc
            cases d <;> simp only [tkOf, TK.slice.injEq, reduceCtorEq] at hd2
            subst hd2
            obtain ⟨b, off', cp, hρ⟩ := hH.there hob (show _ ∧ _ from ho).2
            have ho1 := (show (0 ≤ i ∧ i < _) ∧ _ from ho).1
            refine Done.same hH (v := .ptr n (off + i.toNat * te.size)) hx ?_
            simp [Instr.indexAt, run_underlying hd, SV.den, Rho.addr, hρ, asIntOf, (hT _ te hte).run_size w, ho1, Nat.add_assoc, Addr.add_lit]
          · cases h
        · cases h
      · cases h
    · rename_i n len
      split at h
      · rename_i el _ _ _ hti
        split at h
        · rename_i te hte
          split at h
          · rename_i ob hob
            simp only [Option.some.injEq] at h
            subst h
            obtain ⟨d, hd, hd2⟩ := (hT t _ hti).desc
            cases d <;> simp only [tkOf, TK.slice.injEq, reduceCtorEq] at hd2
            subst hd2
            obtain ⟨b, off', cp, hρ⟩ := hH.there hob (show _ ∧ _ from ho).2
            have ho1 := (show (0 ≤ i ∧ i < _) ∧ _ from ho).1
            refine Done.same hH (v := .ptr n (0 + i.toNat * te.size)) hx ?_
            simp [Instr.indexAt, run_underlying hd, SV.den, Rho.addr, hρ, asIntOf, (hT _ te hte).run_size w, ho1, Nat.add_assoc, Addr.add_lit]
          · cases h
        · cases h
      · cases h
    · cases h
  · cases h

/-! ### field, index of a value -/
/-- n cells of a list from i on. -/
def cut (l : List SV) (i n : Nat) : Option (List SV) := Cont.getN (.cells l) i n

theorem cut_spec {l vs : List SV} {i n : Nat} (h : cut l i n = some vs) : vs = (l.drop i).take n ∧ vs.length = n := by
  obtain ⟨h1, h2⟩ := Cont.getN_spec h trivial
  refine ⟨?_, h1⟩
  apply List.ext_getElem?
  intro j
  cases hj : vs[j]? with
  | some v =>
    obtain ⟨h3, h4⟩ := h2 j v hj
    have h3' : i + j < l.length := h3
    have hjn : j < n := by rw [← h1]; exact (List.getElem?_eq_some_iff.1 hj).1
    rw [List.getElem?_take, if_pos hjn, List.getElem?_drop, List.getElem?_eq_getElem h3', ← h4]
    simp [Cont.at, getL_eq, h3']
  | none =>
    have hjn : n ≤ j := by rw [← h1]; exact List.getElem?_eq_none_iff.1 hj
    rw [List.getElem?_take, if_neg (by omega)]

def evPart (T : Tys) (e : Nat) (cs : List SV) (o : Nat) : Option SV :=
  match ty T e with
  | some te => match te.isAgg with
    | true => match cut cs o te.size with
      | some vs => some (.agg vs)
      | none => none
    | false => getL cs o
  | none => none

theorem evPart_sound {T : Tys} (hT : TysOk P T) {e : Nat} {cs : List SV} (hc : bdL U cs) {o : Nat} {v : SV} (h : evPart T e cs o = some v) (ρ : Rho) (w : World) :
    (part e (denL ρ cs).toArray o).run P w = .ok (v.den ρ) w ∧ v.bd U := by
  unfold evPart at h
  split at h
  · rename_i te hte
    split at h
    · rename_i hag
      split at h
      · rename_i vs hvs
        simp only [Option.some.injEq] at h
        subst h
        obtain ⟨rfl, hl⟩ := cut_spec hvs
        refine ⟨?_, ?_⟩
        · simp only [part, Sem.run_bind, (hT e te hte).isAgg' w, hag, Result.andThen_ok, if_true, (hT e te hte).run_size w, SV.den, denL_eq, Sem.run_pure]
          congr 2
          rw [List.extract_toArray]
          congr 1
          rw [List.extract_eq_take_drop]
          simp [List.map_take, List.map_drop]
        · simp only [SV.bd, bdL_iff] at hc ⊢
          intro x hx
          exact hc x (List.mem_of_mem_drop (List.mem_of_mem_take hx))
      · cases h
    · rename_i hag
      rw [getL_eq] at h
      refine ⟨?_, ?_⟩
      · have : (denL ρ cs).toArray[o]? = some (v.den ρ) := by simp [denL_eq, h]
        simp only [part, Sem.run_bind, (hT e te hte).isAgg' w, hag, Result.andThen_ok, Bool.false_eq_true, if_false, this, Sem.run_pure]
      · rw [bdL_iff] at hc
        exact hc v (List.mem_of_getElem? h)
  · cases h

def evField (T : Tys) (s : Nat) (x : SV) (i : Nat) : Option Eff :=
  match x with
  | .agg cs => match ty T s with
    | some { tk := .struct fs, .. } => match nth fs i with
      | some (o, e) => match evPart T e cs o with
        | some v => some (Eff.pure v)
        | none => none
      | none => none
    | _ => none
  | _ => none

theorem evField_sound {T : Tys} (hT : TysOk P T) (hH : HSat W0 Fr U H ρ w) {s : Nat} {x : SV} (hx : x.bd U) {i : Nat} {e : Eff} (h : evField T s x i = some e) :
    Done W0 Fr U H ρ nm e ((do pure (.value (← Instr.field s (x.den ρ) i)) : Sem Next).run P w) := by
  unfold evField at h
  split at h
  · rename_i cs
    split at h
    · rename_i fs _ _ _ hti
      split at h
      · rename_i o el hf
        split at h
        · rename_i v hv
          simp only [Option.some.injEq] at h
          subst h
          obtain ⟨d, f, h1, h2, rfl, rfl⟩ := struct_field (hT s _ hti) rfl hf
          obtain ⟨h3, h4⟩ := evPart_sound hT (by simpa [SV.bd] using hx) hv ρ w
          refine Done.same hH h4 ?_
          simp [Instr.field, run_underlying h1, h2, SV.den, asAgg, h3]
        · cases h
      · cases h
    · cases h
  · cases h

end
end Go.Sx
