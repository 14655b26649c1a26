/- append: the effect on named memory. -/
import Derived.Test.YtcjhgngdhdcpeaaSx11
import Derived.Laws.AppendOwn
namespace Go.Sx
open Go.RowKit

/-! ### More cells behind -/
def allOne : List SV → Bool
  | [] => true
  | v :: r => v.one && allOne r

def intsOf (k : IntKind) : List SV → Option (List Int)
  | [] => some []
  | .int k' x :: r => match kEq k k' with
    | true => match intsOf k r with
      | some xs => some (x :: xs)
      | none => none
    | false => none
  | _ => none

def fltsOf (k : FloatKind) : List SV → Option (List Nat)
  | [] => some []
  | .flt k' x :: r => match fkEq k k' with
    | true => match fltsOf k r with
      | some xs => some (x :: xs)
      | none => none
    | false => none
  | _ => none

def more {α : Type} (n : Nat) (g : Nat → α) (xs : List α) (d : α) : Nat → α := fun i => if i < n then g i else xs.getD (i - n) d

def Cont.app (c : Cont) (vs : List SV) : Option Cont :=
  match c with
  | .cells l => some (.cells (l ++ vs))
  | .ints k n g => match intsOf k vs with
    | some xs => some (.ints k (n + xs.length) (more n g xs 0))
    | none => none
  | .flts k n g => match fltsOf k vs with
    | some xs => some (.flts k (n + xs.length) (more n g xs 0))
    | none => none
  | .gen n f => some (.gen (n + vs.length) (more n f vs .nilp))

theorem intsOf_spec {k : IntKind} : ∀ {vs : List SV} {xs : List Int}, intsOf k vs = some xs → vs = xs.map (SV.int k)
  | [], xs, h => by simp only [intsOf, Option.some.injEq] at h; subst h; rfl
  | v :: r, xs, h => by
    unfold intsOf at h
    split at h
    · rename_i he; cases he
    · rename_i k' x r' he
      injection he with h1 h2
      subst h1; subst h2
      split at h
      · rename_i hk
        have := kEq_eq hk
        subst this
        split at h
        · rename_i ys hys
          simp only [Option.some.injEq] at h
          subst h
          simp [intsOf_spec hys]
        · cases h
      · cases h
    · cases h

theorem fltsOf_spec {k : FloatKind} : ∀ {vs : List SV} {xs : List Nat}, fltsOf k vs = some xs → vs = xs.map (SV.flt k)
  | [], xs, h => by simp only [fltsOf, Option.some.injEq] at h; subst h; rfl
  | v :: r, xs, h => by
    unfold fltsOf at h
    split at h
    · rename_i he; cases he
    · rename_i k' x r' he
      injection he with h1 h2
      subst h1; subst h2
      split at h
      · rename_i hk
        have := fkEq_eq hk
        subst this
        split at h
        · rename_i ys hys
          simp only [Option.some.injEq] at h
          subst h
          simp [fltsOf_spec hys]
        · cases h
      · cases h
    · cases h

theorem more_lo {α : Type} {n i : Nat} {g : Nat → α} {xs : List α} {d : α} (h : i < n) : more n g xs d i = g i := if_pos h
theorem more_hi {α : Type} {n j : Nat} {g : Nat → α} {xs : List α} {d x : α} (h : xs[j]? = some x) : more n g xs d (n + j) = x := by
  unfold more
  rw [if_neg (by omega), Nat.add_sub_cancel_left, List.getD_eq_getElem?_getD, h]
  rfl

theorem Cont.app_spec {c c' : Cont} {vs : List SV} (h : c.app vs = some c') : c'.size = c.size + vs.length ∧ (∀ i, i < c.size → c'.at i = c.at i) ∧ ∀ j v, vs[j]? = some v → c'.at (c.size + j) = v := by
  cases c with
  | cells l =>
    simp only [Cont.app, Option.some.injEq] at h
    subst h
    refine ⟨by simp [Cont.size], fun i hi => ?_, fun j v hv => ?_⟩
    · have hi' : i < l.length := hi
      simp [Cont.at, getL_eq, List.getElem?_append_left hi']
    · simp only [Cont.at, Cont.size, getL_eq]
      rw [List.getElem?_append_right (Nat.le_add_right _ _), Nat.add_sub_cancel_left, hv]
      rfl
  | ints k n g =>
    simp only [Cont.app] at h
    split at h
    · rename_i xs hxs
      have hv := intsOf_spec hxs
      simp only [Option.some.injEq] at h
      subst h
      refine ⟨by simp [Cont.size, hv], fun i hi => ?_, fun j v hj => ?_⟩
      · have hi' : i < n := hi
        simp only [Cont.at]; rw [more_lo hi']
      · rw [hv] at hj
        simp only [List.getElem?_map, Option.map_eq_some_iff] at hj
        obtain ⟨x, hx, rfl⟩ := hj
        simp only [Cont.at, Cont.size]; rw [more_hi hx]
    · cases h
  | flts k n g =>
    simp only [Cont.app] at h
    split at h
    · rename_i xs hxs
      have hv := fltsOf_spec hxs
      simp only [Option.some.injEq] at h
      subst h
      refine ⟨by simp [Cont.size, hv], fun i hi => ?_, fun j v hj => ?_⟩
      · have hi' : i < n := hi
        simp only [Cont.at]; rw [more_lo hi']
      · rw [hv] at hj
        simp only [List.getElem?_map, Option.map_eq_some_iff] at hj
        obtain ⟨x, hx, rfl⟩ := hj
        simp only [Cont.at, Cont.size]; rw [more_hi hx]
    · cases h
  | gen n f =>
    simp only [Cont.app, Option.some.injEq] at h
    subst h
    refine ⟨rfl, fun i hi => ?_, fun j v hj => ?_⟩
    · have hi' : i < n := hi
      simp only [Cont.at]; rw [more_lo hi']
    · simp only [Cont.at, Cont.size]; rw [more_hi hj]

theorem allOne_spec : ∀ {vs : List SV}, allOne vs = true → ∀ v ∈ vs, v.one = true
  | [], _, _, h => by simp at h
  | x :: r, h, v, hv => by
    simp only [allOne, Bool.and_eq_true] at h
    rcases List.mem_cons.1 hv with rfl | hv
    · exact h.1
    · exact allOne_spec h.2 v hv

/-! ### append -/
def dead : Ob := ⟨false, 0, .cells [], 0⟩

/-- The elements that are appended: how many, their cells, the piece that they lie in. -/
def evSrc (rd : Nm → Option Ob) (sz : Nat) (x : SV) : Option (Nat × List SV × Nm × Option Prop) :=
  match x with
  | .slc m off len _ => match rd m with
    | some ob => match ob.c.getN off (len * sz) with
      | some vs => some (len, vs, m, ob.c.inbO off (len * sz))
      | none => none
    | none => none
  | .slcc m len => match rd m with
    | some ob => match ob.c.getN 0 (len * sz) with
      | some vs => some (len, vs, m, ob.c.inbO 0 (len * sz))
      | none => none
    | none => none
  | _ => none

def andP (p : Option Prop) (q : Prop) : Option Prop :=
  match p with
  | none => some q
  | some p => some (p ∧ q)
theorem andP_ok {p : Option Prop} {q : Prop} (h : okP (andP p q)) : okP p ∧ q := by
  cases p with
  | none => exact ⟨trivial, h⟩
  | some p => exact h

def evAppend (T : Tys) (rd : Nm → Option Ob) (nm : Nm) (t : Nat) (s x : SV) : Option Eff :=
  match ty T t with
  | some { tk := .slice e, .. } => match ty T e with
    | some te => match evSrc rd te.size x with
      | some (m, vs, mn, p) => match Nat.ble 1 te.size && Nat.ble 1 m && allOne vs with
        | true => match s with
          | .nils => match Nat.ble (m * te.bytes) 140737488355328 && Nat.ble m 9223372036854775807 with
            | true => some ⟨some (.slcc nm m), [], [(nm, ⟨true, e, .cells vs, te.size⟩)], [mn], p⟩
            | false => none
          | .slcc n len => match rd n with
            | some ⟨true, el, c, es⟩ => match Nat.beq el e && Nat.beq es te.size with
              | true => match c.app vs with
                | some c' => some ⟨some (.slcc nm (len + m)), [(n, dead)], [(nm, ⟨true, e, c', te.size⟩)], [mn, n],
                    andP p (c.size = len * te.size ∧ (len + m) * te.bytes ≤ 140737488355328 ∧ len + m ≤ maxLen)⟩
                | none => none
              | false => none
            | _ => none
          | _ => none
        | false => none
      | none => none
    | none => none
  | _ => none

section
variable {P : Program} {W0 : World} {Fr : Nat → Prop} {U : Nm → Prop} {H : Heap} {ρ : Rho} {w : World} {nm : Nm}

theorem HSat.kill (h : HSat W0 Fr U H ρ w) {n : Nm} {o : Ob} (hn : look H n = some o) : HSat W0 Fr U ((n, dead) :: H) ρ w :=
  { h with
    used := fun m o' hm => by
      rw [look_cons] at hm
      split at hm
      · rename_i e; subst e; exact h.used _ o hn
      · exact h.used m o' hm
    bd := fun m o' hm => by
      rw [look_cons] at hm
      split at hm
      · cases hm; intro i hi; simp [dead, Cont.size] at hi
      · exact h.bd m o' hm
    obj := fun m o' hm => by
      rw [look_cons] at hm
      split at hm
      · cases hm
        cases ρ m with
        | none => rfl
        | some p =>
          obtain ⟨b, off, cp⟩ := p
          refine ⟨fun i hi => ?_, fun hr => ?_⟩
          · simp [dead, Cont.size] at hi
          · simp [dead] at hr
      · exact h.obj m o' hm
    inj := fun m1 m2 o1 o2 p q h1 h2 hne hr hr2 hp hq => by
      rw [look_cons] at h1 h2
      split at h1
      · cases h1; simp [dead] at hr
      · split at h2
        · cases h2; simp [dead, Cont.size] at hr2
        · exact h.inj m1 m2 o1 o2 p q h1 h2 hne hr hr2 hp hq
    free := fun m o' p hm hr hp => by
      rw [look_cons] at hm
      split at hm
      · cases hm; simp [dead] at hr
      · exact h.free m o' p hm hr hp }

/-- The piece n is written anew, and has the new name nm from now on. -/
theorem HSat.renew (h : HSat W0 Fr U H ρ w) {n : Nm} {o : Ob} (hn : look H n = some o) (hr : o.rw = true) {g off cp : Nat} (hp : ρ n = some (g, off, cp)) (hnm : ¬ U nm)
    {arr : Array Value} {c' : Cont} {el es : Nat} (hg : ∃ cur, w.heap[g]? = some (.cells cur el (0, 0))) (hc : c'.bd U) (hs : c'.size ≤ arr.size ∧ (0 < es → arr.size = cp * es) ∧ cp ≤ maxLen)
    (ha : ∀ i, i < c'.size → arr[i]? = some ((c'.at i).den ρ)) :
    HSat W0 Fr (fun m => U m ∨ m = nm) ((nm, ⟨true, el, c', es⟩) :: (n, dead) :: H) (ρ.set nm (g, 0, cp)) (w.setRow g arr) := by
  have hk := h.kill hn
  have hfr : ¬ Fr g := h.free n o _ hn hr hp
  obtain ⟨cur, hg⟩ := hg
  have hother : ∀ k, k ≠ g → (w.setRow g arr).heap[k]? = w.heap[k]? := fun k hne => setRow_other w g k _ hne
  have hself : (w.setRow g arr).heap[g]? = some (.cells arr el (0, 0)) := setRow_heap w g cur arr el (0, 0) hg
  have hne : ∀ m o', look ((n, dead) :: H) m = some o' → (o'.rw = true ∨ 0 < o'.c.size) → ∀ p, ρ m = some p → p.1 ≠ g := by
    intro m o' hm ho p hpm e
    rw [look_cons] at hm
    split at hm
    · cases hm; simp [dead, Cont.size] at ho
    · rename_i hnm'
      exact h.inj n m o o' (g, off, cp) p hn hm hnm' hr ho hp hpm e.symm
  refine {
    os := h.os, tape := h.tape, output := h.output
    size := by rw [show (w.setRow g arr).heap.size = w.heap.size by simp [World.setRow]]; exact h.size
    frlt := h.frlt
    frame := fun k hk' => by rw [hother k (fun e => hfr (e ▸ hk'))]; exact h.frame k hk'
    used := fun m o' hm => ?_
    bd := fun m o' hm => ?_
    obj := fun m o' hm => ?_
    inj := fun m1 m2 o1 o2 p q h1 h2 hne' hr1 hr2 hp1 hq => ?_
    free := fun m o' p hm hr' hp' => ?_ }
  · rw [look_cons] at hm
    split at hm
    · rename_i e; exact .inr e.symm
    · exact .inl (hk.used m o' hm)
  · rw [look_cons] at hm
    split at hm
    · cases hm; exact Cont.bd_mono (fun _ h => .inl h) hc
    · exact Cont.bd_mono (fun _ h => .inl h) (hk.bd m o' hm)
  · rw [look_cons] at hm
    split at hm
    · rename_i e; subst e; cases hm
      rw [Rho.set_self]
      refine ⟨fun i hi => ?_, fun _ => ⟨rfl, arr, hself, hs⟩⟩
      rw [SV.den_congr (Rho.set_agree hnm) _ (hc i hi), ← ha i hi]
      simp only [World.cell?, hself]
      simp
    · have hm' := hk.used m o' hm
      rw [Rho.set_agree hnm m hm']
      exact (hk.obj m o' hm).congr (fun b off' cp' hb hs' _ => hother b (hne m o' hm hs' _ hb)) (fun i hi => SV.den_congr (Rho.set_agree hnm) _ (hk.bd m o' hm i hi))
  · rw [look_cons] at h1 h2
    split at h1
    · rename_i e; subst e
      rw [if_neg hne'] at h2
      rw [Rho.set_self] at hp1; cases hp1
      rw [Rho.set_agree hnm m2 (hk.used _ _ h2)] at hq
      exact fun e => hne m2 o2 h2 hr2 q hq e.symm
    · rw [Rho.set_agree hnm m1 (hk.used _ _ h1)] at hp1
      split at h2
      · rename_i e; subst e
        rw [Rho.set_self] at hq; cases hq
        exact hne m1 o1 h1 (.inl hr1) p hp1
      · rw [Rho.set_agree hnm m2 (hk.used _ _ h2)] at hq
        exact hk.inj m1 m2 o1 o2 p q h1 h2 hne' hr1 hr2 hp1 hq
  · rw [look_cons] at hm
    split at hm
    · rename_i e; subst e
      rw [Rho.set_self] at hp'; cases hp'
      exact hfr
    · rw [Rho.set_agree hnm m (hk.used _ _ hm)] at hp'
      exact hk.free m o' p hm hr' hp'

theorem evSrc_sound {sz : Nat} (hsz : 1 ≤ sz) (hH : HSat W0 Fr U H ρ w) {x : SV} {m : Nat} {vs : List SV} {mn : Nm} {p : Option Prop} (h : evSrc (look H) sz x = some (m, vs, mn, p)) (hp : okP p) (hm : 1 ≤ m) :
    ∃ b off cap, x.den ρ = .slice (some ⟨b, off, none⟩) m cap ∧ vs.length = m * sz ∧ bdL U vs ∧ ∀ j u, (denL ρ vs)[j]? = some u → w.cell? ((⟨b, off, none⟩ : Addr).add j) = some u := by
  have key : ∀ (k : Nm) (ob : Ob) (off : Nat), look H k = some ob → ob.c.getN off (m * sz) = some vs → ob.c.inb off (m * sz) →
      ∃ b o cp, ρ k = some (b, o, cp) ∧ vs.length = m * sz ∧ bdL U vs ∧ ∀ j u, (denL ρ vs)[j]? = some u → w.cell? ((⟨b, o + off, none⟩ : Addr).add j) = some u := by
    intro k ob off hob hvs hb
    obtain ⟨hl, hv⟩ := Cont.getN_spec hvs hb
    have hpos : 0 < vs.length := by rw [hl]; exact Nat.mul_pos (by omega) (by omega)
    obtain ⟨b, o, cp, hρ, _⟩ := hH.cell hob (i := off) (by
      have := hv 0 (vs[0]'hpos) (by simp [hpos])
      simpa using this.1)
    refine ⟨b, o, cp, hρ, hl, ?_, fun j u hu => ?_⟩
    · rw [bdL_iff]
      intro x hx
      obtain ⟨j, hj, rfl⟩ := List.getElem_of_mem hx
      obtain ⟨h1, h2⟩ := hv j _ (List.getElem?_eq_getElem hj)
      rw [← h2]
      exact hH.bd k ob hob _ h1
    · rw [denL_eq] at hu
      simp only [List.getElem?_map, Option.map_eq_some_iff] at hu
      obtain ⟨x, hx, rfl⟩ := hu
      obtain ⟨h1, h2⟩ := hv j x hx
      obtain ⟨b', o', cp', hρ', hc⟩ := hH.cell hob h1
      rw [hρ] at hρ'
      injection hρ' with e; injection e with e1 e2; injection e2 with e2 e3; subst e1; subst e2
      rw [h2] at hc
      rw [Addr.add_lit, ← hc, Nat.add_assoc]
  unfold evSrc at h
  split at h
  · rename_i k off len cap
    split at h
    · rename_i ob hob
      split at h
      · rename_i us hus
        simp only [Option.some.injEq, Prod.mk.injEq] at h
        obtain ⟨rfl, rfl, rfl, rfl⟩ := h
        obtain ⟨b, o, cp, hρ, h1, h2, h3⟩ := key k ob off hob hus (Cont.inbO_ok hp)
        exact ⟨b, o + off, cap, by simp [SV.den, Rho.addr, hρ], h1, h2, h3⟩
      · cases h
    · cases h
  · rename_i k len
    split at h
    · rename_i ob hob
      split at h
      · rename_i us hus
        simp only [Option.some.injEq, Prod.mk.injEq] at h
        obtain ⟨rfl, rfl, rfl, rfl⟩ := h
        obtain ⟨b, o, cp, hρ, h1, h2, h3⟩ := key k ob 0 hob hus (Cont.inbO_ok hp)
        exact ⟨b, o + 0, cp, by simp [SV.den, Rho.addr, Rho.cap, hρ], h1, h2, h3⟩
      · cases h
    · cases h
  · cases h

theorem TOk.zero_row {t : Nat} {ti : TI} (h : TOk P t ti) : ∃ i z, P.info? t = some i ∧ i.zero = some z ∧ i.size = ti.size ∧ i.bytes = ti.bytes ∧ z.cells.size = ti.size := by
  have hz := h.zero
  rw [Option.map_eq_some_iff] at hz
  obtain ⟨z, hz, he⟩ := hz
  rw [Option.bind_eq_some_iff] at hz
  obtain ⟨i, hi, hz⟩ := hz
  obtain ⟨i', hi', h1, h2⟩ := h.run_info
  rw [hi] at hi'
  injection hi' with e
  subst e
  refine ⟨i, z, hi, hz, h1, h2, ?_⟩
  have := congrArg List.length he
  rw [← h.zsz]
  simpa [zvals] using this

theorem bd_app {c c' : Cont} {vs : List SV} (h : c.app vs = some c') (hc : c.bd U) (hv : bdL U vs) : c'.bd U := by
  obtain ⟨h1, h2, h3⟩ := Cont.app_spec h
  intro i hi
  rw [h1] at hi
  by_cases hlt : i < c.size
  · rw [h2 i hlt]; exact hc i hlt
  · have hj : i - c.size < vs.length := by omega
    have := h3 (i - c.size) _ (List.getElem?_eq_getElem hj)
    rw [show c.size + (i - c.size) = i by omega] at this
    rw [this]
    exact (bdL_iff U vs).1 hv _ (List.getElem_mem hj)

theorem app_get {c c' : Cont} {vs : List SV} (h : c.app vs = some c') (ρ : Rho) (rest : List Value) : ∀ i, i < c'.size →
    ((List.range c.size).map (fun i => (c.at i).den ρ) ++ (denL ρ vs ++ rest))[i]? = some ((c'.at i).den ρ) := by
  obtain ⟨h1, h2, h3⟩ := Cont.app_spec h
  intro i hi
  rw [h1] at hi
  by_cases hlt : i < c.size
  · rw [h2 i hlt, List.getElem?_append_left (by simpa using hlt)]
    simp [hlt]
  · have hj : i - c.size < vs.length := by omega
    have := h3 (i - c.size) _ (List.getElem?_eq_getElem hj)
    rw [show c.size + (i - c.size) = i by omega] at this
    rw [this, List.getElem?_append_right (by simpa using hlt)]
    simp only [List.length_map, List.length_range]
    rw [List.getElem?_append_left (by simpa [denL_eq] using hj)]
    simp [denL_eq, hj]

theorem names2 {nm : Nm} {V : Nm → Prop} (h : HSat W0 Fr (fun m => V m ∨ m = nm) H ρ w) : HSat W0 Fr (UU V nm) H ρ w := h.mono fun n h => by
  rcases h with h | h
  · exact .inl h
  · subst h; exact .inr ⟨Nat.le_refl _, Nat.lt_add_of_pos_right (by decide)⟩

theorem evAppend_sound {T : Tys} (hT : TysOk P T) (hH : HSat W0 Fr U H ρ w) (hn : ¬ U nm) {t : Nat} {s x : SV} {e : Eff} (h : evAppend T (look H) nm t s x = some e) (ho : okP e.obl) (ty' : Nat) :
    Done W0 Fr U H ρ nm e ((do pure (.value (← Builtin.append_ #[t, t] ty' #[s.den ρ, x.den ρ])) : Sem Next).run P w) := by
  have hnmU : (SV.slcc nm 0).bd (UU U nm) := .inr ⟨Nat.le_refl _, Nat.lt_add_of_pos_right (by decide)⟩
  unfold evAppend at h
  split at h
  · rename_i el _ _ _ hti
    split at h
    · rename_i te hte
      split at h
      · rename_i m vs mn p hsrc
        split at h
        · rename_i hb
          simp only [Bool.and_eq_true] at hb
          have hsz := Nat.le_of_ble_eq_true hb.1.1
          have hm := Nat.le_of_ble_eq_true hb.1.2
          have hone := allOne_spec hb.2
          obtain ⟨d, hd, hd2⟩ := (hT t _ hti).desc
          cases d <;> simp only [tkOf, TK.slice.injEq, reduceCtorEq] at hd2
          subst hd2
          rename_i el
          obtain ⟨i, z, hi, hz, hsi, hby, hzs⟩ := (hT el _ hte).zero_row
          split at h
          · split at h
            · rename_i hfit
              simp only [Bool.and_eq_true] at hfit
              have hf1 := Nat.le_of_ble_eq_true hfit.1
              have hf2 := Nat.le_of_ble_eq_true hfit.2
              simp only [Option.some.injEq] at h
              subst h
              obtain ⟨b, off, cap, hx, hl, hbd, hcell⟩ := evSrc_sound (w := w) hsz hH hsrc ho hm
              have hr := run_append_nil (P := P) w t ty' el i z hd hi hz ⟨b, off, none⟩ m cap (denL ρ vs) (by simp [denL_eq, hl, hsi]) hcell (by omega) (by omega) (by rw [hby]; omega)
              have hge := grownCap_ge w m 0 el
              have hcm := grownCap_le_maxLen w m 0 el (by simp only [maxLen]; omega)
              have hsize : ((denL ρ vs).toArray ++ Builtin.zeroCells z.cells (grownCap w m 0 el - m)).size = grownCap w m 0 el * te.size := by
                simp only [Array.size_append, List.size_toArray, size_zeroCells, hzs, denL_eq, List.length_map, hl, ← Nat.add_mul]
                congr 1; omega
              have hA := (hH.drew.alloc hn (t := el) (c := .cells vs) (es := te.size) (cp := grownCap w m 0 el) (arr := (denL ρ vs).toArray ++ Builtin.zeroCells z.cells (grownCap w m 0 el - m)) (cells_bd hbd)
                ⟨by rw [hsize]; show vs.length ≤ _; rw [hl]; exact Nat.mul_le_mul_right _ hge, fun _ => hsize, hcm⟩ (fun j hj => by
                  rw [Array.getElem?_append_left (by rw [(cells_get ρ vs).1]; exact hj)]
                  exact (cells_get ρ vs).2 j hj))
              refine ⟨_, _, Rho.set_agree hn, names2 hA, hnmU, ?_⟩
              simp only [SV.den] at hx ⊢
              simp [hx, hr, Rho.addr, Rho.cap, Rho.set_self]
            · cases h
          · rename_i n len
            split at h
            · rename_i el' c es hob
              split at h
              · rename_i hbe
                simp only [Bool.and_eq_true] at hbe
                have he1 := Nat.eq_of_beq_eq_true hbe.1
                have he2 := Nat.eq_of_beq_eq_true hbe.2
                subst he1
                subst he2
                split at h
                · rename_i c' hc'
                  simp only [Option.some.injEq] at h
                  subst h
                  obtain ⟨hp, hcs, hby2, hlm⟩ := andP_ok ho
                  obtain ⟨b, off, cap, hx, hl, hbd, hcell⟩ := evSrc_sound (w := w) hsz hH hsrc hp hm
                  obtain ⟨hs1, _, _⟩ := Cont.app_spec hc'
                  have hs1' : c'.size = (len + m) * te.size := by rw [hs1, hcs, hl, Nat.add_mul]
                  have hobj := hH.obj n _ hob
                  have hbdc := hH.bd n _ hob
                  -- what grows
                  have grows : ∀ (oldc : Nat) (olds : List Value), oldc < len + m → olds = (List.range c.size).map (fun i => (c.at i).den ρ) →
                      (Builtin.append_ #[t, t] ty' #[(SV.slcc n len).den ρ, x.den ρ]).run P w = .ok (.slice (some ⟨w.heap.size, 0, none⟩) (len + m) (grownCap w (len + m) oldc el'))
                        (w.drew.alloc (.cells (olds.toArray ++ (denL ρ vs).toArray ++ Builtin.zeroCells z.cells (grownCap w (len + m) oldc el' - (len + m))) el')) →
                      Done W0 Fr U H ρ nm ⟨some (.slcc nm (len + m)), [(n, dead)], [(nm, ⟨true, el', c', te.size⟩)], [mn, n], andP p (c.size = len * te.size ∧ (len + m) * te.bytes ≤ 140737488355328 ∧ len + m ≤ maxLen)⟩
                        ((do pure (.value (← Builtin.append_ #[t, t] ty' #[(SV.slcc n len).den ρ, x.den ρ])) : Sem Next).run P w) := by
                    intro oldc olds hlt holds hr
                    have hge := grownCap_ge w (len + m) oldc el'
                    have hcm := grownCap_le_maxLen w (len + m) oldc el' hlm
                    have hol : olds.length = len * te.size := by rw [holds]; simp [hcs]
                    have hsize : (olds.toArray ++ (denL ρ vs).toArray ++ Builtin.zeroCells z.cells (grownCap w (len + m) oldc el' - (len + m))).size = grownCap w (len + m) oldc el' * te.size := by
                      simp only [Array.size_append, List.size_toArray, size_zeroCells, hzs, denL_eq, List.length_map, hl, hol, ← Nat.add_mul]
                      congr 1; omega
                    have hA := (hH.drew.alloc hn (t := el') (c := c') (es := te.size) (cp := grownCap w (len + m) oldc el') (arr := olds.toArray ++ (denL ρ vs).toArray ++ Builtin.zeroCells z.cells (grownCap w (len + m) oldc el' - (len + m))) (bd_app hc' hbdc hbd)
                      ⟨by rw [hsize, hs1']; exact Nat.mul_le_mul_right _ hge, fun _ => hsize, hcm⟩ (fun j hj => by
                        have := app_get hc' ρ (Builtin.zeroCells z.cells (grownCap w (len + m) oldc el' - (len + m))).toList j hj
                        rw [← this, ← holds, ← Array.getElem?_toList]
                        simp))
                    have hne : nm ≠ n := fun e => hn (e ▸ hH.used n _ hob)
                    have hK := hA.kill (n := n) (o := ⟨true, el', c, te.size⟩) (by rw [look_cons, if_neg hne]; exact hob)
                    refine ⟨_, _, Rho.set_agree hn, names2 hK, hnmU, ?_⟩
                    rw [Sem.run_bind, hr]
                    simp [SV.den, Rho.addr, Rho.cap, Rho.set_self]
                  cases hρ : ρ n with
                  | none =>
                    rw [hρ] at hobj
                    have hc0 : c.size = 0 := hobj
                    have hlen : len = 0 := by
                      rw [hc0] at hcs
                      rcases Nat.eq_zero_or_pos len with h0 | h0
                      · exact h0
                      · have := Nat.mul_pos h0 (show 0 < te.size by omega); omega
                    subst hlen
                    have hr := run_append_nil (P := P) w t ty' el' i z hd hi hz ⟨b, off, none⟩ m cap (denL ρ vs) (by simp [denL_eq, hl, hsi]) hcell (by omega) (by simp only [maxLen] at hlm; omega) (by rw [hby]; rw [Nat.zero_add] at hby2; omega)
                    refine grows 0 [] (by omega) (by simp [hc0]) ?_
                    simp only [SV.den, Rho.addr, Rho.cap, hρ, Option.map_none, hx, hr, Nat.zero_add]
                    simp
                  | some q =>
                    obtain ⟨g, o2, cp⟩ := q
                    rw [hρ] at hobj
                    obtain ⟨hcells, hrow⟩ := hobj
                    obtain ⟨rfl, cur, hcur, hcl, hes, hcpm⟩ := hrow rfl
                    have hcp : cur.size = cp * te.size := hes (show 0 < te.size by omega)
                    have hsden : (SV.slcc n len).den ρ = .slice (some ⟨g, 0, none⟩) len cp := by simp [SV.den, Rho.addr, Rho.cap, hρ]
                    have hcell' : ∀ j, j < c.size → cur[j]? = some ((c.at j).den ρ) := by
                      intro j hj
                      have := hcells j hj
                      simp only [World.cell?, hcur] at this
                      simpa using this
                    by_cases hroom : len + m ≤ cp
                    · have hfit : len * i.size + (denL ρ vs).length ≤ cur.size := by
                        rw [hsi, hcp]; simp only [denL_eq, List.length_map, hl, ← Nat.add_mul]; exact Nat.mul_le_mul_right _ hroom
                      have hr := run_append_room (P := P) w t ty' el' i hd hi g len cp cur hcur ⟨b, off, none⟩ m cap (denL ρ vs) (by simp [denL_eq, hl, hsi]) hcell (by
                        intro u hu
                        rw [denL_eq] at hu
                        obtain ⟨y, hy, rfl⟩ := List.mem_map.1 hu
                        exact SV.one_den ρ (hone y hy)) hroom hfit
                      have htake : cur.toList.take (len * i.size) = (List.range c.size).map (fun i => (c.at i).den ρ) := by
                        apply List.ext_getElem?
                        intro j
                        rw [hsi, ← hcs, List.getElem?_take]
                        by_cases hj : j < c.size
                        · rw [if_pos hj, Array.getElem?_toList, hcell' j hj]
                          simp [hj]
                        · rw [if_neg hj, List.getElem?_eq_none (by simp; omega)]
                      have hR := hH.renew (n := n) hob rfl hρ hn (g := g) (el := el') (es := te.size) (c' := c') (arr := (cur.toList.take (len * i.size) ++ denL ρ vs ++ cur.toList.drop (len * i.size + (denL ρ vs).length)).toArray)
                        ⟨cur, hcur⟩ (bd_app hc' hbdc hbd) (by
                          have hsz2 : (cur.toList.take (len * i.size) ++ denL ρ vs ++ cur.toList.drop (len * i.size + (denL ρ vs).length)).toArray.size = cur.size := by
                            simp only [List.size_toArray, List.length_append, List.length_take, List.length_drop, Array.length_toList]
                            omega
                          refine ⟨?_, fun _ => by rw [hsz2, hcp], hcpm⟩
                          rw [hsz2, hcp, hs1']
                          exact Nat.mul_le_mul_right _ hroom) (fun j hj => by
                          have := app_get hc' ρ (cur.toList.drop (len * i.size + (denL ρ vs).length)) j hj
                          rw [← this, ← htake]
                          simp)
                      have hne : nm ≠ n := fun e => hn (e ▸ hH.used n _ hob)
                      have hR2 := hR.lookEq (H' := (n, dead) :: (nm, ⟨true, el', c', te.size⟩) :: H) (fun k => by
                        simp only [look_cons]
                        by_cases h1 : n = k
                        · subst h1; simp [hne]
                        · simp [h1])
                      refine ⟨_, _, Rho.set_agree hn, names2 hR2, hnmU, ?_⟩
                      rw [hsden, hx, Sem.run_bind, hr]
                      simp [SV.den, Rho.addr, Rho.cap, Rho.set_self]
                    · have hr := run_append_grow (P := P) w t ty' el' i z hd hi hz ⟨g, 0, none⟩ len cp ((List.range c.size).map (fun i => (c.at i).den ρ)) (by simp [hcs, hsi]) (by
                          intro j v hj
                          rw [Addr.add_lit]
                          have hjl : j < c.size := by simpa using (List.getElem?_eq_some_iff.1 hj).1
                          have := hcells j hjl
                          rw [this]
                          simp [hjl] at hj
                          simp [hj]) ⟨b, off, none⟩ m cap (denL ρ vs) (by simp [denL_eq, hl, hsi]) hcell (by omega) (by simp only [maxLen] at hlm; omega) (growslice_fits (by omega) (by rw [hby]; exact hby2))
                      refine grows cp _ (by omega) rfl ?_
                      rw [hsden, hx, hr]
                · cases h
              · cases h
            · cases h
          · cases h
        · cases h
      · cases h
    · cases h
  · cases h

end
end Go.Sx
