/- Regions whose order is open: one walk in the order of the text serves every order, where operations without an order between them have nothing to do with one another. -/
import Derived.Test.YtcjhgngdhdcpeaaSx16
import Derived.Test.YtcjhgngdhdcpeaaSx14
import Derived.RegionTactic
namespace Go.Sx
open Go.RowKit

abbrev AS := Slots × Heap
abbrev Ent := Nat × Oper × Eff

def skipE : Eff := ⟨some (.tup []), [], [], [], none⟩

def lookB : List (Nat × Bool) → Nat → Option Bool
  | [], _ => none
  | (m, v) :: r, n => match Nat.beq m n with
    | true => some v
    | false => lookB r n

def litB : Bool → SV
  | true => .tt
  | false => .ff

def andO (p : Option Prop) (q : Prop) : Option Prop :=
  match p with
  | none => some q
  | some p => some (p ∧ q)

/-- A test that has been decided. -/
def decV (dec : List (Nat × Bool)) (i : Nat) (e : Eff) : Eff :=
  match lookB dec i with
  | none => e
  | some c => match e with
    | ⟨some (.bool b), wr, news, rds, obl⟩ => ⟨some (litB c), wr, news, rds, andO obl (b = c)⟩
    | e => e

def run1 (G : Ctx) (N : Nat) (dec : List (Nat × Bool)) (i : Nat) (o : Oper) (s : AS) : Option Eff :=
  match evAny G (opr s.1) (look s.2) (N + 4 * i) o.op with
  | some e => some (decV dec i e)
  | none => none

def step1 (G : Ctx) (nt N : Nat) (ops : List Oper) (dec : List (Nat × Bool)) (i : Nat) (o : Oper) (s : AS) : Option Eff :=
  match (match o.dst with | none => true | some d => Nat.blt d nt) with
  | false => none
  | true => match o.guard with
    | none => run1 G N dec i o s
    | some (j, want) => match gdst ops j with
      | none => none
      | some d => match slot s.1 d with
        | some .tt => match want with
          | true => run1 G N dec i o s
          | false => some skipE
        | some .ff => match want with
          | true => some skipE
          | false => run1 G N dec i o s
        | some (.tup []) => some skipE
        | _ => none

def app1 (o : Oper) (e : Eff) (s : AS) : AS :=
  (match o.dst with
    | some d => match e.val with
      | some v => (d, v) :: s.1
      | none => (d, .tup []) :: s.1
    | none => s.1, e.wr ++ (e.news ++ s.2))

def names : Heap → List Nm
  | [] => []
  | (n, _) :: r => n :: names r

def foot (e : Eff) : List Nm := names e.wr ++ names e.news

theorem look_append (n : Nm) : ∀ (a b : Heap), look (a ++ b) n = match look a n with | some o => some o | none => look b n
  | [], b => by simp [look]
  | (m, o) :: r, b => by
    simp only [List.cons_append, look_cons, look_append n r b]
    split <;> rfl

theorem look_names {n : Nm} : ∀ {a : Heap}, n ∉ names a → look a n = none
  | [], _ => rfl
  | (m, o) :: r, h => by
    simp only [names, List.mem_cons, not_or] at h
    rw [look_cons, if_neg (fun e => h.1 e.symm), look_names h.2]

theorem names_look {n : Nm} : ∀ {a : Heap} {o : Ob}, look a n = some o → n ∈ names a
  | [], o, h => by simp [look] at h
  | (m, u) :: r, o, h => by
    rw [look_cons] at h
    simp only [names, List.mem_cons]
    split at h
    · rename_i e; exact .inl e.symm
    · exact .inr (names_look h)

theorem look_app1 {o : Oper} {e : Eff} {s : AS} {n : Nm} (h : n ∉ foot e) : look (app1 o e s).2 n = look s.2 n := by
  simp only [foot, List.mem_append, not_or] at h
  simp only [app1, look_append, look_names h.1, look_names h.2]

theorem slot_app1 {o : Oper} {e : Eff} {s : AS} {t : Nat} (h : o.dst ≠ some t) : slot (app1 o e s).1 t = slot s.1 t := by
  simp only [app1]
  cases hd : o.dst with
  | none => rfl
  | some d =>
    have : d ≠ t := fun e => h (by rw [hd, e])
    cases e.val <;> simp [slot_cons, this]

def Same (s s' : AS) : Prop := (∀ t, slot s'.1 t = slot s.1 t) ∧ ∀ n, look s'.2 n = look s.2 n

theorem Same.refl (s : AS) : Same s s := ⟨fun _ => rfl, fun _ => rfl⟩
theorem Same.trans {a b c : AS} (h : Same a b) (h' : Same b c) : Same a c := ⟨fun t => (h'.1 t).trans (h.1 t), fun n => (h'.2 n).trans (h.2 n)⟩

theorem Same.app {s s' : AS} (h : Same s s') (o : Oper) (e : Eff) : Same (app1 o e s) (app1 o e s') := by
  refine ⟨fun t => ?_, fun n => ?_⟩
  · simp only [app1]
    cases o.dst with
    | none => exact h.1 t
    | some d => cases e.val <;> simp [slot_cons, h.1 t]
  · simp only [app1, look_append, h.2 n]

section
variable {P : Program} {G : Ctx} {nt N : Nat} {ops : List Oper} {dec : List (Nat × Bool)}

theorem run1_loc (hG : GamOk P G.Γ) {i : Nat} {o : Oper} {s s' : AS} {e : Eff} (h : run1 G N dec i o s = some e) (hs : ∀ t, Operand.tmp t ∈ o.op.operands → slot s'.1 t = slot s.1 t) (hr : ∀ n ∈ e.rds, look s'.2 n = look s.2 n) :
    run1 G N dec i o s' = some e := by
  unfold run1 at *
  split at h
  · rename_i e1 h1
    simp only [Option.some.injEq] at h
    have hrd : e.rds = e1.rds := by
      rw [← h]
      unfold decV
      split
      · rfl
      · split <;> rfl
    rw [hrd] at hr
    have := evAny_loc hG (ev' := opr s'.1) (rd' := look s'.2) h1 (fun x hx => by cases x <;> first | exact hs _ hx | rfl) hr
    rw [this, ← h]
  · cases h

theorem step1_loc (hG : GamOk P G.Γ) {i : Nat} {o : Oper} {s s' : AS} {e : Eff} (h : step1 G nt N ops dec i o s = some e) (hs : ∀ t ∈ o.looksAt ops.toArray, slot s'.1 t = slot s.1 t) (hr : ∀ n ∈ e.rds, look s'.2 n = look s.2 n) :
    step1 G nt N ops dec i o s' = some e := by
  have hop : ∀ t, Operand.tmp t ∈ o.op.operands → slot s'.1 t = slot s.1 t := fun t ht => hs t (by
    simp only [Oper.looksAt, List.mem_append, List.mem_filterMap]
    exact .inl ⟨.tmp t, by simpa using ht, rfl⟩)
  unfold step1 at *
  split at h
  · cases h
  · split at h
    · exact run1_loc hG h hop hr
    · rename_i j want hg
      split at h
      · cases h
      · rename_i d hgd
        have hdst : (ops.toArray[j]?).bind (·.dst) = some d := by
          unfold gdst at hgd
          rw [nth_eq] at hgd
          split at hgd
          · rename_i o' ho'; simp [ho', hgd]
          · cases hgd
        have hsd : slot s'.1 d = slot s.1 d := hs d (by
          simp only [Oper.looksAt, hg, List.mem_append]
          refine .inr ?_
          rw [hdst]; simp)
        rw [hsd]
        split at h
        · split at h
          · exact run1_loc hG h hop hr
          · exact h
        · split at h
          · exact h
          · exact run1_loc hG h hop hr
        · exact h
        · cases h

/-- Two operations that have nothing to do with one another. -/
structure Indep (ops : List Oper) (oi oj : Oper) (ei ej : Eff) : Prop where
  ap : oi.apart ops.toArray oj = true
  rd : ∀ n ∈ ej.rds, n ∉ foot ei
  dr : ∀ n ∈ ei.rds, n ∉ foot ej
  wr : ∀ n ∈ foot ei, n ∉ foot ej

theorem swap (hG : GamOk P G.Γ) {i j : Nat} {oi oj : Oper} {s : AS} {ei ej : Eff} (hi : step1 G nt N ops dec i oi s = some ei) (hj : step1 G nt N ops dec j oj (app1 oi ei s) = some ej) (h : Indep ops oi oj ei ej) :
    step1 G nt N ops dec j oj s = some ej ∧ step1 G nt N ops dec i oi (app1 oj ej s) = some ei ∧ Same (app1 oj ej (app1 oi ei s)) (app1 oi ei (app1 oj ej s)) := by
  obtain ⟨h1, h2, h3⟩ := Oper.apart_spec h.ap
  refine ⟨?_, ?_, ?_, ?_⟩
  · exact step1_loc hG hj (fun t ht => (slot_app1 (fun hd => h1 t hd ht)).symm) (fun n hn => (look_app1 (h.rd n hn)).symm)
  · exact step1_loc hG hi (fun t ht => slot_app1 (fun hd => h3 t hd ht)) (fun n hn => look_app1 (h.dr n hn))
  · intro t
    by_cases ht : oi.dst = some t
    · have hne : oj.dst ≠ some t := h2 t ht
      rw [slot_app1 hne]
      simp only [app1, ht]
      cases ei.val <;> simp [slot_cons]
    · rw [slot_app1 ht]
      by_cases ht2 : oj.dst = some t
      · simp only [app1, ht2]
        cases ej.val <;> simp [slot_cons]
      · rw [slot_app1 ht2, slot_app1 ht2, slot_app1 ht]
  · intro n
    by_cases hn : n ∈ foot ei
    · have hn2 := h.wr n hn
      rw [look_app1 hn2]
      simp only [app1, look_append]
      simp only [foot, List.mem_append, not_or] at hn hn2
      cases hw : look ei.wr n with
      | some x => rfl
      | none =>
        cases hw2 : look ei.news n with
        | some x => rfl
        | none => simp [look_names hn2.1, look_names hn2.2]
    · rw [look_app1 hn]
      simp only [app1, look_append]
      simp only [foot, List.mem_append, not_or] at hn
      simp [look_names hn.1, look_names hn.2]

/-- The operations of l, one behind the other, come to what is written beside them. -/
def Runs (G : Ctx) (nt N : Nat) (ops : List Oper) (dec : List (Nat × Bool)) : List Ent → AS → Prop
  | [], _ => True
  | (i, o, e) :: r, s => step1 G nt N ops dec i o s = some e ∧ Runs G nt N ops dec r (app1 o e s)

def fin : List Ent → AS → AS
  | [], s => s
  | (_, o, e) :: r, s => fin r (app1 o e s)

theorem Runs.same (hG : GamOk P G.Γ) : ∀ {l : List Ent} {s s' : AS}, Same s s' → Runs G nt N ops dec l s → Runs G nt N ops dec l s' ∧ Same (fin l s) (fin l s')
  | [], s, s', h, _ => ⟨trivial, h⟩
  | (i, o, e) :: r, s, s', h, hr => by
    obtain ⟨h1, h2⟩ := hr
    have h3 := step1_loc hG h1 (s' := s') (fun t _ => h.1 t) (fun n _ => h.2 n)
    obtain ⟨h4, h5⟩ := Runs.same hG (h.app o e) h2
    exact ⟨⟨h3, h4⟩, h5⟩

theorem bubble (hG : GamOk P G.Γ) {i : Nat} {o : Oper} {e : Eff} {post : List Ent} : ∀ {pre : List Ent} {s : AS}, Runs G nt N ops dec (pre ++ (i, o, e) :: post) s → (∀ x ∈ pre, Indep ops x.2.1 o x.2.2 e) →
    step1 G nt N ops dec i o s = some e ∧ Runs G nt N ops dec (pre ++ post) (app1 o e s) ∧ Same (fin (pre ++ (i, o, e) :: post) s) (fin (pre ++ post) (app1 o e s))
  | [], s, h, _ => ⟨h.1, h.2, Same.refl _⟩
  | (k, ok, ek) :: pre, s, h, hi => by
    obtain ⟨h1, h2⟩ := h
    obtain ⟨h3, h4, h5⟩ := bubble hG h2 (fun x hx => hi x (by simp [hx]))
    obtain ⟨h6, h7, h8⟩ := swap hG h1 h3 (hi (k, ok, ek) (by simp))
    obtain ⟨h9, h10⟩ := Runs.same hG h8 h4
    exact ⟨h6, ⟨h7, h9⟩, h5.trans h10⟩

end
end Go.Sx
