/- Regions whose order is open: from the walk in the order of the text to the machine. -/
import Derived.Test.YtcjhgngdhdcpeaaSx17
namespace Go.Sx
open Go.RowKit

/-! ### Which operations wait for which -/
def maskOf (acc : List Nat) (o : Oper) : Nat :=
  o.after.toList.foldl (fun s e => match Region.binds .any e with
    | true => (s ||| 2 ^ e.on) ||| ((nth acc e.on).getD 0)
    | false => s) 0

def befGo : List Oper → List Nat → List Nat
  | [], acc => acc
  | o :: r, acc => befGo r (acc ++ [maskOf acc o])

theorem befGo_take : ∀ (l : List Oper) (acc : List Nat), (befGo l acc).take acc.length = acc
  | [], acc => by simp [befGo]
  | o :: r, acc => by
    have h := befGo_take r (acc ++ [maskOf acc o])
    simp only [befGo]
    have h2 : (befGo r (acc ++ [maskOf acc o])).take acc.length = ((befGo r (acc ++ [maskOf acc o])).take (acc ++ [maskOf acc o]).length).take acc.length := by
      rw [List.take_take]; congr 1; simp
    rw [h2, h]; simp

theorem befGo_get : ∀ (l : List Oper) (acc : List Nat) (i : Nat) (o : Oper), l[i]? = some o → (befGo l acc)[acc.length + i]? = some (maskOf ((befGo l acc).take (acc.length + i)) o)
  | [], acc, i, o, h => by simp at h
  | x :: r, acc, 0, o, h => by
    simp only [List.getElem?_cons_zero, Option.some.injEq] at h
    subst h
    simp only [befGo, Nat.add_zero]
    have h1 := befGo_take r (acc ++ [maskOf acc x])
    have h2 : (befGo r (acc ++ [maskOf acc x]))[acc.length]? = ((befGo r (acc ++ [maskOf acc x])).take (acc ++ [maskOf acc x]).length)[acc.length]? := by
      rw [List.getElem?_take, if_pos (by simp)]
    have h3 : (befGo r (acc ++ [maskOf acc x])).take acc.length = acc := by
      have := befGo_take (x :: r) acc
      simpa [befGo] using this
    rw [h2, h1, h3]; simp
  | x :: r, acc, i + 1, o, h => by
    have := befGo_get r (acc ++ [maskOf acc x]) i o (by simpa using h)
    simp only [befGo]
    rw [show (acc ++ [maskOf acc x]).length + i = acc.length + (i + 1) by simp; omega] at this
    exact this

theorem mask_spec {acc : List Nat} {k : Nat} : ∀ (es : List Edge) (s : Nat), (es.foldl (fun s e => match Region.binds .any e with
    | true => (s ||| 2 ^ e.on) ||| ((nth acc e.on).getD 0)
    | false => s) s).testBit k = true → s.testBit k = true ∨ ∃ e ∈ es, Region.binds .any e = true ∧ (k = e.on ∨ ((acc[e.on]?).getD 0).testBit k = true)
  | [], s, h => .inl h
  | e :: r, s, h => by
    simp only [List.foldl_cons] at h
    rcases mask_spec r _ h with h1 | ⟨e', he', h2⟩
    · split at h1
      · rename_i hb
        simp only [Nat.testBit_or, Bool.or_eq_true, nth_eq] at h1
        rcases h1 with (h1 | h1) | h1
        · exact .inl h1
        · rw [Nat.testBit_two_pow] at h1
          exact .inr ⟨e, by simp, hb, .inl (of_decide_eq_true h1).symm⟩
        · exact .inr ⟨e, by simp, hb, .inr h1⟩
      · exact .inl h1
    · exact .inr ⟨e', by simp [he'], h2⟩

/-- Whatever an operation waits for, over whatever road, has been listed when it is ready. -/
theorem bef_spec {ops : List Oper} {L : Nat → Prop} (hL : ∀ i o, ops[i]? = some o → L i → ∀ e ∈ o.after, Region.binds .any e = true → L e.on) : ∀ (i : Nat) (o : Oper), ops[i]? = some o → (∀ e ∈ o.after, Region.binds .any e = true → L e.on) →
    ∀ k, (((befGo ops [])[i]?).getD 0).testBit k = true → L k := by
  intro i
  induction i using Nat.strongRecOn with
  | _ i ih =>
    intro o ho hr k hk
    have hg := befGo_get ops [] i o ho
    simp only [List.length_nil, Nat.zero_add] at hg
    rw [hg, Option.getD_some, maskOf] at hk
    rcases mask_spec _ _ hk with h0 | ⟨e, he, hb, h1⟩
    · simp at h0
    · have hle : L e.on := hr e (by simpa using he) hb
      rcases h1 with rfl | h1
      · exact hle
      · rw [List.getElem?_take] at h1
        split at h1
        · rename_i hlt
          cases hoe : ops[e.on]? with
          | none =>
            have hlen : ∀ (l : List Oper) (acc : List Nat), (befGo l acc).length = acc.length + l.length := by
              intro l
              induction l with
              | nil => intro acc; simp [befGo]
              | cons x r ihr => intro acc; simp [befGo, ihr]; omega
            have : ops.length ≤ e.on := List.getElem?_eq_none_iff.1 hoe
            rw [List.getElem?_eq_none (by rw [hlen]; simpa using this)] at h1
            simp at h1
          | some oe => exact ih e.on hlt oe hoe (fun e' he' hb' => hL e.on oe hoe hle e' he' hb') k h1
        · simp at h1

def allBack (ops : List Oper) : Bool := go ops 0
  where
  go : List Oper → Nat → Bool
    | [], _ => true
    | o :: r, i => (o.after.toList.all fun e => match Region.binds .any e with
      | true => Nat.blt e.on i
      | false => true) && go r (i + 1)

theorem allBack_go : ∀ (l : List Oper) (k : Nat), allBack.go l k = true → ∀ i o, l[i]? = some o → ∀ e ∈ o.after, Region.binds .any e = true → e.on < k + i
  | [], _, _, i, o, h => by simp at h
  | x :: r, k, h, i, o, ho => by
    simp only [allBack.go, Bool.and_eq_true] at h
    cases i with
    | zero =>
      simp only [List.getElem?_cons_zero, Option.some.injEq] at ho
      subst ho
      intro e he hb
      have := List.all_eq_true.1 h.1 e (by simpa using he)
      rw [hb] at this
      simpa using this
    | succ i =>
      intro e he hb
      have := allBack_go r (k + 1) h.2 i o (by simpa using ho) e he hb
      omega

def disjN (a b : List Nm) : Bool := a.all fun x => b.all fun y => !(Nat.beq x y)

theorem disjN_spec {a b : List Nm} (h : disjN a b = true) : ∀ x ∈ a, x ∉ b := by
  intro x hx hb
  have := List.all_eq_true.1 (List.all_eq_true.1 h x hx) x hb
  simp at this

def indepB (ops : List Oper) (x y : Ent) : Bool :=
  x.2.1.apart ops.toArray y.2.1 && (disjN (foot x.2.2) (y.2.2.rds ++ foot y.2.2) && disjN (foot y.2.2) x.2.2.rds)

theorem indepB_spec {ops : List Oper} {x y : Ent} (h : indepB ops x y = true) : Indep ops x.2.1 y.2.1 x.2.2 y.2.2 := by
  simp only [indepB, Bool.and_eq_true] at h
  obtain ⟨h1, h2, h3⟩ := h
  have h4 := disjN_spec h2
  have h5 := disjN_spec h3
  exact ⟨h1, fun n hn hf => h4 n hf (by simp [hn]), fun n hn hf => h5 n hf hn, fun n hn hf => h4 n hn (by simp [hf])⟩

/-- Every two operations: one waits for the other, or they have nothing to do with one another. -/
def chkPairs (ops : List Oper) (ms : List Nat) : List Ent → Bool
  | [] => true
  | x :: r => (r.all fun y => ((nth ms y.1).getD 0).testBit x.1 || indepB ops x y) && chkPairs ops ms r

def chk (ops : List Oper) (log : List Ent) : Bool := allBack ops && chkPairs ops (befGo ops []) log

def Pair (ops : List Oper) (x y : Ent) : Prop := (((befGo ops [])[y.1]?).getD 0).testBit x.1 = true ∨ Indep ops x.2.1 y.2.1 x.2.2 y.2.2

theorem chkPairs_spec {ops : List Oper} : ∀ {l : List Ent}, chkPairs ops (befGo ops []) l = true → l.Pairwise (Pair ops)
  | [], _ => .nil
  | x :: r, h => by
    simp only [chkPairs, Bool.and_eq_true] at h
    refine .cons (fun y hy => ?_) (chkPairs_spec h.2)
    have := List.all_eq_true.1 h.1 y hy
    simp only [Bool.or_eq_true, nth_eq] at this
    exact this.imp id indepB_spec

/-! ### The machine -/
def UD (N M : Nat) (l : List Ent) : Nm → Prop := fun (n : Nat) => n < N + 4 * M ∧ ∀ x ∈ l, ¬ (N + 4 * x.1 ≤ n ∧ n < N + 4 * x.1 + 4)

section
variable {P : Program} {W0 : World} {Fr : Nat → Prop} {G : Ctx} {nt N : Nat} {ops : List Oper} {dec : List (Nat × Bool)}

theorem decV_spec {i : Nat} {e : Eff} (h : okP (decV dec i e).obl) : okP e.obl ∧ (decV dec i e).wr = e.wr ∧ (decV dec i e).news = e.news ∧
    (match e.val with
     | some v => ∃ v', (decV dec i e).val = some v' ∧ (∀ ρ : Rho, v'.den ρ = v.den ρ) ∧ ∀ U : Nm → Prop, v.bd U → v'.bd U
     | none => (decV dec i e).val = none) := by
  unfold decV at h ⊢
  split
  · refine ⟨by simpa [*] using h, rfl, rfl, ?_⟩
    cases e.val with
    | none => rfl
    | some v => exact ⟨v, rfl, fun _ => rfl, fun _ h => h⟩
  · rename_i c hc
    simp only [hc] at h
    split at h
    · rename_i b wr news rds obl
      have h2 : okP obl ∧ b = c := by
        cases obl with
        | none => exact ⟨trivial, h⟩
        | some p => exact h
      refine ⟨h2.1, rfl, rfl, litB c, rfl, fun ρ => ?_, fun U _ => ?_⟩
      · rw [h2.2]; cases c <;> rfl
      · cases c <;> trivial
    · refine ⟨h, rfl, rfl, ?_⟩
      cases e.val with
      | none => rfl
      | some v => exact ⟨v, rfl, fun _ => rfl, fun _ h => h⟩

structure ASat (W0 : World) (Fr : Nat → Prop) (nt : Nat) (U : Nm → Prop) (s : AS) (ρ : Rho) (a : Act) (w : World) : Prop where
  h : HSat W0 Fr U s.2 ρ w
  s : SSat U nt s.1 ρ a

theorem turn1 (hG : CtxOk P G) {M : Nat} {l l' : List Ent} {i : Nat} {o : Oper} {e : Eff} {s : AS} {ρ : Rho} {a : Act} {w : World}
    (h : step1 G nt N ops dec i o s = some e) (ho : okP e.obl) (hS : ASat W0 Fr nt (UD N M l) s ρ a w) (hin : (i, o, e) ∈ l) (hiM : i < M) (hsub : ∀ x ∈ l', x ∈ l) (hne : ∀ x ∈ l', x.1 ≠ i)
    {next : Act → World → Prop} {Q : Exit → Act → World → Prop}
    (hk : ∀ ρ' a' w', ASat W0 Fr nt (UD N M l') (app1 o e s) ρ' a' w' → (∀ n, UD N M l n → ρ' n = ρ n) → next a' w') : turn P ops.toArray o a w next Q := by
  have hmono : ∀ n, UD N M l n → UD N M l' n := fun n hn => ⟨hn.1, fun x hx => hn.2 x (hsub x hx)⟩
  have hU : ∀ n, UU (UD N M l) (N + 4 * i) n → UD N M l' n := by
    intro n hn
    rcases hn with hn | hn
    · exact hmono n hn
    · refine ⟨?_, fun x hx hx2 => ?_⟩
      · have h1 : n < N + 4 * i + 4 := hn.2
        omega
      · have h1 : N + 4 * i ≤ n ∧ n < N + 4 * i + 4 := hn
        have := hne x hx
        omega
  have hn4 : ∀ j : Nat, j < 4 → ¬ UD N M l (N + 4 * i + j) := by
    intro j hj hu
    exact hu.2 (i, o, e) hin ⟨Nat.le_add_right _ _, by show N + 4 * i + j < N + 4 * i + 4; omega⟩
  have skip : e = skipE → (∀ d, o.dst = some d → d < nt) → next (a.put o.dst undef) w := by
    intro he hd
    subst he
    refine hk ρ _ w ⟨?_, ?_⟩ (fun _ _ => rfl)
    · exact hS.h.mono hmono
    · have hs := hS.s.mono hmono (fun _ _ => rfl)
      simp only [app1, skipE]
      cases hdst : o.dst with
      | none => simpa [Act.put] using hs
      | some d => exact hs.put (v := .tup []) (hd d hdst) (by simp [SV.bd, bdL])
  have run : run1 G N dec i o s = some e → (∀ d, o.dst = some d → d < nt) → o.wp P a w next Q := by
    intro hr hd
    unfold run1 at hr
    split at hr
    · rename_i e1 h1
      simp only [Option.some.injEq] at hr
      subst hr
      obtain ⟨h2, h3, h4, h5⟩ := decV_spec ho
      refine evAny_sound hG hS.h hn4 (fun x v hx => opr_sat hS.s hx) (fun c v hc => const_opr hc ρ) h1 h2 (fun ρ' w' hr' hH => ?_)
      have hH' : HSat W0 Fr (UD N M l') ((decV dec i e1).wr ++ ((decV dec i e1).news ++ s.2)) ρ' w' := by
        rw [h3, h4]; exact hH.mono hU
      have hs := hS.s.mono hmono hr'
      split
      · rename_i v hv
        intro hb
        rw [hv] at h5
        obtain ⟨v', h6, h7, h8⟩ := h5
        refine hk ρ' _ w' ⟨hH', ?_⟩ hr'
        rw [← h7 ρ']
        simp only [app1, h6]
        cases hdst : o.dst with
        | none => simpa [Act.put] using hs
        | some d => exact hs.put (hd d hdst) (h8 _ (SV.bd_mono hU v hb))
      · rename_i hv
        rw [hv] at h5
        refine hk ρ' _ w' ⟨hH', ?_⟩ hr'
        simp only [app1, h5]
        cases hdst : o.dst with
        | none => simpa [Act.put] using hs
        | some d => exact hs.put (v := .tup []) (hd d hdst) (by simp [SV.bd, bdL])
    · cases hr
  unfold step1 at h
  split at h
  · cases h
  · rename_i hd0
    have hd : ∀ d, o.dst = some d → d < nt := by
      intro d hd; rw [hd] at hd0; simpa using hd0
    unfold turn
    split at h
    · rename_i hg
      rw [if_pos (by simp [Region.wanted, hg])]
      exact .inl (run h hd)
    · rename_i j want hg
      split at h
      · cases h
      · rename_i d hgd
        have hdst : (ops.toArray[j]?).bind (·.dst) = some d := by
          unfold gdst at hgd
          rw [nth_eq] at hgd
          split at hgd
          · rename_i o' ho'; simp [ho', hgd]
          · cases hgd
        have wantedIs : ∀ (v : Value), a.tmps[d]? = some v → Region.wanted o (yielded ops.toArray a.tmps) = ((match v with | .bool b => some b | _ => none) == some want) := by
          intro v hv
          simp only [Region.wanted, hg, yielded, hdst, Option.bind_some, hv]
          cases v <;> rfl
        split at h
        · rename_i hv
          have hw := wantedIs _ (hS.s.val _ _ hv)
          simp only [SV.den] at hw
          split at h
          · rw [hw]; exact .inl (run h hd)
          · rw [hw]; exact skip (by simpa using h.symm) hd
        · rename_i hv
          have hw := wantedIs _ (hS.s.val _ _ hv)
          simp only [SV.den] at hw
          split at h
          · rw [hw]; exact skip (by simpa using h.symm) hd
          · rw [hw]; exact .inl (run h hd)
        · rename_i hv
          have hw := wantedIs _ (hS.s.val _ _ hv)
          simp only [SV.den] at hw
          rw [hw]
          exact skip (by simpa using h.symm) hd
        · cases h

end
end Go.Sx
