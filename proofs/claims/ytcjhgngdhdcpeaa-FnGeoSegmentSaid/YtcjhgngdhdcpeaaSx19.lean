/- Regions whose order is open: every order. -/
import Derived.Test.YtcjhgngdhdcpeaaSx18
namespace Go.Sx
open Go.RowKit

def oblAll : List Ent → Prop
  | [] => True
  | (_, _, e) :: r => okP e.obl ∧ oblAll r

theorem oblAll_mem : ∀ {l : List Ent}, oblAll l → ∀ x ∈ l, okP x.2.2.obl
  | [], _, x, hx => by simp at hx
  | (i, o, e) :: r, h, x, hx => by
    rcases List.mem_cons.1 hx with rfl | hx
    · exact h.1
    · exact oblAll_mem h.2 x hx

section
variable {P : Program} {W0 : World} {Fr : Nat → Prop} {G : Ctx} {nt N : Nat} {ops : List Oper} {dec : List (Nat × Bool)}

theorem any_order (hG : CtxOk P G) (hback : allBack ops = true) {F : AS} {ρ0 : Rho} {N0 : Nat} (hN0 : N0 ≤ N) {Q : Exit → Act → World → Prop}
    (hQ : ∀ ρ a w, ASat W0 Fr nt (UD N ops.length []) F ρ a w → (∀ n, n < N0 → ρ n = ρ0 n) → Q .normal a w) :
    ∀ (fuel : Nat) (l : List Ent) (listed : Array Bool) (s : AS) (ρ : Rho) (a : Act) (w : World), l.length = fuel → listed.size = ops.length →
      (∀ j, j < ops.length → listed[j]? = some (!decide (∃ x ∈ l, x.1 = j))) →
      (∀ x ∈ l, ops[x.1]? = some x.2.1) → l.Pairwise (fun x y => x.1 < y.1) → l.Pairwise (Pair ops) → (∀ x ∈ l, okP x.2.2.obl) →
      (∀ i o, ops[i]? = some o → listed.getD i false = true → ∀ e ∈ o.after, Region.binds .any e = true → listed.getD e.on false = true) →
      Runs G nt N ops dec l s → Same F (fin l s) → ASat W0 Fr nt (UD N ops.length l) s ρ a w → (∀ n, n < N0 → ρ n = ρ0 n) →
      wpAny P .any ops.toArray Q fuel listed a w := by
  have hb := allBack_go ops 0 hback
  intro fuel
  induction fuel with
  | zero =>
    intro l listed s ρ a w hl hsz hli hops hsort hpair hobl hcl hruns hF hS hρ
    have hl0 : l = [] := List.length_eq_zero_iff.1 hl
    subst hl0
    refine ⟨?_, hQ ρ a w ?_ hρ⟩
    · refine List.eq_nil_iff_forall_not_mem.2 fun j hj => ?_
      rw [mem_ready] at hj
      obtain ⟨h1, o, ho, _⟩ := hj
      have hlt : j < ops.length := by
        have := (Array.getElem?_eq_some_iff.1 ho).1
        simpa using this
      have := hli j hlt
      simp [Array.getD_eq_getD_getElem?, this] at h1
    · exact ⟨hS.h.lookEq fun n => (hF.2 n).symm, { hS.s with
        bd := fun t v hv => hS.s.bd t v (by rw [← hv]; exact hF.1 t)
        val := fun t v hv => hS.s.val t v (by rw [← hv]; exact hF.1 t) }⟩
  | succ fuel ih =>
    intro l listed s ρ a w hl hsz hli hops hsort hpair hobl hcl hruns hF hS hρ
    have pend : ∀ j, j < ops.length → (listed.getD j true = false ↔ ∃ x ∈ l, x.1 = j) := by
      intro j hj
      simp [Array.getD_eq_getD_getElem?, hli j hj]
    have isl : ∀ j, listed.getD j false = true ↔ (j < ops.length ∧ ¬ ∃ x ∈ l, x.1 = j) := by
      intro j
      by_cases hj : j < ops.length
      · simp [Array.getD_eq_getD_getElem?, hli j hj, hj]
      · have : listed[j]? = none := Array.getElem?_eq_none (by omega)
        simp [Array.getD_eq_getD_getElem?, this, hj]
    refine ⟨fun hre => ?_, fun i hi => ?_⟩
    · exfalso
      match l, hl with
      | x :: r, hl =>
        have hox := hops x (by simp)
        have hlt : x.1 < ops.length := (List.getElem?_eq_some_iff.1 hox).1
        have hmem : x.1 ∈ Region.ready .any ops.toArray listed := by
          rw [mem_ready]
          refine ⟨(pend x.1 hlt).2 ⟨x, by simp, rfl⟩, x.2.1, by simpa using hox, fun e he hbe => ?_⟩
          have h1 := hb x.1 x.2.1 hox e he hbe
          rw [isl]
          refine ⟨by omega, fun ⟨y, hy, hye⟩ => ?_⟩
          rcases List.mem_cons.1 hy with rfl | hy
          · omega
          · have := (List.pairwise_cons.1 hsort).1 y hy
            omega
        rw [hre] at hmem
        cases hmem
    · rw [mem_ready] at hi
      obtain ⟨h1, o', ho', hedges⟩ := hi
      have hlt : i < ops.length := by
        have := (Array.getElem?_eq_some_iff.1 ho').1
        simpa using this
      obtain ⟨x, hx, hxi⟩ := (pend i hlt).1 h1
      have hox := hops x hx
      rw [hxi] at hox
      have ho2 : ops[i]? = some o' := by simpa using ho'
      rw [ho2] at hox
      injection hox with hox
      obtain ⟨i', o, e⟩ := x
      simp only at hxi hox
      subst hxi; subst hox
      obtain ⟨pre, post, rfl⟩ := List.append_of_mem hx
      have hind : ∀ y ∈ pre, Indep ops y.2.1 o' y.2.2 e := by
        intro y hy
        have hp := (List.pairwise_append.1 hpair).2.2 y hy (i', o', e) (by simp)
        rcases hp with hp | hp
        · exfalso
          have := bef_spec (ops := ops) (L := fun j => listed.getD j false = true) hcl i' o' ho2 hedges y.1 hp
          rw [isl] at this
          exact this.2 ⟨y, by simp [hy], rfl⟩
        · exact hp
      obtain ⟨h2, h3, h4⟩ := bubble hG.Γ hruns hind
      have hsub : ∀ y ∈ pre ++ post, y ∈ pre ++ (i', o', e) :: post := by
        intro y hy
        rcases List.mem_append.1 hy with hy | hy <;> simp [hy]
      have hne : ∀ y ∈ pre ++ post, y.1 ≠ i' := by
        intro y hy
        have hs := List.pairwise_append.1 hsort
        rcases List.mem_append.1 hy with hy | hy
        · exact Nat.ne_of_lt (hs.2.2 y hy (i', o', e) (by simp))
        · exact Nat.ne_of_gt ((List.pairwise_cons.1 hs.2.1).1 y hy)
      have hsublist : (pre ++ post).Sublist (pre ++ (i', o', e) :: post) := by
        refine List.Sublist.append (List.Sublist.refl _) (List.sublist_cons_self _ _)
      unfold wpOp
      rw [ho']
      refine turn1 hG (l := pre ++ (i', o', e) :: post) (l' := pre ++ post) (M := ops.length) h2 (hobl _ hx) hS hx hlt hsub hne fun ρ' a' w' hS' hρ' => ?_
      refine ih (pre ++ post) _ _ ρ' a' w' ?_ ?_ ?_ (fun y hy => hops y (hsub y hy)) (hsort.sublist hsublist) (hpair.sublist hsublist) (fun y hy => hobl y (hsub y hy)) ?_ h3 (hF.trans h4) hS' ?_
      · simp only [List.length_append, List.length_cons] at hl ⊢; omega
      · simpa using hsz
      · intro j hj
        by_cases hji : i' = j
        · subst hji
          rw [Array.getElem?_setIfInBounds_self_of_lt (by omega)]
          congr 1
          have : ¬ ∃ y ∈ pre ++ post, y.1 = i' := fun ⟨y, hy, hye⟩ => hne y hy hye
          rw [decide_eq_false this]; rfl
        · rw [Array.getElem?_setIfInBounds_ne hji, hli j hj]
          congr 2
          apply decide_eq_decide.2
          constructor
          · rintro ⟨y, hy, hye⟩
            rcases List.mem_append.1 hy with hy | hy
            · exact ⟨y, by simp [hy], hye⟩
            · rcases List.mem_cons.1 hy with rfl | hy
              · exact absurd hye hji
              · exact ⟨y, by simp [hy], hye⟩
          · rintro ⟨y, hy, hye⟩
            exact ⟨y, hsub y hy, hye⟩
      · intro k ok hok hk e' he' hb'
        by_cases hki : i' = k
        · subst hki
          rw [ho2] at hok
          injection hok with hok
          subst hok
          exact getD_set_true (hedges e' he' hb')
        · rw [getD_set_ne false hki] at hk
          exact getD_set_true (hcl k ok hok hk e' he' hb')
      · intro n hn
        have hu : UD N ops.length (pre ++ (i', o', e) :: post) n := by
          have hnN : n < N := Nat.lt_of_lt_of_le hn hN0
          refine ⟨Nat.lt_of_lt_of_le hnN (Nat.le_add_right _ _), fun y _ hy => ?_⟩
          have h5 : N + 4 * y.1 ≤ n := hy.1
          have h6 : N ≤ n := Nat.le_trans (Nat.le_add_right _ _) h5
          exact absurd hnN (Nat.not_lt.2 h6)
        exact (hρ' n hu).trans (hρ n hn)

end

/-! ### The walk -/
inductive DR where
  | done (s : AS) (log : List Ent)
  | need (j : Nat) (b : Bool)
  | fail

def flag (ops : List Oper) (o : Oper) (s : AS) : DR :=
  match o.guard with
  | some (j, _) => match gdst ops j with
    | some d => match slot s.1 d with
      | some (.bool b) => .need j b
      | _ => .fail
    | none => .fail
  | none => .fail

def runD (G : Ctx) (nt N : Nat) (ops : List Oper) (dec : List (Nat × Bool)) : List Oper → Nat → AS → DR
  | [], _, s => .done s []
  | o :: r, i, s => match step1 G nt N ops dec i o s with
    | some e => match runD G nt N ops dec r (i + 1) (app1 o e s) with
      | .done s' log => .done s' ((i, o, e) :: log)
      | x => x
    | none => flag ops o s

def okAll : List Ent → Prop → Prop
  | [], q => q
  | (_, _, e) :: r, q => okK e.obl (okAll r q)

theorem okAll_iff : ∀ {l : List Ent} {q : Prop}, okAll l q → oblAll l ∧ q
  | [], _, h => ⟨trivial, h⟩
  | (_, _, _) :: _, _, h => ⟨⟨(okK_iff h).1, (okAll_iff (okK_iff h).2).1⟩, (okAll_iff (okK_iff h).2).2⟩

def expl (G : Ctx) (ops : List Oper) (S : St) (K : St → Prop) : Nat → List (Nat × Bool) → Prop
  | fuel, dec => match runD G S.nt S.N ops dec ops 0 (S.sl, S.H) with
    | .done s log => okAll log (chk ops log = true ∧ K { nt := S.nt, sl := s.1, H := s.2, N := S.N + 4 * ops.length })
    | .need j b => match fuel with
      | 0 => False
      | f + 1 => (b = true → expl G ops S K f ((j, true) :: dec)) ∧ (b = false → expl G ops S K f ((j, false) :: dec))
    | .fail => False

section
variable {P : Program} {W0 : World} {Fr : Nat → Prop} {G : Ctx}

theorem runD_spec {nt N : Nat} {ops : List Oper} {dec : List (Nat × Bool)} : ∀ (l : List Oper) (k : Nat) (s s' : AS) (log : List Ent), (∀ j, l[j]? = ops[k + j]?) → runD G nt N ops dec l k s = .done s' log →
    Runs G nt N ops dec log s ∧ fin log s = s' ∧ (∀ x ∈ log, ops[x.1]? = some x.2.1 ∧ k ≤ x.1 ∧ x.1 < k + l.length) ∧ log.Pairwise (fun x y => x.1 < y.1) ∧ (∀ j, k ≤ j → j < k + l.length → ∃ x ∈ log, x.1 = j) ∧ log.length = l.length
  | [], k, s, s', log, _, h => by
    simp only [runD, DR.done.injEq] at h
    obtain ⟨rfl, rfl⟩ := h
    exact ⟨trivial, rfl, by simp, .nil, fun j h1 h2 => by simp at h2; omega, rfl⟩
  | o :: r, k, s, s', log, hl, h => by
    have ho : ops[k]? = some o := by simpa using (hl 0).symm
    simp only [runD] at h
    split at h
    · rename_i e he
      split at h
      · rename_i s1 log1 h1
        simp only [DR.done.injEq] at h
        obtain ⟨rfl, rfl⟩ := h
        obtain ⟨h2, h3, h4, h5, h6, h7⟩ := runD_spec r (k + 1) _ _ _ (fun j => by
          have := hl (j + 1)
          simp only [List.getElem?_cons_succ] at this
          rw [this]; congr 1; omega) h1
        refine ⟨⟨he, h2⟩, h3, ?_, ?_, ?_, by simp [h7]⟩
        · intro x hx
          rcases List.mem_cons.1 hx with rfl | hx
          · exact ⟨ho, Nat.le_refl _, by simp⟩
          · obtain ⟨h8, h9, h10⟩ := h4 x hx
            exact ⟨h8, by omega, by simp; omega⟩
        · refine .cons (fun x hx => ?_) h5
          have := (h4 x hx).2.1
          show k < x.1
          omega
        · intro j hj1 hj2
          by_cases hjk : j = k
          · exact ⟨(k, o, e), by simp, hjk.symm⟩
          · obtain ⟨x, hx, hxj⟩ := h6 j (by omega) (by simp at hj2; omega)
            exact ⟨x, by simp [hx], hxj⟩
      · rename_i x hno
        cases hx : runD G nt N ops dec r (k + 1) (app1 o e s) with
        | done s1 log1 => exact absurd hx (hno s1 log1)
        | need j b => rw [hx] at h; cases h
        | fail => rw [hx] at h; cases h
    · unfold flag at h
      split at h
      · split at h
        · split at h <;> cases h
        · cases h
      · cases h

theorem expl_sound (hG : CtxOk P G) (hm : P.follows .mixedOrders = true) {N0 : Nat} {ρ0 : Rho} {id : Nat} {ops : Array Oper} {S : St} {K : St → Prop} {Q : Exit → Act → World → Prop} : ∀ (fuel : Nat) (dec : List (Nat × Bool)), expl G ops.toList S K fuel dec →
    ∀ {ρ : Rho} {a : Act} {w : World}, Sat W0 Fr S ρ a w → N0 ≤ S.N → (∀ n, n < N0 → ρ n = ρ0 n) → After W0 Fr N0 ρ0 K (Q .normal) → (Code.region id ops true).wp P Q a w := by
  intro fuel
  induction fuel with
  | zero =>
    intro dec h
    unfold expl at h
    split at h
    · rename_i s log hrun
      intro ρ a w hS hN hρ hK
      obtain ⟨hobl, hchk, hq⟩ := okAll_iff h
      simp only [chk, Bool.and_eq_true] at hchk
      obtain ⟨h2, h3, h4, h5, h6, h7⟩ := runD_spec ops.toList 0 _ _ _ (fun j => by simp) hrun
      refine wp_region_any hm ?_
      have := any_order (Q := Q) (W0 := W0) (Fr := Fr) (F := s) (ρ0 := ρ0) hG hchk.1 hN (fun ρ' a' w' hS' hρ' => ?_) log.length log (Array.replicate ops.size false) (S.sl, S.H) ρ a { w with drawn := w.drawn + 1 } rfl (by simp) ?_ (fun x hx => (h4 x hx).1) h5 (chkPairs_spec hchk.2) (oblAll_mem hobl) ?_ h2 ?_ ?_ hρ
      · rw [h7] at this
        simpa using this
      · refine hK _ ρ' a' w' hq ⟨?_, ?_⟩ ?_ hρ'
        · exact hS'.h.mono fun n hn => hn.1
        · exact hS'.s.mono (fun n hn => hn.1) (fun _ _ => rfl)
        · exact Nat.le_trans hN (Nat.le_add_right _ _)
      · intro j hj
        have hj' : j < ops.size := by simpa using hj
        obtain ⟨x, hx, hxj⟩ := h6 j (Nat.zero_le _) (by simpa using hj)
        have : ∃ x ∈ log, x.1 = j := ⟨x, hx, hxj⟩
        simp [hj', this]
      · intro i o _ hl
        rw [Array.getD_eq_getD_getElem?, Array.getElem?_replicate] at hl
        split at hl <;> simp at hl
      · rw [h3]; exact Same.refl _
      · have hU : ∀ n, n < S.N → UD S.N ops.toList.length log n := fun n hn => ⟨Nat.lt_of_lt_of_le hn (Nat.le_add_right _ _), fun x _ hx => absurd (Nat.lt_of_lt_of_le hn (Nat.le_trans (Nat.le_add_right _ _) hx.1)) (Nat.lt_irrefl _)⟩
        exact ⟨(hS.h.mono hU).drew, hS.s.mono hU (fun _ _ => rfl)⟩
    · exact h.elim
    · exact h.elim
  | succ fuel ih =>
    intro dec h
    unfold expl at h
    split at h
    · rename_i s log hrun
      intro ρ a w hS hN hρ hK
      obtain ⟨hobl, hchk, hq⟩ := okAll_iff h
      simp only [chk, Bool.and_eq_true] at hchk
      obtain ⟨h2, h3, h4, h5, h6, h7⟩ := runD_spec ops.toList 0 _ _ _ (fun j => by simp) hrun
      refine wp_region_any hm ?_
      have := any_order (Q := Q) (W0 := W0) (Fr := Fr) (F := s) (ρ0 := ρ0) hG hchk.1 hN (fun ρ' a' w' hS' hρ' => ?_) log.length log (Array.replicate ops.size false) (S.sl, S.H) ρ a { w with drawn := w.drawn + 1 } rfl (by simp) ?_ (fun x hx => (h4 x hx).1) h5 (chkPairs_spec hchk.2) (oblAll_mem hobl) ?_ h2 ?_ ?_ hρ
      · rw [h7] at this
        simpa using this
      · refine hK _ ρ' a' w' hq ⟨?_, ?_⟩ ?_ hρ'
        · exact hS'.h.mono fun n hn => hn.1
        · exact hS'.s.mono (fun n hn => hn.1) (fun _ _ => rfl)
        · exact Nat.le_trans hN (Nat.le_add_right _ _)
      · intro j hj
        have hj' : j < ops.size := by simpa using hj
        obtain ⟨x, hx, hxj⟩ := h6 j (Nat.zero_le _) (by simpa using hj)
        have : ∃ x ∈ log, x.1 = j := ⟨x, hx, hxj⟩
        simp [hj', this]
      · intro i o _ hl
        rw [Array.getD_eq_getD_getElem?, Array.getElem?_replicate] at hl
        split at hl <;> simp at hl
      · rw [h3]; exact Same.refl _
      · have hU : ∀ n, n < S.N → UD S.N ops.toList.length log n := fun n hn => ⟨Nat.lt_of_lt_of_le hn (Nat.le_add_right _ _), fun x _ hx => absurd (Nat.lt_of_lt_of_le hn (Nat.le_trans (Nat.le_add_right _ _) hx.1)) (Nat.lt_irrefl _)⟩
        exact ⟨(hS.h.mono hU).drew, hS.s.mono hU (fun _ _ => rfl)⟩
    · rename_i j b hrun
      intro ρ a w hS hN hρ hK
      cases b with
      | true => exact ih _ (h.1 rfl) hS hN hρ hK
      | false => exact ih _ (h.2 rfl) hS hN hρ hK
    · exact h.elim

end
end Go.Sx
