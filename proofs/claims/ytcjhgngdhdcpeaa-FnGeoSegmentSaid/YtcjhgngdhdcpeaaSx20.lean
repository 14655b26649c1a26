/- Cutting a walk: what is kept, what is known. -/
import Derived.Test.YtcjhgngdhdcpeaaSx15
namespace Go.Sx
open Go.RowKit

/-- The code, from S on, comes to K: said of the machine. -/
def Wp (P : Program) (N0 : Nat) (c : Code) (S : St) (K : Xt → St → Prop) : Prop :=
  ∀ (W0 : World) (Fr : Nat → Prop) (ρ0 ρ : Rho) (a : Act) (w : World) (Q : Exit → Act → World → Prop), Sat W0 Fr S ρ a w → N0 ≤ S.N → (∀ n, n < N0 → ρ n = ρ0 n) → AfterX W0 Fr N0 ρ0 K Q → c.wp P Q a w

section
variable {P : Program} {G : Ctx} {N0 : Nat} {S : St} {K : Xt → St → Prop}

theorem Wp.run (hG : CtxOk P G) {c : Code} (h : runC G N0 c S K) : Wp P N0 c S K :=
  fun _ _ _ _ _ _ _ hS hN hρ hK => runC_sound hG c h hS hN hρ hK

theorem Wp.mono {c : Code} {K' : Xt → St → Prop} (h : Wp P N0 c S K) (hk : ∀ e S', K e S' → K' e S') : Wp P N0 c S K' :=
  fun W0 Fr ρ0 ρ a w Q hS hN hρ hK => h W0 Fr ρ0 ρ a w Q hS hN hρ fun e S' ρ' a' w' h' => hK e S' ρ' a' w' (hk e S' h')

theorem Wp.seq {x y : Code} {K1 : Xt → St → Prop} (h : Wp P N0 x S K1) (hn : ∀ S', K1 .normal S' → Wp P N0 y S' K) (hx : ∀ id S', K1 (.exit id) S' → K (.exit id) S') (hr : ∀ S', K1 .ret S' → K .ret S') : Wp P N0 (.seq x y) S K := by
  intro W0 Fr ρ0 ρ a w Q hS hN hρ hK
  refine wp_seq (h W0 Fr ρ0 ρ a w _ hS hN hρ fun e S' ρ' a' w' h' hS' hN' hρ' => ?_)
  cases e with
  | normal => exact hn S' h' W0 Fr ρ0 ρ' a' w' Q hS' hN' hρ' hK
  | exit id => exact hK (.exit id) S' ρ' a' w' (hx id S' h') hS' hN' hρ'
  | ret => exact hK .ret S' ρ' a' w' (hr S' h') hS' hN' hρ'

theorem Wp.block {id : Nat} {x : Code} (h : Wp P N0 x S (fun e S' => match e with
    | .exit j => match Nat.beq j id with
      | true => K .normal S'
      | false => K (.exit j) S'
    | e => K e S')) : Wp P N0 (.block id x) S K := by
  intro W0 Fr ρ0 ρ a w Q hS hN hρ hK
  refine wp_block (h W0 Fr ρ0 ρ a w _ hS hN hρ fun e S' ρ' a' w' h' hS' hN' hρ' => ?_)
  cases e with
  | normal => exact hK .normal S' ρ' a' w' h' hS' hN' hρ'
  | ret => exact hK .ret S' ρ' a' w' h' hS' hN' hρ'
  | exit j =>
    simp only at h'
    simp only [Exit.inBlock]
    split at h'
    · rename_i hj
      rw [if_pos (Nat.eq_of_beq_eq_true hj)]
      exact hK .normal S' ρ' a' w' h' hS' hN' hρ'
    · rename_i hj
      rw [if_neg (fun e => by subst e; simp at hj)]
      exact hK (.exit j) S' ρ' a' w' h' hS' hN' hρ'

/-- A loop whose rounds are walked by hand. -/
theorem Wp.loop {x : Code} {ι : Type} (I : ι → St) (μ : ι → Nat) (i0 : ι) (h0 : Refines N0 S (I i0))
    (hr : ∀ i, Wp P N0 x (I i) (fun e S' => match e with
      | .normal => ∃ i', μ i' < μ i ∧ Refines N0 S' (I i')
      | e => K e S')) : Wp P N0 (.loop x) S K := by
  intro W0 Fr ρ0 ρ a w Q hS hN hρ hK
  have start : ∀ {S1 : St} {i : ι}, Refines N0 S1 (I i) → ∀ {ρ1 a1 w1}, Sat W0 Fr S1 ρ1 a1 w1 → (∀ n, n < N0 → ρ1 n = ρ0 n) →
      ∃ ρ', Sat W0 Fr (I i) ρ' a1 w1 ∧ N0 ≤ (I i).N ∧ ∀ n, n < N0 → ρ' n = ρ0 n := by
    intro S1 i hR ρ1 a1 w1 hS1 hρ1
    obtain ⟨ρ', h1, h2⟩ := hR.2 W0 Fr ρ1 a1 w1 hS1
    exact ⟨ρ', h1, hR.1, fun n hn => (h2 n hn).trans (hρ1 n hn)⟩
  refine wp_loop_ghost (fun i a w => ∃ ρ', Sat W0 Fr (I i) ρ' a w ∧ N0 ≤ (I i).N ∧ ∀ n, n < N0 → ρ' n = ρ0 n) μ ?_ (start h0 hS hρ)
  rintro i a1 w1 ⟨ρ1, hS1, hN1, hρ1⟩
  refine hr i W0 Fr ρ0 ρ1 a1 w1 _ hS1 hN1 hρ1 fun e S' ρ' a' w' h' hS' hN' hρ' => ?_
  cases e with
  | normal =>
    obtain ⟨i', hlt, hR⟩ := h'
    exact ⟨i', start hR hS' hρ', hlt⟩
  | exit id => exact hK (.exit id) S' ρ' a' w' h' hS' hN' hρ'
  | ret => exact hK .ret S' ρ' a' w' h' hS' hN' hρ'

/-! ### What is kept -/
def keyIn (t : Nat) : Slots → Bool
  | [] => false
  | (m, _) :: r => Nat.beq m t || keyIn t r
def keysApart : Slots → Slots → Bool
  | [], _ => true
  | (t, _) :: r, s => !keyIn t s && keysApart r s
def nmIn (t : Nat) : Heap → Bool
  | [] => false
  | (m, _) :: r => Nat.beq m t || nmIn t r
def nmsApart : Heap → Heap → Bool
  | [], _ => true
  | (t, _) :: r, s => !nmIn t s && nmsApart r s

/-- S' is S with more. -/
structure Keep (S S' : St) : Prop where
  nt : S'.nt = S.nt
  sl : S'.sl.drop (S'.sl.length - S.sl.length) = S.sl
  ks : keysApart (S'.sl.take (S'.sl.length - S.sl.length)) S.sl = true
  hp : S'.H.drop (S'.H.length - S.H.length) = S.H
  kh : nmsApart (S'.H.take (S'.H.length - S.H.length)) S.H = true

theorem slot_none {t : Nat} : ∀ {s : Slots}, keyIn t s = false → slot s t = none
  | [], _ => rfl
  | (m, v) :: r, h => by
    simp only [keyIn, Bool.or_eq_false_iff] at h
    rw [slot_cons, if_neg (fun e => by subst e; simp at h), slot_none h.2]

theorem keys_skip {s : Slots} : ∀ {p : Slots}, keysApart p s = true → ∀ t v, slot s t = some v → slot (p ++ s) t = some v
  | [], _, _, _, h => h
  | (m, u) :: r, h, t, v, hv => by
    simp only [keysApart, Bool.and_eq_true, Bool.not_eq_true'] at h
    have hm : m ≠ t := fun e => by subst e; rw [slot_none h.1] at hv; cases hv
    rw [List.cons_append, slot_cons, if_neg hm]
    exact keys_skip h.2 t v hv

theorem look_none {t : Nat} : ∀ {s : Heap}, nmIn t s = false → look s t = none
  | [], _ => rfl
  | (m, v) :: r, h => by
    simp only [nmIn, Bool.or_eq_false_iff] at h
    rw [look_cons, if_neg (fun e => by subst e; simp at h), look_none h.2]

theorem nms_skip {s : Heap} : ∀ {p : Heap}, nmsApart p s = true → ∀ t v, look s t = some v → look (p ++ s) t = some v
  | [], _, _, _, h => h
  | (m, u) :: r, h, t, v, hv => by
    simp only [nmsApart, Bool.and_eq_true, Bool.not_eq_true'] at h
    have hm : m ≠ t := fun e => by subst e; rw [look_none h.1] at hv; cases hv
    rw [List.cons_append, look_cons, if_neg hm]
    exact nms_skip h.2 t v hv

theorem Keep.slot {S' : St} (h : Keep S S') {t : Nat} {v : SV} (hv : slot S.sl t = some v) : Sx.slot S'.sl t = some v := by
  have := keys_skip h.ks t v hv
  rw [← List.take_append_drop (S'.sl.length - S.sl.length) S'.sl, h.sl]
  exact this

theorem Keep.look {S' : St} (h : Keep S S') {n : Nm} {o : Ob} (hv : Sx.look S.H n = some o) : Sx.look S'.H n = some o := by
  have := nms_skip h.kh n o hv
  rw [← List.take_append_drop (S'.H.length - S.H.length) S'.H, h.hp]
  exact this

/-- x only tests: behind it stands S again, and Φ. -/
theorem Wp.keep {x y : Code} (Φ : Prop) (h : Wp P S.N x S (fun e S' => match e with
      | .normal => Φ ∧ Keep S S'
      | e => K e S'))
    (hy : Φ → Wp P N0 y S K) : Wp P N0 (.seq x y) S K := by
  intro W0 Fr ρ0 ρ a w Q hS hN hρ hK
  refine wp_seq (h W0 Fr ρ ρ a w _ hS (Nat.le_refl _) (fun _ _ => rfl) fun e S' ρ' a' w' h' hS' hN' hρ' => ?_)
  have hρ0 : ∀ n, n < N0 → ρ' n = ρ0 n := fun n hn => (hρ' n (Nat.lt_of_lt_of_le hn hN)).trans (hρ n hn)
  cases e with
  | normal =>
    obtain ⟨hΦ, hk⟩ := h'
    refine hy hΦ W0 Fr ρ0 ρ' a' w' Q ⟨?_, ?_⟩ hN hρ0 hK
    · exact {
        os := hS'.h.os, tape := hS'.h.tape, output := hS'.h.output, size := hS'.h.size, frlt := hS'.h.frlt, frame := hS'.h.frame
        used := hS.h.used
        bd := hS.h.bd
        obj := fun n o hn => hS'.h.obj n o (hk.look hn)
        inj := fun n m o o' p q hn hm => hS'.h.inj n m o o' p q (hk.look hn) (hk.look hm)
        free := fun n o p hn => hS'.h.free n o p (hk.look hn) }
    · exact {
        nd := hS'.s.nd
        size := by rw [hS'.s.size, hk.nt]
        bd := hS.s.bd
        val := fun t v hv => hS'.s.val t v (hk.slot hv) }
  | exit id => exact hK (.exit id) S' ρ' a' w' h' hS' (Nat.le_trans hN hN') hρ0
  | ret => exact hK .ret S' ρ' a' w' h' hS' (Nat.le_trans hN hN') hρ0

end

theorem pure_of_wp {P : Program} {G : Ctx} (hG : CtxOk P G) {f : Nat} {fn : Func} {c : Code} (hf : P.funcs[f]? = some fn) (hb : fn.body = some c) (hnm : (fn.name == "runtime.NumGoroutine") = false) {F : PF}
    (h : ∀ args v p, F args = some (v, p) → okP p → v.closed = true ∧ closedL args = true ∧ Nat.ble args.length fn.ntmps = true ∧
      Wp P 0 c (init fn.ntmps args [] 0) (endK G.E.T fn.results.toList fun _ v' => eqv v' v)) : PureOk P f F := by
  intro args v p hF hp
  obtain ⟨h1, h2, h3, h4⟩ := h args v p hF hp
  refine ⟨h1, fun ρ w => .inl ⟨⟨fn, hf, hnm, by rw [hb]; rfl⟩, ?_⟩⟩
  refine calls_of_wp hf hb ?_
  have hH : HSat w (· < w.heap.size) (· < 0) [] ρ w :=
    { os := rfl, tape := rfl, output := rfl, size := Nat.le_refl _, frlt := fun _ h => h, frame := fun _ _ => rfl
      used := fun n o hn => by simp [look] at hn
      bd := fun n o hn => by simp [look] at hn
      obj := fun n o hn => by simp [look] at hn
      inj := fun n m o o' p q hn => by simp [look] at hn
      free := fun n o p hn => by simp [look] at hn }
  refine h4 w (· < w.heap.size) ρ ρ _ w _ (sat_init hH (bdL_closed _ _ h2) (Nat.le_of_ble_eq_true h3)) (Nat.zero_le _) (fun _ _ => rfl) ?_
  intro e S' ρ' a' w' hK hS hN hρ
  have fin : retK G.E.T fn.results.toList (fun _ v' => eqv v' v) S' → a'.defers = [] ∧ ∃ u, (results fn a'.tmps).run P w' = .ok u w' ∧ (Ending.returned u = .returned (v.den ρ) ∧ Below w.heap.size w w') := by
    intro hr
    unfold retK at hr
    split at hr
    · rename_i vs q hvs
      obtain ⟨hq, he⟩ := okK_iff hr
      obtain ⟨h5, h6⟩ := resS_sound hG.E.T hS hvs hq
      refine ⟨hS.s.nd, _, h5, ?_, ⟨hS.h.os, hS.h.tape, hS.h.output, hS.h.size, fun k hk => hS.h.frame k hk⟩⟩
      rw [eqv_den ρ' _ _ he, SV.den_closed ρ ρ' h1]
    · exact hr.elim
  cases e with
  | normal => exact fin hK
  | ret => exact fin hK
  | exit id => exact hK.elim

/-- A function that the model carries out itself, and that makes nothing. -/
theorem pure_of_extern {P : Program} {f : Nat} {fn : Func} {e : Array Value → Sem Value} (hf : P.funcs[f]? = some fn) (hb : fn.body.isNone = true) (hnm : (fn.name == "runtime.NumGoroutine") = false) (h1 : Extern.findNext fn = none) (h2 : Extern.find fn = some e) {F : PF}
    (h : ∀ args v p, F args = some (v, p) → okP p → v.closed = true ∧ ∀ (ρ : Rho) (w : World), (e (denL ρ args).toArray).run P w = .ok (v.den ρ) w) : PureOk P f F := by
  intro args v p hF hp
  obtain ⟨h3, h4⟩ := h args v p hF hp
  refine ⟨h3, fun ρ w => .inr ⟨v.den ρ, w, ?_, rfl, Below.refl _ _⟩⟩
  simp only [callFunc, Sem.run_bind, run_program, Result.andThen_ok, hf, hnm, hb, Bool.false_eq_true, if_false, if_true, run_mark, h1, h2, h4, Sem.run_pure]

end Go.Sx
