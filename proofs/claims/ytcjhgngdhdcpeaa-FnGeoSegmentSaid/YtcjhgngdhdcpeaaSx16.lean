/- An operation looks at its operands and at the pieces that it names, and at nothing else. -/
import Derived.Test.YtcjhgngdhdcpeaaSx13
import Derived.Orders
namespace Go.Sx
open Go.RowKit

section
variable {G : Ctx} {E : Env} {ev ev' : Operand → Option SV} {rd rd' : Nm → Option Ob} {nm : Nm} {e : Eff}

theorem evL_congr : ∀ {xs : List Operand}, (∀ x ∈ xs, ev' x = ev x) → evL ev' xs = evL ev xs
  | [], _ => rfl
  | x :: r, h => by
    simp only [evL, h x (by simp), evL_congr (xs := r) fun y hy => h y (by simp [hy])]

theorem evParts_congr : ∀ {xs : List (Nat × Operand)}, (∀ p ∈ xs, ev' p.2 = ev p.2) → evParts ev' xs = evParts ev xs
  | [], _ => rfl
  | (i, x) :: r, h => by
    have h1 : ev' x = ev x := h (i, x) (by simp)
    simp only [evParts, h1, evParts_congr (xs := r) fun y hy => h y (by simp [hy])]

theorem evO_congr {x : Option Operand} (h : ∀ y, x = some y → ev' y = ev y) : evO ev' x = evO ev x := by
  cases x with
  | none => rfl
  | some y => simp only [evO, h y rfl]

theorem evLd_loc {T : Tys} {t : Nat} {x : SV} (h : evLd T rd t x = some e) (hr : ∀ n ∈ e.rds, rd' n = rd n) : evLd T rd' t x = some e := by
  unfold evLd at *
  split at h
  · rename_i n i
    split at h
    · rename_i ti hti
      split at h
      · rename_i hs
        split at h
        · rename_i ob hob
          split at h
          · rename_i v p hv
            simp only [Option.some.injEq] at h; subst h
            simp only [hr n (by simp), hob, hv]
          · cases h
        · cases h
      · cases h
    · cases h
  · cases h

theorem evSt_loc {T : Tys} {t : Nat} {x v : SV} (h : evSt T rd t x v = some e) (hr : ∀ n ∈ e.rds, rd' n = rd n) : evSt T rd' t x v = some e := by
  unfold evSt at *
  split at h
  · rename_i n i
    split at h
    · rename_i ti hti
      split at h
      · rename_i hs
        split at h
        · rename_i hs2
          split at h
          · rename_i el c hob
            split at h
            · rename_i c' hc'
              simp only [Option.some.injEq] at h; subst h
              simp only [hr n (by simp), hob, hc']
            · cases h
          · cases h
        · cases h
      · cases h
    · cases h
  · cases h

theorem evFieldAddr_loc {T : Tys} {s : Nat} {x : SV} {i : Nat} (h : evFieldAddr T rd s x i = some e) (hr : ∀ n ∈ e.rds, rd' n = rd n) : evFieldAddr T rd' s x i = some e := by
  unfold evFieldAddr at *
  split at h
  · rename_i n off
    split at h
    · rename_i hti
      split at h
      · rename_i hf
        split at h
        · rename_i hte
          split at h
          · rename_i hs
            split at h
            · rename_i ob hob
              simp only [Option.some.injEq] at h; subst h
              simp only [hr n (by simp), hob]
            · cases h
          · cases h
        · cases h
      · cases h
    · cases h
  · cases h

theorem evSliceC_loc {T : Tys} {t : Nat} {x : SV} {lo hi mx : Option SV} (h : evSliceC T rd t x lo hi mx = some e) (hr : ∀ n ∈ e.rds, rd' n = rd n) : evSliceC T rd' t x lo hi mx = some e := by
  unfold evSliceC at *
  split at h
  · rename_i n len k i
    split at h
    · split at h
      · split at h
        · rename_i ob hob
          split at h
          · rename_i hf
            simp only [Option.some.injEq] at h; subst h
            simp only [hr n (by simp), hob, hf]
          · cases h
        · cases h
      · cases h
    · cases h
  · cases h

theorem evIndexAddr_loc {T : Tys} {t : Nat} {x ix : SV} (h : evIndexAddr T rd t x ix = some e) (hr : ∀ n ∈ e.rds, rd' n = rd n) : evIndexAddr T rd' t x ix = some e := by
  unfold evIndexAddr at *
  split at h
  · split at h
    · rename_i n off
      split at h
      · rename_i hti
        split at h
        · rename_i hte
          split at h
          · rename_i ob hob
            simp only [Option.some.injEq] at h; subst h
            simp only [hr n (by simp), hob]
          · cases h
        · cases h
      · cases h
    · rename_i n off len cap
      split at h
      · rename_i hti
        split at h
        · rename_i hte
          split at h
          · rename_i ob hob
            simp only [Option.some.injEq] at h; subst h
            simp only [hr n (by simp), hob]
          · cases h
        · cases h
      · cases h
    · rename_i n len
      split at h
      · rename_i hti
        split at h
        · rename_i hte
          split at h
          · rename_i ob hob
            simp only [Option.some.injEq] at h; subst h
            simp only [hr n (by simp), hob]
          · cases h
        · cases h
      · cases h
    · cases h
  · cases h

theorem evSrc_loc {sz : Nat} {x : SV} {m : Nat} {vs : List SV} {mn : Nm} {p : Option Prop} (h : evSrc rd sz x = some (m, vs, mn, p)) (hr : rd' mn = rd mn) : evSrc rd' sz x = some (m, vs, mn, p) := by
  unfold evSrc at *
  split at h
  · split at h
    · rename_i ob hob
      split at h
      · rename_i us hus
        have hm := h
        simp only [Option.some.injEq, Prod.mk.injEq] at hm
        obtain ⟨_, _, rfl, _⟩ := hm
        simp only [hr, hob, hus]
        exact h
      · cases h
    · cases h
  · split at h
    · rename_i ob hob
      split at h
      · rename_i us hus
        have hm := h
        simp only [Option.some.injEq, Prod.mk.injEq] at hm
        obtain ⟨_, _, rfl, _⟩ := hm
        simp only [hr, hob, hus]
        exact h
      · cases h
    · cases h
  · cases h

theorem evAppend_loc {T : Tys} {t : Nat} {s x : SV} (h : evAppend T rd nm t s x = some e) (hr : ∀ n ∈ e.rds, rd' n = rd n) : evAppend T rd' nm t s x = some e := by
  unfold evAppend at *
  split at h
  · split at h
    · rename_i te hte
      split at h
      · rename_i m vs mn p hsrc
        split at h
        · rename_i hb
          split at h
          · split at h
            · rename_i hf
              have hm := h
              simp only [Option.some.injEq] at hm
              subst hm
              simp only [evSrc_loc hsrc (hr mn (by simp)), hb, hf]
            · cases h
          · rename_i n len
            split at h
            · rename_i el c es hob
              split at h
              · rename_i hbe
                split at h
                · rename_i c' hc'
                  have hm := h
                  simp only [Option.some.injEq] at hm
                  subst hm
                  simp only [evSrc_loc hsrc (hr mn (by simp)), hb, hr n (by simp), hob, hbe, hc']
                · cases h
              · cases h
            · cases h
          · cases h
        · cases h
      · cases h
    · cases h
  · cases h

theorem evOp_loc {o : Op} (h : evOp E ev rd nm o = some e) (hv : ∀ x ∈ o.operands, ev' x = ev x) (hr : ∀ n ∈ e.rds, rd' n = rd n) : evOp E ev' rd' nm o = some e := by
  cases o <;> simp only [evOp, reduceCtorEq] at h
  case move x => simp only [evOp, hv x (by simp [Op.operands])]; exact h
  case assign x => simp only [evOp, hv x (by simp [Op.operands])]; exact h
  case pick c a b => simp only [evOp, hv c (by simp [Op.operands]), hv a (by simp [Op.operands]), hv b (by simp [Op.operands])]; exact h
  case alloc t => exact h
  case box t x => simp only [evOp, hv x (by simp [Op.operands])]; exact h
  case load t x =>
    simp only [evOp, hv x (by simp [Op.operands])]
    split at h
    · exact evLd_loc h hr
    · cases h
  case store t x y =>
    simp only [evOp, hv x (by simp [Op.operands]), hv y (by simp [Op.operands])]
    split at h
    · exact evSt_loc h hr
    · cases h
  case binOp op t x y yt => simp only [evOp, hv x (by simp [Op.operands]), hv y (by simp [Op.operands])]; exact h
  case unOp op t x => simp only [evOp, hv x (by simp [Op.operands])]; exact h
  case convert s d x => simp only [evOp, hv x (by simp [Op.operands])]; exact h
  case makeInterface t x => simp only [evOp, hv x (by simp [Op.operands])]; exact h
  case makeFunc fn first captured =>
    simp only [evOp]
    rw [evL_congr (ev := ev) (ev' := ev') fun x hx => hv x (by simp [Op.operands]; exact .inl (by simpa using hx)), evL_congr (ev := ev) (ev' := ev') fun x hx => hv x (by simp [Op.operands]; exact .inr (by simpa using hx))]
    exact h
  case slice t x lo hi mx =>
    simp only [evOp, hv x (by simp [Op.operands])]
    rw [evO_congr (ev := ev) (ev' := ev') (x := lo) fun y hy => hv y (by simp [Op.operands, hy]), evO_congr (ev := ev) (ev' := ev') (x := hi) fun y hy => hv y (by simp [Op.operands, hy]), evO_congr (ev := ev) (ev' := ev') (x := mx) fun y hy => hv y (by simp [Op.operands, hy])]
    split at h
    · split at h
      · rename_i hs
        first | exact h | (simp only [hs]; exact h)
      · rename_i hs
        first | exact evSliceC_loc h hr | (simp only [hs]; exact evSliceC_loc h hr)
    · cases h
  case fieldAddr s x i =>
    simp only [evOp, hv x (by simp [Op.operands])]
    split at h
    · exact evFieldAddr_loc h hr
    · cases h
  case field s x i => simp only [evOp, hv x (by simp [Op.operands])]; exact h
  case indexAddr t x i =>
    simp only [evOp, hv x (by simp [Op.operands]), hv i (by simp [Op.operands])]
    split at h
    · exact evIndexAddr_loc h hr
    · cases h
  case build t parts =>
    simp only [evOp]
    rw [evParts_congr (ev := ev) (ev' := ev') fun p hp => hv p.2 (by simp only [Op.operands, List.mem_toArray, List.mem_map]; exact ⟨p, hp, rfl⟩)]
    exact h
  case buildSlice t len parts =>
    simp only [evOp]
    rw [evParts_congr (ev := ev) (ev' := ev') fun p hp => hv p.2 (by simp only [Op.operands, List.mem_toArray, List.mem_map]; exact ⟨p, hp, rfl⟩)]
    exact h
  case typeAssert x t asserted ok => simp only [evOp, hv x (by simp [Op.operands])]; exact h
  case extract x i => simp only [evOp, hv x (by simp [Op.operands])]; exact h
  case call c =>
    simp only [evOp]
    unfold evCallB at *
    split at h
    · split at h
      · split at h
        · rw [evL_congr (ev := ev) (ev' := ev') fun x hx => hv x (by simp [Op.operands, Call.operands]; exact .inr (by simpa using hx))]
          split at h
          · exact evAppend_loc h hr
          · cases h
        · cases h
      · cases h
    · rw [evL_congr (ev := ev) (ev' := ev') fun x hx => hv x (by simp [Op.operands, Call.operands]; exact .inr (by simpa using hx))]
      exact h
    · cases h

theorem evAny_loc {P : Program} (hG : GamOk P G.Γ) {o : Op} (h : evAny G ev rd nm o = some e) (hv : ∀ x ∈ o.operands, ev' x = ev x) (hr : ∀ n ∈ e.rds, rd' n = rd n) : evAny G ev' rd' nm o = some e := by
  unfold evAny at h
  split at h
  · rename_i c
    simp only [evAny]
    split at h
    · exact evOp_loc (nm := nm) (rd := rd) (rd' := rd') (o := .call c) h hv hr
    · unfold evCallF at *
      split at h
      · rename_i x hx
        have h1 : ev' x = ev x := hv x (by simp [Op.operands, Call.operands, hx])
        have h2 : evL ev' c.args.toList = evL ev c.args.toList := evL_congr fun y hy => hv y (by simp [Op.operands, Call.operands]; exact .inr (by simpa using hy))
        simp only [h1, h2]
        split at h
        · split at h
          · split at h
            · rename_i k hk
              exact (hG _ k hk).loc h hr
            · cases h
          · cases h
        · cases h
      · cases h
  · rename_i hno
    unfold evAny
    split
    · rename_i c; exact absurd rfl (hno c)
    · exact evOp_loc h hv hr

end
end Go.Sx
