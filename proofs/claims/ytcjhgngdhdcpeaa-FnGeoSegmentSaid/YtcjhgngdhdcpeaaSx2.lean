/- How the named memory follows the world: draws, new blocks, stores, calls that leave old memory alone. -/
import Derived.Test.YtcjhgngdhdcpeaaSx1
namespace Go.Sx
open Go.RowKit

theorem cell?_of_heap {w w' : World} {a : Addr} (h : w'.heap[a.block]? = w.heap[a.block]?) : w'.cell? a = w.cell? a := by
  unfold World.cell?; rw [h]

theorem lt_of_cell {w : World} {a : Addr} {v : Value} (h : w.cell? a = some v) : a.block < w.heap.size := by
  unfold World.cell? at h
  rcases Nat.lt_or_ge a.block w.heap.size with h' | h'
  · exact h'
  · simp [Array.getElem?_eq_none h'] at h

/-- The world has turned only where no named piece lies. -/
theorem OSat.congr {w w' : World} {ρ ρ' : Rho} {o : Ob} {p : Option (Nat × Nat × Nat)} (h : OSat w ρ o p)
    (hw : ∀ b off cp, p = some (b, off, cp) → (o.rw = true ∨ 0 < o.c.size) → b < w.heap.size → w'.heap[b]? = w.heap[b]?) (hd : ∀ i, i < o.c.size → (o.c.at i).den ρ' = (o.c.at i).den ρ) : OSat w' ρ' o p := by
  cases p with
  | none => exact h
  | some q =>
    obtain ⟨b, off, cp⟩ := q
    obtain ⟨h1, h2⟩ := h
    refine ⟨fun i hi => ?_, fun hr => ?_⟩
    · have hc := h1 i hi
      rw [hd i hi, ← hc]
      exact cell?_of_heap (hw b off cp rfl (.inr (by omega)) (lt_of_cell hc))
    · obtain ⟨h3, arr, h4, h5⟩ := h2 hr
      refine ⟨h3, arr, ?_, h5⟩
      rw [← h4]
      refine hw b off cp rfl (.inl hr) ?_
      rcases Nat.lt_or_ge b w.heap.size with h' | h'
      · exact h'
      · simp [Array.getElem?_eq_none h'] at h4

section
variable {W0 : World} {Fr : Nat → Prop} {U : Nm → Prop} {H : Heap} {ρ : Rho} {w w' : World}

theorem HSat.mono {U' : Nm → Prop} (h : HSat W0 Fr U H ρ w) (hu : ∀ n, U n → U' n) : HSat W0 Fr U' H ρ w :=
  { h with used := fun n o hn => hu n (h.used n o hn), bd := fun n o hn => Cont.bd_mono hu (h.bd n o hn) }

/-- Only lookups matter. -/
theorem HSat.lookEq {H' : Heap} (h : HSat W0 Fr U H ρ w) (he : ∀ n, look H' n = look H n) : HSat W0 Fr U H' ρ w :=
  { h with
    used := fun n o hn => h.used n o (by rw [← he n]; exact hn)
    bd := fun n o hn => h.bd n o (by rw [← he n]; exact hn)
    obj := fun n o hn => h.obj n o (by rw [← he n]; exact hn)
    inj := fun n m o o' p q hn hm => h.inj n m o o' p q (by rw [← he n]; exact hn) (by rw [← he m]; exact hm)
    free := fun n o p hn => h.free n o p (by rw [← he n]; exact hn) }

/-- A part of the named memory. -/
theorem HSat.sub {H' : Heap} (h : HSat W0 Fr U H ρ w) (he : ∀ n o, look H' n = some o → look H n = some o) : HSat W0 Fr U H' ρ w :=
  { h with
    used := fun n o hn => h.used n o (he n o hn)
    bd := fun n o hn => h.bd n o (he n o hn)
    obj := fun n o hn => h.obj n o (he n o hn)
    inj := fun n m o o' p q hn hm => h.inj n m o o' p q (he n o hn) (he m o' hm)
    free := fun n o p hn => h.free n o p (he n o hn) }

/-- The heap is the same (a draw). -/
theorem HSat.same (h : HSat W0 Fr U H ρ w) (hh : w'.heap = w.heap) (ho : w'.os = w.os) (ht : w'.tape = w.tape) (hp : w'.output = w.output) : HSat W0 Fr U H ρ w' :=
  { h with
    os := ho.trans h.os, tape := ht.trans h.tape, output := hp.trans h.output
    size := by rw [hh]; exact h.size
    frame := fun b hb => by rw [hh]; exact h.frame b hb
    obj := fun n o hn => (h.obj n o hn).congr (fun b _ _ _ _ _ => by rw [hh]) (fun _ _ => rfl) }

theorem HSat.drew (h : HSat W0 Fr U H ρ w) : HSat W0 Fr U H ρ w.drew := h.same rfl rfl rfl rfl

/-- A call that has left all old blocks alone. -/
theorem HSat.below (h : HSat W0 Fr U H ρ w) (hb : Below w.heap.size w w') : HSat W0 Fr U H ρ w' :=
  { h with
    os := hb.os.trans h.os, tape := hb.tape.trans h.tape, output := hb.output.trans h.output
    size := Nat.le_trans h.size hb.size
    frame := fun b hF => (hb.block b (Nat.lt_of_lt_of_le (h.frlt b hF) h.size)).trans (h.frame b hF)
    obj := fun n o hn => (h.obj n o hn).congr (fun b _ _ _ _ hlt => hb.block b hlt) (fun _ _ => rfl) }

def Rho.set (ρ : Rho) (n : Nm) (p : Nat × Nat × Nat) : Rho := fun m => if m = n then some p else ρ m

theorem Rho.set_agree {n : Nm} {p : Nat × Nat × Nat} (hn : ¬ U n) : ∀ m, U m → ρ.set n p m = ρ m := fun m hm => by
  unfold Rho.set; rw [if_neg]; intro e; subst e; exact hn hm

theorem Rho.set_self {n : Nm} {p : Nat × Nat × Nat} : ρ.set n p n = some p := by simp [Rho.set]

theorem heap_alloc_lt (o : Obj) {b : Nat} (h : b < w.heap.size) : (w.alloc o).heap[b]? = w.heap[b]? := by
  show (w.heap.push o)[b]? = _
  rw [Array.getElem?_push, if_neg (by omega)]

theorem heap_alloc_new (o : Obj) : (w.alloc o).heap[w.heap.size]? = some o := by
  show (w.heap.push o)[w.heap.size]? = _
  simp

theorem OSat.lt {o : Ob} {b off cp : Nat} (h : OSat w ρ o (some (b, off, cp))) (hr : o.rw = true) : b < w.heap.size := by
  obtain ⟨_, arr, h4, _⟩ := h.2 hr
  rcases Nat.lt_or_ge b w.heap.size with h' | h'
  · exact h'
  · simp [Array.getElem?_eq_none h'] at h4

/-- A new block. -/
theorem HSat.alloc (h : HSat W0 Fr U H ρ w) {n : Nm} (hn : ¬ U n) {t : TypeId} {c : Cont} (hc : c.bd U) {arr : Array Value} {es cp : Nat} (hs : c.size ≤ arr.size ∧ (0 < es → arr.size = cp * es) ∧ cp ≤ maxLen)
    (ha : ∀ i, i < c.size → arr[i]? = some ((c.at i).den ρ)) :
    HSat W0 Fr (fun m => U m ∨ m = n) ((n, ⟨true, t, c, es⟩) :: H) (ρ.set n (w.heap.size, 0, cp)) (w.alloc (.cells arr t)) where
  os := h.os
  tape := h.tape
  output := h.output
  size := by rw [World.size_alloc]; exact Nat.le_succ_of_le h.size
  frlt := h.frlt
  frame := fun b hb => by
    rw [heap_alloc_lt _ (Nat.lt_of_lt_of_le (h.frlt b hb) h.size)]; exact h.frame b hb
  used := fun m o hm => by
    rw [look_cons] at hm
    split at hm
    · rename_i e; exact .inr e.symm
    · exact .inl (h.used m o hm)
  bd := fun m o hm => by
    rw [look_cons] at hm
    split at hm
    · cases hm; exact Cont.bd_mono (fun _ h => .inl h) hc
    · exact Cont.bd_mono (fun _ h => .inl h) (h.bd m o hm)
  obj := fun m o hm => by
    rw [look_cons] at hm
    split at hm
    · rename_i e; subst e; cases hm
      rw [Rho.set_self]
      refine ⟨fun i hi => ?_, fun _ => ⟨rfl, arr, heap_alloc_new _, hs⟩⟩
      rw [SV.den_congr (Rho.set_agree hn) _ (hc i hi), ← ha i hi]
      simp only [World.cell?, heap_alloc_new]
      simp
    · have hm' := h.used m o hm
      rw [Rho.set_agree hn m hm']
      exact (h.obj m o hm).congr (fun b _ _ _ _ hlt => heap_alloc_lt _ hlt) (fun i hi => SV.den_congr (Rho.set_agree hn) _ (h.bd m o hm i hi))
  inj := fun m1 m2 o1 o2 p q h1 h2 hne hr hr2 hp hq => by
    rw [look_cons] at h1 h2
    split at h1
    · rename_i e; subst e
      rw [if_neg hne] at h2
      rw [Rho.set_self] at hp; cases hp
      rw [Rho.set_agree hn m2 (h.used _ _ h2)] at hq
      have ho := h.obj _ _ h2
      rw [hq] at ho
      intro e
      rcases hr2 with hr2 | hr2
      · have := OSat.lt (b := q.1) (off := q.2.1) (cp := q.2.2) ho hr2; simp at e; omega
      · have := lt_of_cell (ho.1 0 hr2); simp at e this; omega
    · rw [Rho.set_agree hn m1 (h.used _ _ h1)] at hp
      split at h2
      · rename_i e; subst e
        rw [Rho.set_self] at hq; cases hq
        have ho := h.obj _ _ h1
        rw [hp] at ho
        have := OSat.lt (b := p.1) (off := p.2.1) (cp := p.2.2) ho hr
        show p.1 ≠ w.heap.size
        omega
      · rw [Rho.set_agree hn m2 (h.used _ _ h2)] at hq
        exact h.inj m1 m2 o1 o2 p q h1 h2 hne hr hr2 hp hq
  free := fun m o p hm hr hp => by
    rw [look_cons] at hm
    split at hm
    · rename_i e; subst e
      rw [Rho.set_self] at hp; cases hp
      intro hF
      have h1 : w.heap.size < W0.heap.size := h.frlt _ hF
      have := h.size
      omega
    · rw [Rho.set_agree hn m (h.used _ _ hm)] at hp
      exact h.free m o p hm hr hp

/-- A store into one cell of a piece that may be written. -/
theorem HSat.store (h : HSat W0 Fr U H ρ w) {n : Nm} {o : Ob} (hn : look H n = some o) (hr : o.rw = true) {b off cp i : Nat} (hp : ρ n = some (b, off, cp)) {v : SV} (hv : v.bd U)
    {c' : Cont} (hi : i < o.c.size) (hs : c'.size = o.c.size) (hc : ∀ j, j < o.c.size → c'.at j = if j = i then v else o.c.at j) :
    HSat W0 Fr U ((n, { o with c := c' }) :: H) ρ (w.setCell ⟨b, off + i, none⟩ (v.den ρ)) where
  os := h.os
  tape := h.tape
  output := h.output
  size := by rw [World.size_setCell]; exact h.size
  frlt := h.frlt
  frame := fun k hk => by
    rw [Below.heap_setCell _ _ _ _ (fun e => h.free n o _ hn hr hp (by subst e; exact hk))]; exact h.frame k hk
  used := fun m o' hm => by
    rw [look_cons] at hm
    split at hm
    · rename_i e; subst e; exact h.used _ o hn
    · exact h.used m o' hm
  bd := fun m o' hm => by
    rw [look_cons] at hm
    split at hm
    · cases hm
      intro j hj
      have hj' : j < o.c.size := hs ▸ hj
      show (c'.at j).bd U
      rw [hc j hj']
      split
      · exact hv
      · exact h.bd n o hn j hj'
    · exact h.bd m o' hm
  obj := fun m o' hm => by
    have ho := h.obj n o hn
    rw [hp] at ho
    obtain ⟨h1, h2⟩ := ho
    obtain ⟨h3, arr, h4, h5⟩ := h2 hr
    rw [look_cons] at hm
    split at hm
    · rename_i e; subst e; cases hm
      rw [hp]
      refine ⟨fun j hj => ?_, fun _ => ⟨h3, arr.setIfInBounds (off + i) (v.den ρ), ?_, ?_⟩⟩
      · have hj' : j < o.c.size := hs ▸ hj
        show _ = some ((c'.at j).den ρ)
        rw [hc j hj']
        by_cases hji : j = i
        · subst hji
          rw [if_pos rfl]
          exact World.cell?_setCell_same _ _ _ (h1 j hj')
        · rw [if_neg hji, World.cell?_setCell_other _ _ _ _ (by intro e; injection e; omega)]
          exact h1 j hj'
      · simp [World.setCell, Array.getElem?_modify, h4]
      · show c'.size ≤ _ ∧ _
        rw [hs]; simpa using h5
    · rename_i hne
      refine (h.obj m o' hm).congr (fun b' off' cp' hb' hs' _ => Below.heap_setCell _ _ _ _ fun e => ?_) (fun _ _ => rfl)
      exact h.inj n m o o' (b, off, cp) (b', off', cp') hn hm hne hr hs' hp hb' e.symm
  inj := fun m1 m2 o1 o2 p q h1 h2 hne hr1 hr2 hp hq => by
    rw [look_cons] at h1 h2
    split at h1 <;> split at h2
    · rename_i e1 e2; exact absurd (e1.symm.trans e2) hne
    · rename_i e _; subst e; cases h1
      exact h.inj _ m2 o o2 p q hn h2 hne hr hr2 hp hq
    · rename_i _ e; subst e; cases h2
      exact h.inj m1 _ o1 o p q h1 hn hne hr1 (.inl hr) hp hq
    · exact h.inj m1 m2 o1 o2 p q h1 h2 hne hr1 hr2 hp hq
  free := fun m o' p hm hr' hp' => by
    rw [look_cons] at hm
    split at hm
    · rename_i e; subst e; exact h.free _ o p hn hr hp'
    · exact h.free m o' p hm hr' hp'

end
end Go.Sx
