/- Segment.Raycast: the loop. -/
import Derived.Test.YtcjhgngdhdcpeaaRay2
namespace Go.Proofs.Try.Sx
open Go Go.Sx Go.Proofs Go.Fl Go.Geo
set_option maxRecDepth 100000

theorem Refines.rfl' {S : St} : Refines 0 S S := ⟨Nat.zero_le _, fun _ _ ρ _ _ h => ⟨ρ, h, fun _ _ => rfl⟩⟩

section
variable {ax ay bx by' px py : Nat} {a1 a2 b1 b2 p1 p2 : Int} (H : Pts ax ay bx by' px py a1 a2 b1 b2 p1 p2)
include H

def LI (ax ay bx by' px py : Nat) : Bool → St
  | false => SR px py ax ay bx by'
  | true => SR px (nxt py) ax ay bx by'
def Lμ : Bool → Nat
  | false => 1
  | true => 0

set_option maxHeartbeats 4000000 in
theorem cut5 (hA : p2 ≠ a2 ∧ p2 ≠ b2 → Wp Try.prog 0 c7 (SR px py ax ay bx by') (KK a1 a2 b1 b2 p1 p2)) (hB : p2 = a2 ∨ p2 = b2 → Wp Try.prog 0 c7 (SR px (nxt py) ax ay bx by') (KK a1 a2 b1 b2 p1 p2)) :
    Wp Try.prog 0 c6 (SR px py ax ay bx by') (KK a1 a2 b1 b2 p1 p2) := by
  refine Wp.seq (K1 := fun e S' => match e with
    | .normal => ((p2 ≠ a2 ∧ p2 ≠ b2) ∧ Refines 0 S' (SR px py ax ay bx by')) ∨ ((p2 = a2 ∨ p2 = b2) ∧ Refines 0 S' (SR px (nxt py) ax ay bx by'))
    | _ => False) ?_ (fun S' h' => by
      rcases h' with ⟨h1, h2⟩ | ⟨h1, h2⟩
      · exact Wp.refines h2 (hA h1)
      · exact Wp.refines h2 (hB h1)) (fun _ _ h => h.elim) (fun _ h => h.elim)
  clear hA hB
  have e1 := feq_I H.py H.ay
  have e2 := feq_I H.py H.by'
  have hn := near_nxt H.py H.hp2
  have e3 := near_eq hn H.ay
  have e4 := near_eq hn H.by'
  have hf := H.py.1
  have hl := (nxt_spec H.py H.hp2).1
  refine Wp.block (Wp.loop (ι := { i : Bool // i = true → (p2 = a2 ∨ p2 = b2) }) (fun i => LI ax ay bx by' px py i.1) (fun i => Lμ i.1) ⟨false, by intro h; cases h⟩ Refines.rfl' ?_)
  rintro ⟨i, hi⟩
  cases i with
  | false =>
    refine Wp.run gR ?_
    refine And.intro ?_ ?_
    · intro h
      rw [e1] at h
      refine And.intro rfl (And.intro ⟨rfl, hf, hl⟩ (And.intro (by kernel_rfl) ?_))
      refine ⟨⟨true, fun _ => .inl (of_decide_eq_true h)⟩, show (0 : Nat) < 1 by decide, Refines.by_names [] ⟨rfl, rfl, rfl, rfl, ?_, ?_⟩⟩
      · exact ⟨⟨rfl, trivial, rfl⟩, ⟨rfl, trivial, rfl⟩, ⟨rfl, trivial, rfl⟩, ⟨rfl, trivial, rfl⟩, trivial⟩
      · exact ⟨⟨rfl, rfl, rfl, rfl, trivial, trivial, trivial⟩, ⟨rfl, rfl, rfl, rfl, rfl, rfl, trivial⟩, ⟨rfl, rfl, rfl, rfl, rfl, rfl, trivial⟩, ⟨rfl, rfl, rfl, rfl, rfl, rfl, trivial⟩, trivial⟩
    · intro h
      rw [e1] at h
      refine And.intro ?_ ?_
      · intro h'
        rw [e2] at h'
        refine And.intro rfl (And.intro ⟨rfl, hf, hl⟩ (And.intro (by kernel_rfl) ?_))
        refine ⟨⟨true, fun _ => .inr (of_decide_eq_true h')⟩, show (0 : Nat) < 1 by decide, Refines.by_names [] ⟨rfl, rfl, rfl, rfl, ?_, ?_⟩⟩
        · exact ⟨⟨rfl, trivial, rfl⟩, ⟨rfl, trivial, rfl⟩, ⟨rfl, trivial, rfl⟩, ⟨rfl, trivial, rfl⟩, trivial⟩
        · exact ⟨⟨rfl, rfl, rfl, rfl, trivial, trivial, trivial⟩, ⟨rfl, rfl, rfl, rfl, rfl, rfl, trivial⟩, ⟨rfl, rfl, rfl, rfl, rfl, rfl, trivial⟩, ⟨rfl, rfl, rfl, rfl, rfl, rfl, trivial⟩, trivial⟩
      · intro h'
        rw [e2] at h'
        refine Or.inl ⟨⟨of_decide_eq_false h, of_decide_eq_false h'⟩, Refines.by_names [] ⟨rfl, rfl, rfl, rfl, ?_, ?_⟩⟩
        · exact ⟨⟨rfl, trivial, rfl⟩, ⟨rfl, trivial, rfl⟩, ⟨rfl, trivial, rfl⟩, ⟨rfl, trivial, rfl⟩, trivial⟩
        · exact ⟨⟨rfl, rfl, rfl, rfl, trivial, trivial, trivial⟩, ⟨rfl, rfl, rfl, rfl, rfl, rfl, trivial⟩, ⟨rfl, rfl, rfl, rfl, rfl, rfl, trivial⟩, ⟨rfl, rfl, rfl, rfl, rfl, rfl, trivial⟩, trivial⟩
  | true =>
    have hi := hi rfl
    refine Wp.run gR ?_
    refine And.intro ?_ ?_
    · intro h
      rw [e3] at h; cases h
    · intro h
      refine And.intro ?_ ?_
      · intro h'
        rw [e4] at h'; cases h'
      · intro h'
        refine Or.inr ⟨hi, Refines.by_names [] ⟨rfl, rfl, rfl, rfl, ?_, ?_⟩⟩
        · exact ⟨⟨rfl, trivial, rfl⟩, ⟨rfl, trivial, rfl⟩, ⟨rfl, trivial, rfl⟩, ⟨rfl, trivial, rfl⟩, trivial⟩
        · exact ⟨⟨rfl, rfl, rfl, rfl, trivial, trivial, trivial⟩, ⟨rfl, rfl, rfl, rfl, rfl, rfl, trivial⟩, ⟨rfl, rfl, rfl, rfl, rfl, rfl, trivial⟩, ⟨rfl, rfl, rfl, rfl, rfl, rfl, trivial⟩, trivial⟩

end
end Go.Proofs.Try.Sx
