/- math's functions that Segment.Raycast reaches. -/
import Derived.Test.YtcjhgngdhdcpeaaT1
import Derived.Test.YtcjhgngdhdcpeaaSx24
import Derived.Test.YtcjhgngdhdcpeaaFl6
namespace Go.Proofs.Try.Sx
open Go Go.Sx Go.Proofs Go.Fl
set_option maxRecDepth 100000

def frombitsF : PF := fun
  | [.int .u64 n] => some (.flt .f64 n.toNat, none)
  | _ => none
theorem frombits : PureOk Try.prog 63 frombitsF := by
  refine pure_of_extern Try.func63 (by kernel_rfl) (by kernel_rfl) (by kernel_rfl) (e := Extern.MathFloatBits.float64frombits) (by kernel_rfl) ?_
  intro args v p h hp
  unfold frombitsF at h
  split at h
  · injection h with h; injection h with h1 h2; subst h1; subst h2
    exact ⟨rfl, fun ρ w => rfl⟩
  · cases h

def bitsF : PF := fun
  | [.flt .f64 n] => some (.int .u64 n, none)
  | _ => none
theorem bits : PureOk Try.prog 64 bitsF := by
  refine pure_of_extern Try.func64 (by kernel_rfl) (by kernel_rfl) (by kernel_rfl) (e := Extern.MathFloatBits.float64bits) (by kernel_rfl) ?_
  intro args v p h hp
  unfold bitsF at h
  split at h
  · injection h with h; injection h with h1 h2; subst h1; subst h2
    exact ⟨rfl, fun ρ w => rfl⟩
  · cases h

def GM : Ctx := ⟨⟨tys, []⟩, [(63, pureCon frombitsF), (64, pureCon bitsF)]⟩
theorem gM : CtxOk Try.prog GM := ⟨⟨tysOk, FlatsOk.nil⟩, GamOk.cons (.pure frombits) (GamOk.cons (.pure bits) GamOk.nil), by kernel_rfl⟩

def isNaNF : PF := fun
  | [.flt .f64 x] => some (.bool (fNe .f64 x x), none)
  | _ => none
theorem isNaN : PureOk Try.prog 60 isNaNF := by
  refine pure_of_run gM Try.func60 rfl (by kernel_rfl) ?_
  intro args v p h hp
  unfold isNaNF at h
  split at h
  · injection h with h; injection h with h1 h2; subst h1; subst h2
    exact ⟨rfl, rfl, rfl, rfl⟩
  · cases h

def infF : PF := fun
  | [.int .i64 s] => some (.flt .f64 infw, some (s = 1))
  | _ => none
theorem inf : PureOk Try.prog 56 infF := by
  refine pure_of_run gM Try.func56 rfl (by kernel_rfl) ?_
  intro args v p h hp
  unfold infF at h
  split at h
  · injection h with h; injection h with h1 h2; subst h1; subst h2
    have hp : _ = _ := hp
    subst hp
    refine ⟨rfl, rfl, rfl, ?_⟩
    refine And.intro ?_ ?_
    · intro _; exact rfl
    · intro h; exact absurd h (by decide)
  · cases h

def copyF : PF := fun
  | [.flt .f64 x, .flt .f64 y] => some (.flt .f64 1, some (x = 1 ∧ y = infw))
  | _ => none
theorem copysign : PureOk Try.prog 62 copyF := by
  refine pure_of_run gM Try.func62 rfl (by kernel_rfl) ?_
  intro args v p h hp
  unfold copyF at h
  split at h
  · injection h with h; injection h with h1 h2; subst h1; subst h2
    have hp : _ ∧ _ := hp
    obtain ⟨rfl, rfl⟩ := hp
    refine ⟨rfl, rfl, rfl, ?_⟩
    show (_ : Nat) = _
    kernel_rfl
  · cases h

def GN : Ctx := ⟨⟨tys, []⟩, [(63, pureCon frombitsF), (64, pureCon bitsF), (60, pureCon isNaNF), (62, pureCon copyF)]⟩
theorem gN : CtxOk Try.prog GN := ⟨⟨tysOk, FlatsOk.nil⟩, GamOk.cons (.pure frombits) (GamOk.cons (.pure bits) (GamOk.cons (.pure isNaN) (GamOk.cons (.pure copysign) GamOk.nil))), by kernel_rfl⟩

def nextF : PF := fun
  | [.flt .f64 x, .flt .f64 y] => some (.flt .f64 (nxt x), some (y = infw ∧ Fl.Fin x ∧ x + 1 < 18446744073709551616))
  | _ => none
theorem next : PureOk Try.prog 55 nextF := by
  refine pure_of_run gN Try.func55 rfl (by kernel_rfl) ?_
  intro args v p h hp
  unfold nextF at h
  split at h
  · rename_i x y
    injection h with h; injection h with h1 h2; subst h1; subst h2
    have hp : _ ∧ _ ∧ _ := hp
    obtain ⟨rfl, hx, hlt⟩ := hp
    refine ⟨rfl, rfl, rfl, ?_⟩
    have e1 : fNe .f64 x x = false := fne_self hx
    have e2 : fNe .f64 infw infw = false := by kernel_rfl
    have e3 : fEq .f64 x infw = false := feq_inf hx
    have e4 : fEq .f64 x 0 = decide (V x = 0) := feq_zero hx
    have e5 : fGt .f64 infw x = true := fgt_inf hx
    have e6 : fGt .f64 x 0 = decide (0 < V x) := fgt_zero hx
    repeat' (first | (intro h; first | (exact absurd h (by simp only [e1, e2, e3, e5]; decide)) | skip) | (refine And.intro ?_ ?_))
    all_goals (show (_ : Nat) = _)
    · rfl
    · rfl
    · rename_i h
      rw [e4] at h
      simp [nxt, of_decide_eq_true h]
    · rename_i h
      have h0 : fEq .f64 x 0 = false := by assumption
      rw [e4] at h0
      rw [e5, e6] at h
      have h0 := of_decide_eq_false h0
      have h : 0 < V x := by simpa using h
      rw [wrapu64 (by omega) (by omega)]
      simp only [nxt, h0, h, if_true, if_false]
      omega
    · rename_i h
      have h0 : fEq .f64 x 0 = false := by assumption
      rw [e4] at h0
      rw [e5, e6] at h
      have h0 := of_decide_eq_false h0
      have h : ¬ 0 < V x := by simpa using h
      have hx0 : x ≠ 0 := fun e => h0 (by rw [e]; exact V_zero)
      rw [wrapu64 (by omega) (by omega)]
      simp only [nxt, h0, h, if_false]
      omega
  · cases h

end Go.Proofs.Try.Sx
