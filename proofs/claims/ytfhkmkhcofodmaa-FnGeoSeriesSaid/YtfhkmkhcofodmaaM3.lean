/- Parts of a proof, in order: what each says stands at its head. No conditions. -/
import Derived.Test.YtfhkmkhcofodmaaProg
import Derived.KernelRfl
import Derived.Test.YtfhkmkhcofodmaaM2
import Derived.Test.YtfhkmkhcofodmaaM1
namespace Go.Sx
open Go.RowKit
inductive Xt where
 | normal
 | exit (id : Nat)
 | ret
def Refines (N0 : Nat) (S S' : St) : Prop :=
 N0 ≤ S'.N ∧ ∀ W0 Fr ρ a w, Sat W0 Fr S ρ a w → ∃ ρ', Sat W0 Fr S' ρ' a w ∧ ∀ n, n < N0 → ρ' n = ρ n
structure LoopOk (N0 : Nat) (body : St → (Xt → St → Prop) → Prop) (S : St) (K : Xt → St → Prop) : Prop where
 ex : ∃ (ι : Type) (I : ι → St) (μ : ι → Nat) (i0 : ι), Refines N0 S (I i0) ∧
   ∀ i, body (I i) (fun e S' => match e with
     | .normal => ∃ i', μ i' < μ i ∧ Refines N0 S' (I i')
     | e => K e S')
def runC (G : Ctx) (N0 : Nat) : Code → St → (Xt → St → Prop) → Prop
 | .skip, S, K => K .normal S
 | .region _ ops draw, S, K => match draw with
   | false => runOps G ops.toList ops.toList S (K .normal)
   | true => expl G ops.toList S (K .normal) 20 []
 | .seq x y, S, K => runC G N0 x S (fun e S' => match e with
   | .normal => runC G N0 y S' K
   | e => K e S')
 | .cond c x y, S, K => match opr S.sl c with
   | some .tt => runC G N0 x S K
   | some .ff => runC G N0 y S K
   | some (.bool b) => (b = true → runC G N0 x S K) ∧ (b = false → runC G N0 y S K)
   | _ => False
 | .block id x, S, K => runC G N0 x S (fun e S' => match e with
   | .exit j => match Nat.beq j id with
     | true => K .normal S'
     | false => K (.exit j) S'
   | e => K e S')
 | .exit id, S, K => K (.exit id) S
 | .ret, S, K => K .ret S
 | .loop x, S, K => LoopOk N0 (runC G N0 x) S K
 | _, _, _ => False
section
variable {P : Program} {W0 : World} {Fr : Nat → Prop} {G : Ctx}
def AfterX (W0 : World) (Fr : Nat → Prop) (N0 : Nat) (ρ0 : Rho) (K : Xt → St → Prop) (Q : Exit → Act → World → Prop) : Prop :=
 ∀ e S' ρ' a' w', K e S' → Sat W0 Fr S' ρ' a' w' → N0 ≤ S'.N → (∀ n, n < N0 → ρ' n = ρ0 n) →
   match e with
   | .normal => Q .normal a' w'
   | .exit id => Q (.exit id) a' w'
   | .ret => Q .ret a' w'
theorem wp_loop_ghost {Q : Exit → Act → World → Prop} {c : Code} {ι : Type} (J : ι → Act → World → Prop) (μ : ι → Nat)
   (round : ∀ i a w, J i a w → c.wp P (Exit.then (fun a' w' => ∃ i', J i' a' w' ∧ μ i' < μ i) Q) a w) {i0 : ι} {a : Act} {w : World} (h0 : J i0 a w) : (Code.loop c).wp P Q a w := by
 classical
 have least : ∀ a w, (∃ i, J i a w) → ∃ i, J i a w ∧ ∀ j, J j a w → μ i ≤ μ j := by
   intro a w ⟨i, hi⟩
   have key : ∀ n (i : ι), J i a w → μ i = n → ∃ i, J i a w ∧ ∀ j, J j a w → μ i ≤ μ j := by
     intro n
     induction n using Nat.strongRecOn with
     | _ n ih =>
       intro i hi hn
       by_cases h : ∃ j, J j a w ∧ μ j < μ i
       · obtain ⟨j, hj, hlt⟩ := h
         exact ih (μ j) (hn ▸ hlt) j hj rfl
       · exact ⟨i, hi, fun j hj => Nat.le_of_not_lt fun hlt => h ⟨j, hj, hlt⟩⟩
   exact key _ i hi rfl
 let m : Act → World → Nat := fun a w => if h : ∃ i, J i a w then μ (Classical.choose (least a w h)) else 0
 refine wp_loop (fun a w => ∃ i, J i a w) m ⟨i0, h0⟩ fun a w hI => ?_
 obtain ⟨h1, h2⟩ := Classical.choose_spec (least a w hI)
 refine wp_mono (round _ a w h1) fun e a' w' hq => ?_
 cases e with
 | normal =>
   obtain ⟨i', hi', hlt⟩ := hq
   refine ⟨⟨i', hi'⟩, ?_⟩
   have hI' : ∃ i, J i a' w' := ⟨i', hi'⟩
   obtain ⟨h3, h4⟩ := Classical.choose_spec (least a' w' hI')
   show m a' w' < m a w
   simp only [m, dif_pos hI', dif_pos hI]
   exact Nat.lt_of_le_of_lt (h4 i' hi') hlt
 | exit id => exact hq
 | goto l => exact hq
 | ret => exact hq
 | panic ch => exact hq
 | outgrown => exact hq
theorem runC_sound (hG : CtxOk P G) {N0 : Nat} {ρ0 : Rho} : ∀ (c : Code) {S : St} {ρ : Rho} {a : Act} {w : World} {K : Xt → St → Prop} {Q : Exit → Act → World → Prop}, runC G N0 c S K → Sat W0 Fr S ρ a w → N0 ≤ S.N →
   (∀ n, n < N0 → ρ n = ρ0 n) → AfterX W0 Fr N0 ρ0 K Q → c.wp P Q a w := by
 intro c
 induction c with
 | skip => intro S ρ a w K Q h hS hN hρ hK; exact wp_skip (hK .normal S ρ a w h hS hN hρ)
 | region id ops draw =>
   intro S ρ a w K Q h hS hN hρ hK
   cases draw with
   | false =>
     simp only [runC] at h
     refine wp_region ?_
     have := runOps_sound hG (Q := Q) ops.toList 0 (fun j => by simp) h hS hN hρ (fun S' ρ' a' w' h' hS' hN' hρ' => hK .normal S' ρ' a' w' h' hS' hN' hρ')
     rw [List.range_eq_range']
     simpa using this
   | true =>
     simp only [runC] at h
     exact expl_sound hG hG.mix 20 [] h hS hN hρ (fun S' ρ' a' w' h' hS' hN' hρ' => hK .normal S' ρ' a' w' h' hS' hN' hρ')
 | seq x y ihx ihy =>
   intro S ρ a w K Q h hS hN hρ hK
   simp only [runC] at h
   refine wp_seq (ihx h hS hN hρ fun e S' ρ' a' w' h' hS' hN' hρ' => ?_)
   cases e with
   | normal => exact ihy h' hS' hN' hρ' hK
   | exit id => exact hK (.exit id) S' ρ' a' w' h' hS' hN' hρ'
   | ret => exact hK .ret S' ρ' a' w' h' hS' hN' hρ'
 | cond c x y ihx ihy =>
   intro S ρ a w K Q h hS hN hρ hK
   simp only [runC] at h
   split at h
   · rename_i hv
     exact wp_cond_true (by simpa [SV.den] using (opr_sat hS.s hv).1) (ihx h hS hN hρ hK)
   · rename_i hv
     exact wp_cond_false (by simpa [SV.den] using (opr_sat hS.s hv).1) (ihy h hS hN hρ hK)
   · rename_i b hv
     have hb := (opr_sat hS.s hv).1
     simp only [SV.den] at hb
     exact wp_cond_split hb (fun e => ihx (h.1 e) hS hN hρ hK) (fun e => ihy (h.2 e) hS hN hρ hK)
   · exact h.elim
 | block id x ih =>
   intro S ρ a w K Q h hS hN hρ hK
   simp only [runC] at h
   refine wp_block (ih h hS hN hρ fun e S' ρ' a' w' h' hS' hN' hρ' => ?_)
   cases e with
   | normal => exact hK .normal S' ρ' a' w' h' hS' hN' hρ'
   | ret => exact hK .ret S' ρ' a' w' h' hS' hN' hρ'
   | exit j =>
     simp only at h'
     simp only [Exit.inBlock]
     split at h'
     · rename_i hj
       rw [if_pos (Nat.eq_of_beq_eq_true hj)]
       exact hK .normal S' ρ' a' w' h' hS' hN' hρ'
     · rename_i hj
       rw [if_neg (fun e => by subst e; simp at hj)]
       exact hK (.exit j) S' ρ' a' w' h' hS' hN' hρ'
 | exit id => intro S ρ a w K Q h hS hN hρ hK; exact wp_exit (hK (.exit id) S ρ a w h hS hN hρ)
 | ret => intro S ρ a w K Q h hS hN hρ hK; exact wp_ret (hK .ret S ρ a w h hS hN hρ)
 | loop x ih =>
   intro S ρ a w K Q h hS hN hρ hK
   simp only [runC] at h
   obtain ⟨ι, I, μ, i0, h0, hr⟩ := h.ex
   have start : ∀ {S1 : St} {i : ι}, Refines N0 S1 (I i) → ∀ {ρ1 a1 w1}, Sat W0 Fr S1 ρ1 a1 w1 → (∀ n, n < N0 → ρ1 n = ρ0 n) →
       ∃ ρ', Sat W0 Fr (I i) ρ' a1 w1 ∧ N0 ≤ (I i).N ∧ ∀ n, n < N0 → ρ' n = ρ0 n := by
     intro S1 i hR ρ1 a1 w1 hS1 hρ1
     obtain ⟨ρ', h1, h2⟩ := hR.2 W0 Fr ρ1 a1 w1 hS1
     exact ⟨ρ', h1, hR.1, fun n hn => (h2 n hn).trans (hρ1 n hn)⟩
   refine wp_loop_ghost (fun i a w => ∃ ρ', Sat W0 Fr (I i) ρ' a w ∧ N0 ≤ (I i).N ∧ ∀ n, n < N0 → ρ' n = ρ0 n) μ ?_ (start h0 hS hρ)
   rintro i a1 w1 ⟨ρ1, hS1, hN1, hρ1⟩
   refine ih (hr i) hS1 hN1 hρ1 fun e S' ρ' a' w' h' hS' hN' hρ' => ?_
   cases e with
   | normal =>
     obtain ⟨i', hlt, hR⟩ := h'
     exact ⟨i', start hR hS' hρ', hlt⟩
   | exit id => exact hK (.exit id) S' ρ' a' w' h' hS' hN' hρ'
   | ret => exact hK .ret S' ρ' a' w' h' hS' hN' hρ'
 | _ => intro S ρ a w K Q h; exact (h : False).elim
def resV (T : Tys) (S : St) : ResultVar → Option (SV × Option Prop)
 | .tmp t => match slot S.sl t with
   | some v => some (v, none)
   | none => none
 | .cell a t => match slot S.sl a with
   | some (.ptr n i) => match ty T t with
     | some ti => match Nat.ble 1 ti.size with
       | true => match look S.H n with
         | some ob => evLoad ti ob.c i
         | none => none
       | false => none
     | none => none
   | _ => none
def resL (T : Tys) (S : St) : List ResultVar → Option (List SV × Option Prop)
 | [] => some ([], none)
 | x :: r => match resV T S x with
   | some (v, p) => match resL T S r with
     | some (vs, q) => some (v :: vs, match p, q with
       | none, q => q
       | p, none => p
       | some p, some q => some (p ∧ q))
     | none => none
   | none => none
def resS (vs : List SV) : SV :=
 match vs with
 | [v] => v
 | vs => .tup vs
def rdRes (a : Array Value) : ResultVar → Sem Value
 | .tmp t => pure (a.getD t undef)
 | .cell a' t => do loadVar t (← asAddr (a.getD a' undef))
theorem results_eq (fn : Func) (a : Array Value) : results fn a = (do
   let vs ← fn.results.mapM (rdRes a)
   pure (if h : vs.size = 1 then vs[0] else .tuple vs)) := by
 unfold results
 congr 1
theorem resV_sound {T : Tys} (hT : TysOk P T) {S : St} {ρ : Rho} {a : Act} {w : World} (hS : Sat W0 Fr S ρ a w) {x : ResultVar} {v : SV} {p : Option Prop} (h : resV T S x = some (v, p)) (hp : okP p) :
   (rdRes a.tmps x).run P w = .ok (v.den ρ) w ∧ v.bd (· < S.N) := by
 cases x with
 | tmp t =>
   simp only [resV] at h
   split at h
   · rename_i u hu
     simp only [Option.some.injEq, Prod.mk.injEq] at h
     obtain ⟨rfl, rfl⟩ := h
     have := hS.s.val _ _ hu
     exact ⟨by simp [rdRes, Array.getD_eq_getD_getElem?, this], hS.s.bd _ _ hu⟩
   · cases h
 | cell a' t =>
   simp only [resV] at h
   split at h
   · rename_i n i hn
     split at h
     · rename_i ti hti
       split at h
       · rename_i hsz
         split at h
         · rename_i ob hob
           obtain ⟨h1, h2⟩ := evLoad_sound (hT t ti hti) hS.h hob h hp (fun _ => Nat.le_of_ble_eq_true hsz)
           refine ⟨?_, h2⟩
           have hv := hS.s.val _ _ hn
           simp only [SV.den] at hv
           simp only [rdRes, Array.getD_eq_getD_getElem?, hv, Option.getD_some]
           simp only [Instr.loadAt] at h1
           rw [← h1]
           cases ha : ρ.addr n i with
           | none => rw [ha] at h1; simp [Instr.sureAddr] at h1
           | some ad => simp [Instr.sureAddr, asAddr]
         · cases h
       · cases h
     · cases h
   · cases h
theorem resL_sound {T : Tys} (hT : TysOk P T) {S : St} {ρ : Rho} {a : Act} {w : World} (hS : Sat W0 Fr S ρ a w) : ∀ {xs : List ResultVar} {vs : List SV} {p : Option Prop}, resL T S xs = some (vs, p) → okP p →
   (xs.mapM (rdRes a.tmps)).run P w = .ok (denL ρ vs) w ∧ bdL (· < S.N) vs
 | [], vs, p, h, hp => by
   simp only [resL, Option.some.injEq, Prod.mk.injEq] at h
   obtain ⟨rfl, rfl⟩ := h
   simp [denL, bdL]
 | x :: r, vs, p, h, hp => by
   simp only [resL] at h
   split at h
   · rename_i v p1 h1
     split at h
     · rename_i us q h2
       simp only [Option.some.injEq, Prod.mk.injEq] at h
       obtain ⟨rfl, rfl⟩ := h
       have hpq : okP p1 ∧ okP q := by
         cases p1 <;> cases q <;> first | exact ⟨trivial, trivial⟩ | exact ⟨trivial, hp⟩ | exact ⟨hp, trivial⟩ | exact hp
       obtain ⟨h3, h4⟩ := resV_sound hT hS h1 hpq.1
       obtain ⟨h5, h6⟩ := resL_sound hT hS h2 hpq.2
       refine ⟨?_, h4, h6⟩
       simp only [List.mapM_cons, Sem.run_bind, h3, h5, Result.andThen_ok, Sem.run_pure, denL]
     · cases h
   · cases h
theorem resS_sound {T : Tys} (hT : TysOk P T) {S : St} {ρ : Rho} {a : Act} {w : World} (hS : Sat W0 Fr S ρ a w) {fn : Func} {vs : List SV} {p : Option Prop} (h : resL T S fn.results.toList = some (vs, p)) (hp : okP p) :
   (results fn a.tmps).run P w = .ok ((resS vs).den ρ) w ∧ (resS vs).bd (· < S.N) := by
 obtain ⟨h1, h2⟩ := resL_sound hT hS h hp
 have h3 : (fn.results.mapM (rdRes a.tmps)).run P w = .ok (denL ρ vs).toArray w := by
   rw [← Array.toArray_toList (xs := fn.results), List.mapM_toArray]
   simp only [Sem.run_map, h1, Result.andThen_ok]
 rw [results_eq]
 simp only [Sem.run_bind]
 rw [h3]
 simp only [Result.andThen_ok, Sem.run_pure]
 match vs with
 | [v] => exact ⟨by simp [denL, resS], by simpa [resS, bdL] using h2⟩
 | [] => exact ⟨by simp [denL, resS, SV.den], by simp [resS, SV.bd, bdL]⟩
 | v :: u :: r => exact ⟨by simp [denL, resS, SV.den], by simpa [resS, SV.bd] using h2⟩
end
mutual
def eqv : SV → SV → Prop
 | .tt, .tt => True
 | .ff, .ff => True
 | .tt, .bool b => b = true
 | .ff, .bool b => b = false
 | .bool b, .tt => b = true
 | .bool b, .ff => b = false
 | .bool a, .bool b => a = b
 | .int k a, .int k' b => match kEq k k' with
   | true => a = b
   | false => False
 | .flt k a, .flt k' b => match fkEq k k' with
   | true => a = b
   | false => False
 | .str a, .str b => a = b
 | .ptr n o, .ptr n' o' => match Nat.beq n n' with
   | true => o = o'
   | false => False
 | .nilp, .nilp => True
 | .slc n o l c, .slc n' o' l' c' => match Nat.beq n n' with
   | true => o = o' ∧ l = l' ∧ c = c'
   | false => False
 | .nils, .nils => True
 | .slcc n l, .slcc n' l' => match Nat.beq n n' with
   | true => l = l'
   | false => False
 | .agg a, .agg b => eqvL a b
 | .tup a, .tup b => eqvL a b
 | .ifc t v, .ifc t' v' => match Nat.beq t t' with
   | true => eqv v v'
   | false => False
 | .nili, .nili => True
 | .fn f a c, .fn f' a' c' => f = f' ∧ eqvL a a' ∧ eqvL c c'
 | .nilf, .nilf => True
 | _, _ => False
def eqvL : List SV → List SV → Prop
 | [], [] => True
 | x :: xs, y :: ys => eqv x y ∧ eqvL xs ys
 | _, _ => False
end
mutual
theorem eqv_den (ρ : Rho) : ∀ (x y : SV), eqv x y → x.den ρ = y.den ρ
 | .slcc n l, y, h => by
   cases y <;> simp only [eqv] at h
   split at h
   · rename_i ht; have := Nat.eq_of_beq_eq_true ht; subst this; simp [SV.den, h]
   · exact h.elim
 | .agg a, y, h => by cases y <;> simp only [eqv] at h; simp [SV.den, eqvL_den ρ a _ h]
 | .tup a, y, h => by cases y <;> simp only [eqv] at h; simp [SV.den, eqvL_den ρ a _ h]
 | .ifc t v, y, h => by
   cases y <;> simp only [eqv] at h
   split at h
   · rename_i ht; have := Nat.eq_of_beq_eq_true ht; subst this; simp [SV.den, eqv_den ρ v _ h]
   · exact h.elim
 | .fn f a c, y, h => by
   cases y <;> simp only [eqv] at h
   obtain ⟨rfl, h1, h2⟩ := h
   simp [SV.den, eqvL_den ρ a _ h1, eqvL_den ρ c _ h2]
 | .int k a, y, h => by
   cases y <;> simp only [eqv] at h
   split at h
   · rename_i ht; have := kEq_eq ht; subst this; simp [SV.den, h]
   · exact h.elim
 | .flt k a, y, h => by
   cases y <;> simp only [eqv] at h
   split at h
   · rename_i ht; have := fkEq_eq ht; subst this; simp [SV.den, h]
   · exact h.elim
 | .ptr n o, y, h => by
   cases y <;> simp only [eqv] at h
   split at h
   · rename_i ht; have := Nat.eq_of_beq_eq_true ht; subst this; simp [SV.den, h]
   · exact h.elim
 | .slc n o l c, y, h => by
   cases y <;> simp only [eqv] at h
   split at h
   · rename_i ht; have := Nat.eq_of_beq_eq_true ht; subst this; simp [SV.den, h]
   · exact h.elim
 | .tt, y, h | .ff, y, h | .bool _, y, h | .str _, y, h | .nilp, y, h | .nils, y, h | .nili, y, h | .nilf, y, h | .sla _ _ _, y, h => by
   cases y <;> simp_all [eqv, SV.den]
theorem eqvL_den (ρ : Rho) : ∀ (x y : List SV), eqvL x y → denL ρ x = denL ρ y
 | [], y, h => by cases y <;> simp_all [eqvL]
 | x :: r, y, h => by
   cases y with
   | nil => simp [eqvL] at h
   | cons u s => simp only [eqvL] at h; simp [denL, eqv_den ρ x u h.1, eqvL_den ρ r s h.2]
end
def initSl : Nat → List SV → Slots
 | _, [] => []
 | i, v :: r => (i, v) :: initSl (i + 1) r
theorem slot_initSl : ∀ (l : List SV) (i t : Nat), slot (initSl i l) t = if i ≤ t then l[t - i]? else none
 | [], i, t => by simp [initSl, slot]
 | v :: r, i, t => by
   simp only [initSl, slot_cons, slot_initSl r (i + 1) t]
   by_cases h : i = t
   · subst h; simp
   · rw [if_neg h]
     by_cases h2 : i ≤ t
     · rw [if_pos h2, if_pos (by omega)]
       rw [show t - i = (t - (i + 1)) + 1 by omega]
       simp
     · rw [if_neg h2, if_neg (by omega)]
def init (nt : Nat) (args : List SV) (H : Heap) (N : Nat) : St := { nt := nt, sl := initSl 0 args, H := H, N := N }
theorem sat_init {W0 : World} {Fr : Nat → Prop} {nt N : Nat} {args : List SV} {H : Heap} {ρ : Rho} {w : World} (hH : HSat W0 Fr (· < N) H ρ w) (hb : bdL (· < N) args) (hl : args.length ≤ nt) :
   Sat W0 Fr (init nt args H N) ρ { tmps := (denL ρ args).toArray ++ Array.replicate (nt - (denL ρ args).toArray.size) undef, defers := [] } w where
 h := hH
 s := {
   nd := rfl
   size := by simp [denL_eq, init]; omega
   bd := fun t v hv => by
     simp only [init, slot_initSl, Nat.zero_le, if_true, Nat.sub_zero] at hv
     exact (bdL_iff _ _).1 hb v (List.mem_of_getElem? hv)
   val := fun t v hv => by
     simp only [init, slot_initSl, Nat.zero_le, if_true, Nat.sub_zero] at hv
     obtain ⟨h1, h2⟩ := List.getElem?_eq_some_iff.1 hv
     simp [denL_eq, Array.getElem?_append, h1, h2] }
def retK (T : Tys) (rs : List ResultVar) (K : St → SV → Prop) (S : St) : Prop :=
 match resL T S rs with
 | some (vs, p) => okK p (K S (resS vs))
 | none => False
def endK (T : Tys) (rs : List ResultVar) (K : St → SV → Prop) (e : Xt) (S : St) : Prop :=
 match e with
 | .exit _ => False
 | _ => retK T rs K S
theorem pure_of_run {P : Program} {G : Ctx} (hG : CtxOk P G) {f : Nat} {fn : Func} {c : Code} (hf : P.funcs[f]? = some fn) (hb : fn.body = some c) (hnm : (fn.name == "runtime.NumGoroutine") = false) {F : PF}
   (h : ∀ args v p, F args = some (v, p) → okP p → v.closed = true ∧ closedL args = true ∧ Nat.ble args.length fn.ntmps = true ∧
     runC G 0 c (init fn.ntmps args [] 0) (endK G.E.T fn.results.toList fun _ v' => eqv v' v)) : PureOk P f F := by
 intro args v p hF hp
 obtain ⟨h1, h2, h3, h4⟩ := h args v p hF hp
 refine ⟨h1, fun ρ w => .inl ⟨⟨fn, hf, hnm, by rw [hb]; rfl⟩, ?_⟩⟩
 refine calls_of_wp hf hb ?_
 have hH : HSat w (· < w.heap.size) (· < 0) [] ρ w :=
   { os := rfl, tape := rfl, output := rfl, size := Nat.le_refl _, frlt := fun _ h => h, frame := fun _ _ => rfl
     used := fun n o hn => by simp [look] at hn
     bd := fun n o hn => by simp [look] at hn
     obj := fun n o hn => by simp [look] at hn
     inj := fun n m o o' p q hn => by simp [look] at hn
     free := fun n o p hn => by simp [look] at hn
     rawd := fun n o ts D sz F hn => by simp [look] at hn }
 refine runC_sound hG (ρ0 := ρ) c h4 (sat_init hH (bdL_closed _ _ h2) (Nat.le_of_ble_eq_true h3)) (Nat.zero_le _) (fun _ _ => rfl) ?_
 intro e S' ρ' a' w' hK hS hN hρ
 have fin : retK G.E.T fn.results.toList (fun _ v' => eqv v' v) S' → a'.defers = [] ∧ ∃ u, (results fn a'.tmps).run P w' = .ok u w' ∧ (Ending.returned u = .returned (v.den ρ) ∧ Below w.heap.size w w') := by
   intro hr
   unfold retK at hr
   split at hr
   · rename_i vs q hvs
     obtain ⟨hq, he⟩ := okK_iff hr
     obtain ⟨h5, h6⟩ := resS_sound hG.E.T hS hvs hq
     refine ⟨hS.s.nd, _, h5, ?_, ⟨hS.h.os, hS.h.tape, hS.h.output, hS.h.size, fun k hk => hS.h.frame k hk⟩⟩
     rw [eqv_den ρ' _ _ he, SV.den_closed ρ ρ' h1]
   · exact hr.elim
 cases e with
 | normal => exact fin hK
 | ret => exact fin hK
 | exit id => exact hK.elim
end Go.Sx

namespace Go.Sx
open Go.RowKit
def Wp(P:Program)(N0:Nat)(c:Code)(S:St)(K:Xt->St->Prop):Prop :=
 ∀(W0:World)(Fr:Nat->Prop)(ρ0 ρ:Rho)(a:Act)(w:World)(Q:Exit->Act->World->Prop),Sat W0 Fr S ρ a w->N0<=S.N->(∀ n,n<N0->ρ n=ρ0 n)->AfterX W0 Fr N0 ρ0 K Q->c.wp P Q a w
section
variable {P:Program} {G:Ctx} {N0:Nat} {S:St} {K:Xt->St->Prop}
theorem Wp.run(hG:CtxOk P G){c:Code}(h:runC G N0 c S K):Wp P N0 c S K :=
 λ_ _ _ _ _ _ _ hS hN hρ hK=>runC_sound hG c h hS hN hρ hK
theorem Wp.mono{c:Code}{K':Xt->St->Prop}(h:Wp P N0 c S K)(hk:∀ e S',K e S'->K' e S'):Wp P N0 c S K' :=
 λW0 Fr ρ0 ρ a w Q hS hN hρ hK=>h W0 Fr ρ0 ρ a w Q hS hN hρ λe S' ρ' a' w' h'=>hK e S' ρ' a' w' (hk e S' h')
theorem Wp.seq{x y:Code}{K1:Xt->St->Prop}(h:Wp P N0 x S K1)(hn:∀ S',K1 .normal S'->Wp P N0 y S' K)(hx:∀ id S',K1 (.exit id) S'->K (.exit id) S')(hr:∀ S',K1 .ret S'->K .ret S'):Wp P N0 (.seq x y) S K:=by
 intro W0 Fr ρ0 ρ a w Q hS hN hρ hK;refine wp_seq (h W0 Fr ρ0 ρ a w _ hS hN hρ λe S' ρ' a' w' h' hS' hN' hρ'=>?_)
 cases e with
 | normal=>exact hn S' h' W0 Fr ρ0 ρ' a' w' Q hS' hN' hρ' hK
 | exit id=>exact hK (.exit id) S' ρ' a' w' (hx id S' h') hS' hN' hρ'
 | ret=>exact hK .ret S' ρ' a' w' (hr S' h') hS' hN' hρ'
theorem Wp.block{id:Nat}{x:Code}(h:Wp P N0 x S (λe S'=>match e with
  | .exit j=>match Nat.beq j id with
   | true=>K .normal S'
   | false=>K (.exit j) S'
  | e=>K e S')):Wp P N0 (.block id x) S K:=by
 intro W0 Fr ρ0 ρ a w Q hS hN hρ hK;refine wp_block (h W0 Fr ρ0 ρ a w _ hS hN hρ λe S' ρ' a' w' h' hS' hN' hρ'=>?_)
 cases e with
 | normal=>exact hK .normal S' ρ' a' w' h' hS' hN' hρ'
 | ret=>exact hK .ret S' ρ' a' w' h' hS' hN' hρ'
 | exit j =>
  simp only at h';simp only[Exit.inBlock];split at h'
  ·rename_i hj;rw[if_pos (Nat.eq_of_beq_eq_true hj)];exact hK .normal S' ρ' a' w' h' hS' hN' hρ'
  ·rename_i hj;rw[if_neg (λe=>by subst e;simp at hj)];exact hK (.exit j) S' ρ' a' w' h' hS' hN' hρ'
theorem Wp.loop{x:Code}{ι:Type}(I:ι->St)(μ:ι->Nat)(i0:ι)(h0:Refines N0 S (I i0))
  (hr:∀ i,Wp P N0 x (I i) (λe S'=>match e with
   | .normal=>∃ i',μ i'<μ i/\Refines N0 S' (I i')
   | e=>K e S')):Wp P N0 (.loop x) S K:=by
 intro W0 Fr ρ0 ρ a w Q hS hN hρ hK
 have start:∀ {S1:St} {i:ι},Refines N0 S1 (I i)->∀ {ρ1 a1 w1},Sat W0 Fr S1 ρ1 a1 w1->(∀ n,n<N0->ρ1 n=ρ0 n)->
   ∃ ρ',Sat W0 Fr (I i) ρ' a1 w1/\N0<=(I i).N/\∀ n,n<N0->ρ' n=ρ0 n:=by
  intro S1 i hR ρ1 a1 w1 hS1 hρ1;obtain⟨ρ',h1,h2⟩:=hR.2 W0 Fr ρ1 a1 w1 hS1;exact⟨ρ',h1,hR.1,λn hn=>(h2 n hn).trans (hρ1 n hn)⟩
 refine wp_loop_ghost (λi a w=>∃ ρ',Sat W0 Fr (I i) ρ' a w/\N0<=(I i).N/\∀ n,n<N0->ρ' n=ρ0 n) μ ?_ (start h0 hS hρ);rintro i a1 w1 ⟨ρ1,hS1,hN1,hρ1⟩;refine hr i W0 Fr ρ0 ρ1 a1 w1 _ hS1 hN1 hρ1 λe S' ρ' a' w' h' hS' hN' hρ'=>?_
 cases e with
 | normal =>
  obtain⟨i',hlt,hR⟩:=h';exact⟨i',start hR hS' hρ',hlt⟩
 | exit id=>exact hK (.exit id) S' ρ' a' w' h' hS' hN' hρ'
 | ret=>exact hK .ret S' ρ' a' w' h' hS' hN' hρ'
def keyIn(t:Nat):Slots->Bool
 | []=>false
 | (m,_) :: r=>Nat.beq m t||keyIn t r
def keysApart:Slots->Slots->Bool
 | [],_=>true
 | (t,_) :: r,s => !keyIn t s&&keysApart r s
def nmIn(t:Nat):Heap->Bool
 | []=>false
 | (m,_) :: r=>Nat.beq m t||nmIn t r
def nmsApart:Heap->Heap->Bool
 | [],_=>true
 | (t,_) :: r,s => !nmIn t s&&nmsApart r s
structure Keep (S S':St):Prop where
 nt:S'.nt=S.nt
 sl:S'.sl.drop (S'.sl.length-S.sl.length)=S.sl
 ks:keysApart (S'.sl.take (S'.sl.length-S.sl.length)) S.sl=true
 hp:S'.H.drop (S'.H.length-S.H.length)=S.H
 kh:nmsApart (S'.H.take (S'.H.length-S.H.length)) S.H=true
theorem slot_none{t:Nat}:∀ {s:Slots},keyIn t s=false->slot s t=none
 | [],_=>rfl
 | (m,v) :: r,h=>by
  simp only[keyIn,Bool.or_eq_false_iff]at h;rw[slot_cons,if_neg (λe=>by subst e;simp at h),slot_none h.2]
theorem keys_skip{s:Slots}:∀ {p:Slots},keysApart p s=true->∀ t v,slot s t=some v->slot (p++s) t=some v
 | [],_,_,_,h=>h
 | (m,u) :: r,h,t,v,hv=>by
  simp only[keysApart,Bool.and_eq_true,Bool.not_eq_true']at h;have hm:m≠t:=λe=>by subst e;rw[slot_none h.1]at hv;cases hv
  rw[List.cons_append,slot_cons,if_neg hm];exact keys_skip h.2 t v hv
theorem look_none{t:Nat}:∀ {s:Heap},nmIn t s=false->look s t=none
 | [],_=>rfl
 | (m,v) :: r,h=>by
  simp only[nmIn,Bool.or_eq_false_iff]at h;rw[look_cons,if_neg (λe=>by subst e;simp at h),look_none h.2]
theorem nms_skip{s:Heap}:∀ {p:Heap},nmsApart p s=true->∀ t v,look s t=some v->look (p++s) t=some v
 | [],_,_,_,h=>h
 | (m,u) :: r,h,t,v,hv=>by
  simp only[nmsApart,Bool.and_eq_true,Bool.not_eq_true']at h;have hm:m≠t:=λe=>by subst e;rw[look_none h.1]at hv;cases hv
  rw[List.cons_append,look_cons,if_neg hm];exact nms_skip h.2 t v hv
theorem Keep.slot{S':St}(h:Keep S S'){t:Nat}{v:SV}(hv:slot S.sl t=some v):Sx.slot S'.sl t=some v:=by
 have:=keys_skip h.ks t v hv;rw[<-List.take_append_drop (S'.sl.length-S.sl.length) S'.sl,h.sl];exact this
theorem Keep.look{S':St}(h:Keep S S'){n:Nm}{o:Ob}(hv:Sx.look S.H n=some o):Sx.look S'.H n=some o:=by
 have:=nms_skip h.kh n o hv;rw[<-List.take_append_drop (S'.H.length-S.H.length) S'.H,h.hp];exact this
theorem Wp.keep{x y:Code}(Φ:Prop)(h:Wp P S.N x S (λe S'=>match e with
   | .normal=>Φ/\Keep S S'
   | e=>K e S'))
  (hy:Φ->Wp P N0 y S K):Wp P N0 (.seq x y) S K:=by
 intro W0 Fr ρ0 ρ a w Q hS hN hρ hK;refine wp_seq (h W0 Fr ρ ρ a w _ hS (Nat.le_refl _) (λ_ _=>rfl) λe S' ρ' a' w' h' hS' hN' hρ'=>?_);have hρ0:∀ n,n<N0->ρ' n=ρ0 n:=λn hn=>(hρ' n (Nat.lt_of_lt_of_le hn hN)).trans (hρ n hn)
 cases e with
 | normal =>
  obtain⟨hΦ,hk⟩:=h';refine hy hΦ W0 Fr ρ0 ρ' a' w' Q ⟨?_,?_⟩ hN hρ0 hK
  ·exact {
    os:=hS'.h.os,tape:=hS'.h.tape,output:=hS'.h.output,size:=hS'.h.size,frlt:=hS'.h.frlt,frame:=hS'.h.frame
    used:=hS.h.used
    bd:=hS.h.bd
    obj:=λn o hn=>hS'.h.obj n o (hk.look hn)
    inj:=λn m o o' p q hn hm=>hS'.h.inj n m o o' p q (hk.look hn) (hk.look hm)
    free:=λn o p hn=>hS'.h.free n o p (hk.look hn)
    rawd:=λn o ts D sz F hn hr hc =>
     have k:=hS'.h.rawd n o ts D sz F (hk.look hn) hr hc
     ⟨k.sat,k.free,λm o' q hm=>k.sep m o' q (hk.look hm),λm o' ts' D' sz' F' hm=>k.sepr m o' ts' D' sz' F' (hk.look hm)⟩}
  ·exact {
    nd:=hS'.s.nd
    size:=by rw[hS'.s.size,hk.nt]
    bd:=hS.s.bd
    val:=λt v hv=>hS'.s.val t v (hk.slot hv)}
 | exit id=>exact hK (.exit id) S' ρ' a' w' h' hS' (Nat.le_trans hN hN') hρ0
 | ret=>exact hK .ret S' ρ' a' w' h' hS' (Nat.le_trans hN hN') hρ0
end
theorem pure_of_wp {P:Program} {G:Ctx} (hG:CtxOk P G) {f:Nat} {fn:Func} {c:Code} (hf:P.funcs[f]? = some fn) (hb:fn.body=some c) (hnm:(fn.name == "runtime.NumGoroutine")=false) {F:PF}
  (h:∀ args v p,F args=some (v,p)->okP p->v.closed=true/\closedL args=true/\Nat.ble args.length fn.ntmps=true/\
   Wp P 0 c (init fn.ntmps args [] 0) (endK G.E.T fn.results.toList λ_ v'=>eqv v' v)):PureOk P f F:=by
 intro args v p hF hp;obtain⟨h1,h2,h3,h4⟩:=h args v p hF hp;refine⟨h1,λρ w=>.inl ⟨⟨fn,hf,hnm,by rw[hb];rfl⟩,?_⟩⟩;refine calls_of_wp hf hb ?_
 have hH:HSat w (·< w.heap.size) (·< 0) [] ρ w :=
  {os:=rfl,tape:=rfl,output:=rfl,size:=Nat.le_refl _,frlt:=λ_ h=>h,frame:=λ_ _=>rfl
   used:=λn o hn=>by simp[look]at hn
   bd:=λn o hn=>by simp[look]at hn
   obj:=λn o hn=>by simp[look]at hn
   inj:=λn m o o' p q hn=>by simp[look]at hn
   free:=λn o p hn=>by simp[look]at hn
   rawd:=λn o ts D sz F hn=>by simp[look]at hn}
 refine h4 w (·< w.heap.size) ρ ρ _ w _ (sat_init hH (bdL_closed _ _ h2) (Nat.le_of_ble_eq_true h3)) (Nat.zero_le _) (λ_ _=>rfl) ?_;intro e S' ρ' a' w' hK hS hN hρ
 have fin:retK G.E.T fn.results.toList (λ_ v'=>eqv v' v) S'->a'.defers=[]/\∃ u,(results fn a'.tmps).run P w'=.ok u w'/\(Ending.returned u=.returned (v.den ρ)/\Below w.heap.size w w'):=by
  intro hr;unfold retK at hr;split at hr
  ·rename_i vs q hvs;obtain⟨hq,he⟩:=okK_iff hr;obtain⟨h5,h6⟩:=resS_sound hG.E.T hS hvs hq;refine⟨hS.s.nd,_,h5,?_,⟨hS.h.os,hS.h.tape,hS.h.output,hS.h.size,λk hk=>hS.h.frame k hk⟩⟩;rw[eqv_den ρ' _ _ he,SV.den_closed ρ ρ' h1]
  ·exact hr.elim
 cases e with
 | normal=>exact fin hK
 | ret=>exact fin hK
 | exit id=>exact hK.elim
theorem pure_of_extern {P:Program} {f:Nat} {fn:Func} {e:Array Value->Sem Value} (hf:P.funcs[f]? = some fn) (hb:fn.body.isNone=true) (hnm:(fn.name == "runtime.NumGoroutine")=false) (h1:Extern.findNext fn=none) (h2:Extern.find fn=some e) {F:PF}
  (h:∀ args v p,F args=some (v,p)->okP p->v.closed=true/\∀ (ρ:Rho) (w:World),(e (denL ρ args).toArray).run P w=.ok (v.den ρ) w):PureOk P f F:=by
 intro args v p hF hp;obtain⟨h3,h4⟩:=h args v p hF hp;refine⟨h3,λρ w=>.inr ⟨v.den ρ,w,?_,rfl,Below.refl _ _⟩⟩;simp only[callFunc,Sem.run_bind,run_program,Result.andThen_ok,hf,hnm,hb,Bool.false_eq_true,if_false,if_true,run_mark,h1,h2,h4,Sem.run_pure]
end Go.Sx

namespace Go.Sx
open Go.RowKit
def stepKX(X:RCtx)(o:Oper)(S:St)(K:St->Prop):Prop :=
 match dstOk S o.dst with
 | true=>match ropOf X o.op with
  | some R=>∀ i,match R.ev i (opr S.sl) (look S.H) S.N with
   | some (e,p)=>okK e.obl (p->K (S.app o.dst e))
   | none=>False
  | none=>match fquo S o.op with
   | some (k,a,b)=>∀ r,QuoRel k a b r->K (S.app o.dst (Eff.pure (.flt k r)))
   | none=>match evX X (opr S.sl) (look S.H) S.N o.op with
    | some e=>okK e.obl (K (S.app o.dst e))
    | none=>False
 | false=>False
def operKX(X:RCtx)(ops:List Oper)(o:Oper)(S:St)(K:St->Prop):Prop :=
 match o.guard with
 | none=>stepKX X o S K
 | some (j,want)=>match gdst ops j with
  | none=>False
  | some d=>match slot S.sl d with
   | some .tt=>match want with
    | true=>stepKX X o S K
    | false=>skipK o S K
   | some .ff=>match want with
    | true=>skipK o S K
    | false=>stepKX X o S K
   | some (.tup [])=>skipK o S K
   | some (.bool b) =>
    (b=true->match want with
     | true=>stepKX X o (setSl S d .tt) K
     | false=>skipK o (setSl S d .tt) K)/\
    (b=false->match want with
     | true=>skipK o (setSl S d .ff) K
     | false=>stepKX X o (setSl S d .ff) K)
   | _=>False
def runOpsX(X:RCtx)(ops:List Oper):List Oper->St->(St->Prop)->Prop
 | [],S,K=>K S
 | o :: r,S,K=>operKX X ops o S (λS'=>runOpsX X ops r S' K)
section
variable {P:Program} {W0:World} {Fr:Nat->Prop} {X:RCtx} {S:St} {ρ:Rho} {a:Act} {w:World}
theorem app_after{N0:Nat}{ρ0:Rho}{o:Oper}{K:St->Prop}{e:Eff}(hd:dstOk S o.dst=true)(hS:Sat W0 Fr S ρ a w)(hN:N0<=S.N)(hρ:∀ n,n<N0->ρ n=ρ0 n){next:Act->World->Prop}(hK:After W0 Fr N0 ρ0 K next)
  (h2:K (S.app o.dst e)) {ρ':Rho} {w':World} (hr:∀ n,n<S.N->ρ' n=ρ n) (hH:HSat W0 Fr (UU (·< S.N) S.N) (e.wr++(e.news++S.H)) ρ' w') :
  match e.val with
  | some v=>v.bd (UU (·< S.N) S.N)->next (a.put o.dst (v.den ρ')) w'
  | none=>next (a.put o.dst undef) w':=by
 have hU:∀ n,UU (·< S.N) S.N n->n<S.N+12:=by
  intro n hn;rcases hn with hn|hn
  ·exact Nat.lt_of_lt_of_le hn (Nat.le_add_right _ _)
  ·exact hn.2
 have hH':=hH.mono (U':=(·< S.N+12)) hU;have hs':=hS.s.mono (U':=(·< S.N+12)) (λn hn=>Nat.lt_of_lt_of_le hn (Nat.le_add_right _ _)) hr;have hρ':∀ n,n<N0->ρ' n=ρ0 n:=λn hn=>(hr n (Nat.lt_of_lt_of_le hn hN)).trans (hρ n hn)
 have hN':N0<=S.N+12:=Nat.le_trans hN (Nat.le_add_right _ _);split
 ·rename_i v hv;intro hb;refine hK (S.app o.dst e) ρ' _ _ h2 ⟨hH',?_⟩ hN' hρ'
  cases hdst:o.dst with
  | none=>simpa [St.app,Act.put]using hs'
  | some d =>
   have hd':d<S.nt:=by rw[hdst]at hd;simpa [dstOk]using hd
   simp only[St.app,hv];exact hs'.put hd' (SV.bd_mono hU v hb)
 ·rename_i hv;refine hK (S.app o.dst e) ρ' _ _ h2 ⟨hH',?_⟩ hN' hρ'
  cases hdst:o.dst with
  | none=>simpa [St.app,Act.put]using hs'
  | some d =>
   have hd':d<S.nt:=by rw[hdst]at hd;simpa [dstOk]using hd
   simp only[St.app,hv];exact hs'.put (v:=.tup []) hd' (by simp[SV.bd,bdL])
theorem stepKX_sound(hX:RCtxOk P X){N0:Nat}{ρ0:Rho}{o:Oper}{K:St->Prop}(h:stepKX X o S K)(hS:Sat W0 Fr S ρ a w)(hN:N0<=S.N)(hρ:∀ n,n<N0->ρ n=ρ0 n)
  {next:Act->World->Prop} {Q:Exit->Act->World->Prop} (hK:After W0 Fr N0 ρ0 K next):o.wp P a w next Q:=by
 unfold stepKX at h;split at h
 ·rename_i hd;split at h
  ·rename_i R hR
   have each:∀ i,∃ e p,R.ev i (opr S.sl) (look S.H) S.N=some (e,p)/\okP e.obl/\(p->K (S.app o.dst e)):=by
    intro i;have:=h i;split at this
    ·rename_i e p he;obtain⟨h1,h2⟩:=okK_iff this;exact⟨e,p,he,h1,h2⟩
    ·exact this.elim
   refine(ropOf_ok hX hR).sound (nm:=S.N) rfl hS.h (λj _=>by simp) (λx v hx=>opr_sat hS.s hx) (λi=>?_) λi e p ρ' w' h1 h2 hr hH=>?_
   ·obtain⟨e,p,h1,h2,_⟩:=each i;exact⟨e,p,h1,h2⟩
   ·obtain⟨e',p',h3,_,h4⟩:=each i;rw[h1]at h3;simp only[Option.some.injEq,Prod.mk.injEq]at h3;obtain⟨rfl,rfl⟩:=h3;exact app_after hd hS hN hρ hK (h4 h2) hr hH
  ·split at h
   ·rename_i k x y hq;exact stepK_sound hX.G (o:=o) (K:=K) (by unfold stepK;rw[hd,hq];exact h) hS hN hρ hK
   ·split at h
    ·rename_i e he;obtain⟨h1,h2⟩:=okK_iff h;exact evX_sound hX hS.h (λj _=>by simp) (λx v hx=>opr_sat hS.s hx) (λc v hc=>const_opr hc ρ) he h1 (λρ' w' hr hH=>app_after hd hS hN hρ hK h2 hr hH)
    ·exact h.elim
 ·exact h.elim
theorem operKX_sound(hX:RCtxOk P X){N0:Nat}{ρ0:Rho}{ops:List Oper}{o:Oper}{K:St->Prop}(h:operKX X ops o S K)(hS:Sat W0 Fr S ρ a w)(hN:N0<=S.N)(hρ:∀ n,n<N0->ρ n=ρ0 n)
  {next:Act->World->Prop} {Q:Exit->Act->World->Prop} (hK:After W0 Fr N0 ρ0 K next):turn P ops.toArray o a w next Q:=by
 unfold operKX at h;unfold turn;split at h
 ·rename_i hg;rw[if_pos (by simp[Region.wanted,hg])];exact .inl (stepKX_sound hX h hS hN hρ hK)
 ·rename_i j want hg;split at h
  ·exact h.elim
  ·rename_i d hd
   have hdst:(ops.toArray[j]?).bind (·.dst)=some d:=by
    unfold gdst at hd;rw[nth_eq]at hd;split at hd
    ·rename_i o' ho';simp[ho',hd]
    ·cases hd
   have wantedIs:∀(v:Value),a.tmps[d]? = some v->Region.wanted o (yielded ops.toArray a.tmps)=((match v with | .bool b=>some b|_=>none)==some want):=by
    intro v hv;simp only[Region.wanted,hg,yielded,hdst,Option.bind_some,hv];cases v <;> rfl
   split at h
   ·rename_i hv;have hw:=wantedIs _ (hS.s.val _ _ hv);simp only[SV.den]at hw;split at h
    ·rw[hw];exact .inl (stepKX_sound hX h hS hN hρ hK)
    ·rw[hw];exact skipK_sound h hS hN hρ hK
   ·rename_i hv;have hw:=wantedIs _ (hS.s.val _ _ hv);simp only[SV.den]at hw;split at h
    ·rw[hw];exact skipK_sound h hS hN hρ hK
    ·rw[hw];exact .inl (stepKX_sound hX h hS hN hρ hK)
   ·rename_i hv;have hw:=wantedIs _ (hS.s.val _ _ hv);simp only[SV.den]at hw;rw[hw];exact skipK_sound h hS hN hρ hK
   ·rename_i b hv;have hw:=wantedIs _ (hS.s.val _ _ hv);simp only[SV.den]at hw;rw[hw];cases b
    ·have h2:=h.2 rfl;have hS':Sat W0 Fr (setSl S d .ff) ρ a w:=hS.set hv rfl trivial;split at h2
     ·exact skipK_sound h2 hS' hN hρ hK
     ·exact .inl (stepKX_sound hX h2 hS' hN hρ hK)
    ·have h1:=h.1 rfl;have hS':Sat W0 Fr (setSl S d .tt) ρ a w:=hS.set hv rfl trivial;split at h1
     ·exact .inl (stepKX_sound hX h1 hS' hN hρ hK)
     ·exact skipK_sound h1 hS' hN hρ hK
   ·exact h.elim
theorem runOpsX_sound(hX:RCtxOk P X){N0:Nat}{ρ0:Rho}{ops:List Oper}{Q:Exit->Act->World->Prop}:∀(l:List Oper)(k:Nat) {S:St} {ρ:Rho} {a:Act} {w:World} {K:St->Prop},(∀ j,l[j]? = ops[k+j]?)->
  runOpsX X ops l S K->Sat W0 Fr S ρ a w->N0<=S.N->(∀ n,n<N0->ρ n=ρ0 n)->After W0 Fr N0 ρ0 K (Q .normal)->wpOps P ops.toArray Q (List.range' k l.length) a w
 | [],k,S,ρ,a,w,K,_,h,hS,hN,hρ,hK=>hK S ρ a w h hS hN hρ
 | o :: r,k,S,ρ,a,w,K,hl,h,hS,hN,hρ,hK=>by
  have ho:ops[k]? = some o:=by simpa using (hl 0).symm
  simp only[List.length_cons,List.range'_succ];unfold wpOps;simp only[List.getElem?_toArray,ho];refine operKX_sound hX h hS hN hρ λS' ρ' a' w' h' hS' hN' hρ'=>?_
  refine runOpsX_sound hX r (k+1) (λj=>?_) h' hS' hN' hρ' hK;have:=hl (j+1);simp only[List.getElem?_cons_succ]at this;rw[this];congr 1;omega
end
inductive DRX where
 | done (s:AS) (log:List Ent) (p:Option Prop)
 | need (j:Nat) (b:Bool)
 | fail
def flagX(ops:List Oper)(o:Oper)(s:AS):DRX :=
 match o.guard with
 | some (j,_)=>match gdst ops j with
  | some d=>match slot s.1 d with
   | some (.bool b)=>.need j b
   | _=>.fail
  | none=>.fail
 | none=>.fail
def isNoneB{α:Type}:Option α->Bool
 | none=>true
 | some _=>false
def dstLt(nt:Nat):Option Nat->Bool
 | none=>true
 | some d=>Nat.blt d nt
def runDX(X:RCtx)(nt N:Nat)(ops:List Oper)(dec:List (Nat×Bool))(r:Nat)(g:ChF):List Oper->Nat->AS->DRX
 | [],_,s=>.done s [] none
 | o :: l,i,s=>match Nat.beq i r with
  | true=>match dstLt nt o.dst&&isNoneB o.guard with
   | true=>match g (opr s.1) (look s.2) (N+12*i)with
    | some (e,p)=>match runDX X nt N ops dec r g l (i+1) (app1 o e s)with
     | .done s' log _=>.done s' ((i,o,e) :: log) (some p)
     | x=>x
    | none=>.fail
   | false=>.fail
  | false=>match step1X X nt N ops dec i o s with
   | some e=>match runDX X nt N ops dec r g l (i+1) (app1 o e s)with
    | .done s' log p=>.done s' ((i,o,e) :: log) p
    | x=>x
   | none=>flagX ops o s
def impP(p:Option Prop)(q:Prop):Prop:=match p with
 | none=>q
 | some p=>p->q
def explN(X:RCtx)(ops:List Oper)(S:St)(K:St->Prop):Nat->List (Nat×Bool)->Prop
 | fuel,dec=>match runDX X S.nt S.N ops dec ops.length (λ_ _ _=>none) ops 0 (S.sl,S.H)with
  | .done s log _=>okAll log (chk ops log=true/\K {nt:=S.nt,sl:=s.1,H:=s.2,N:=S.N+12*ops.length})
  | .need j b=>match fuel with
   | 0=>False
   | f+1=>(b=true->explN X ops S K f ((j,true) :: dec))/\(b=false->explN X ops S K f ((j,false) :: dec))
  | .fail=>False
def explR(X:RCtx)(ops:List Oper)(S:St)(K:St->Prop)(r:Nat)(R:ROp):Prop :=
 ∀ i,match runDX X S.nt S.N ops [] r (R.ev i) ops 0 (S.sl,S.H)with
  | .done s log p=>okAll log (chk ops log=true/\impP p (K {nt:=S.nt,sl:=s.1,H:=s.2,N:=S.N+12*ops.length}))
  | _=>False
noncomputable def findR(X:RCtx):List Oper->Nat->Option (Nat×ROp)
 | [],_=>none
 | o :: l,i=>match ropOf X o.op with
  | some R=>some (i,R)
  | none=>findR X l (i+1)
def explX(X:RCtx)(ops:List Oper)(S:St)(K:St->Prop):Prop :=
 match findR X ops 0 with
 | none=>explN X ops S K 20 []
 | some (r,R)=>explR X ops S K r R
section
variable {P:Program} {W0:World} {Fr:Nat->Prop} {X:RCtx}
theorem findR_spec{r:Nat}{R:ROp}:∀ {l:List Oper} {i:Nat},findR X l i=some (r,R)->i<=r/\∃ o,l[r-i]? = some o/\ropOf X o.op=some R
 | [],i,h=>by simp[findR]at h
 | o :: l,i,h=>by
  unfold findR at h;split at h
  ·rename_i R' hR;simp only[Option.some.injEq,Prod.mk.injEq]at h;obtain⟨rfl,rfl⟩:=h;exact⟨Nat.le_refl _,o,by simp,hR⟩
  ·obtain⟨h1,o',h2,h3⟩:=findR_spec h;refine⟨by omega,o',?_,h3⟩;rw[show r-i=(r-(i+1))+1 by omega];simpa using h2
theorem runDX_spec{nt N:Nat}{ops:List Oper}{dec:List (Nat×Bool)}{r:Nat}{g:ChF}:∀(l:List Oper)(k:Nat)(s s':AS)(log:List Ent)(p:Option Prop),(∀ j,l[j]? = ops[k+j]?)->runDX X nt N ops dec r g l k s=.done s' log p->
  (∀ asm,(∀ q,p=some q->q=asm)->RunsC X nt N ops dec r g asm log s)/\fin log s=s'/\(∀ x∈log,ops[x.1]? = some x.2.1)/\log.map (·.1)=List.range' k l.length/\(k<=r->r<k+l.length->∃ q,p=some q)
 | [],k,s,s',log,p,_,h=>by
  simp only[runDX,DRX.done.injEq]at h;obtain⟨rfl,rfl,rfl⟩:=h;exact⟨λ_ _=>trivial,rfl,by simp,rfl,λh1 h2=>by simp at h2;omega⟩
 | o :: l,k,s,s',log,p,hl,h=>by
  have ho:ops[k]? = some o:=by simpa using (hl 0).symm
  have hl':∀ j,l[j]? = ops[k+1+j]? := λj=>by
   have:=hl (j+1);simp only[List.getElem?_cons_succ]at this;rw[this];congr 1;omega
  simp only[runDX]at h;split at h
  ·rename_i hk;have hk:=Nat.eq_of_beq_eq_true hk;split at h
   ·rename_i hok;simp only[Bool.and_eq_true]at hok;split at h
    ·rename_i e q hq;split at h
     ·rename_i s1 log1 p1 h1;simp only[DRX.done.injEq]at h;obtain⟨rfl,rfl,rfl⟩:=h;obtain⟨h2,h3,h4,h5,h6⟩:=runDX_spec l (k+1) _ _ _ _ hl' h1
      have hp1:∀(l:List Oper)(k':Nat)(s:AS)(s1:AS)(log1:List Ent)(p1:Option Prop),r<k'->runDX X nt N ops dec r g l k' s=.done s1 log1 p1->p1=none:=by
       intro l
       induction l with
       | nil=>intro k' s s1 log1 p1 _ h;simp only[runDX,DRX.done.injEq]at h;exact h.2.2.symm
       | cons o l ih =>
        intro k' s s1 log1 p1 hlt h;simp only[runDX]at h;split at h
        ·rename_i hb;have:=Nat.eq_of_beq_eq_true hb;omega
        ·split at h
         ·split at h
          ·rename_i h9;simp only[DRX.done.injEq]at h;obtain⟨_,_,rfl⟩:=h;exact ih (k'+1) _ _ _ _ (by omega) h9
          ·rename_i hno;exact absurd h (hno _ _ _)
         ·unfold flagX at h;split at h
          ·split at h
           ·split at h <;> cases h
           ·cases h
          ·cases h
      have hpn:=hp1 l (k+1) _ _ _ _ (by omega) h1;subst hpn;refine⟨λasm ha=>⟨.inl ⟨hk,λd hd=>?_,?_,?_⟩,h2 asm (λq hq=>by cases hq)⟩,h3,λx hx=>?_,by simp[h5,List.range'_succ],λ_ _=>⟨q,rfl⟩⟩
      ·have:=hok.1;rw[hd]at this;simpa [dstLt]using this
      ·have:=hok.2
       cases hgd:o.guard with
       | none=>rfl
       | some x=>rw[hgd]at this;simp[isNoneB]at this
      ·rw[<-ha q rfl];exact hq
      ·rcases List.mem_cons.1 hx with rfl|hx
       ·exact ho
       ·exact h4 x hx
     ·rename_i hno;exact absurd h (hno _ _ _)
    ·cases h
   ·cases h
  ·rename_i hk;have hk:k≠r:=λe=>by subst e;simp at hk
   split at h
   ·rename_i e he;split at h
    ·rename_i s1 log1 p1 h1;simp only[DRX.done.injEq]at h;obtain⟨rfl,rfl,rfl⟩:=h;obtain⟨h2,h3,h4,h5,h6⟩:=runDX_spec l (k+1) _ _ _ _ hl' h1;refine⟨λasm ha=>⟨.inr ⟨hk,he⟩,h2 asm ha⟩,h3,λx hx=>?_,by simp[h5,List.range'_succ],λh7 h8=>h6 (by omega) (by simp at h8;omega)⟩;rcases List.mem_cons.1 hx with rfl|hx
     ·exact ho
     ·exact h4 x hx
    ·rename_i hno;exact absurd h (hno _ _ _)
   ·unfold flagX at h;split at h
    ·split at h
     ·split at h <;> cases h
     ·cases h
    ·cases h
theorem explC_sound(hX:RCtxOk P X)(hm:P.follows .mixedOrders=true){N0:Nat}{ρ0:Rho}{id:Nat}{ops:Array Oper}{S:St}{K:St->Prop}{Q:Exit->Act->World->Prop}{R:ROp}{r:Nat}{dec:List (Nat×Bool)}(hR:∀ o,ops.toList[r]? = some o->ROpOk P R o.op)
  (h:∀ i,∃ s log p,runDX X S.nt S.N ops.toList dec r (R.ev i) ops.toList 0 (S.sl,S.H)=.done s log p/\okAll log (chk ops.toList log=true/\impP p (K {nt:=S.nt,sl:=s.1,H:=s.2,N:=S.N+12*ops.toList.length})))
  {ρ:Rho} {a:Act} {w:World} (hS:Sat W0 Fr S ρ a w) (hN:N0<=S.N) (hρ:∀ n,n<N0->ρ n=ρ0 n) (hK:After W0 Fr N0 ρ0 K (Q .normal)):(Code.region id ops true).wp P Q a w:=by
 obtain⟨i0⟩:=R.ne
 let F:R.ι->AS:=λi=>Classical.choose (h i)
 let L:R.ι->List Ent:=λi=>Classical.choose (Classical.choose_spec (h i))
 let p:R.ι->Option Prop:=λi=>Classical.choose (Classical.choose_spec (Classical.choose_spec (h i)))
 have hc:∀ i,runDX X S.nt S.N ops.toList dec r (R.ev i) ops.toList 0 (S.sl,S.H)=.done (F i) (L i) (p i)/\okAll (L i) (chk ops.toList (L i)=true/\impP (p i) (K {nt:=S.nt,sl:=(F i).1,H:=(F i).2,N:=S.N+12*ops.toList.length})) :=
  λi=>Classical.choose_spec (Classical.choose_spec (Classical.choose_spec (h i)))
 let asm:R.ι->Prop:=λi=>match p i with
  | some q=>q
  | none=>True
 have hasm:∀ i q,p i=some q->q=asm i:=λi q hq=>by simp only[asm,hq]
 have sp:=λi=>runDX_spec ops.toList 0 _ _ _ _ (λj=>by simp) (hc i).1
 have ob:=λi=>okAll_iff (hc i).2
 have ck:∀ i,allBack ops.toList=true/\chkPairs ops.toList (befGo ops.toList []) (L i)=true:=λi=>by
  have:=(ob i).2.1;simpa only[chk,Bool.and_eq_true]using this
 refine wp_region_any hm ?_
 have:=any_orderC (nt:=S.nt) (N:=S.N) (dec:=dec) (W0:=W0) (Fr:=Fr) (ρ0:=ρ0) (Q:=Q) hX (ck i0).1 (R:=R) (r:=r) hR (asm:=asm) (F:=F) hN (λi hi ρ' a' w' hS' hρ'=>?_) ops.toList.length (List.range' 0 ops.toList.length) (λ_=>True) L (Array.replicate ops.size false) (S.sl,S.H) ρ a {w with drawn:=w.drawn+1}
  (by simp) (by simp) (λj hj=>?_) ⟨i0,trivial⟩ (λi _=>(sp i).2.2.2.1) (λi _=>(sp i).2.2.1) ?_ (λi _=>chkPairs_spec (ck i).2) (λi _=>oblAll_mem (ob i).1) ?_ ?_ (λi _=>(sp i).1 (asm i) (hasm i)) (λi _=>by rw[(sp i).2.1];exact Same.refl _) ?_ hρ
 ·simpa using this
 ·refine hK _ ρ' a' w' (show K {nt:=S.nt,sl:=(F i).1,H:=(F i).2,N:=S.N+12*ops.toList.length} from ?_) ⟨?_,?_⟩ ?_ hρ'
  ·have h1:=(ob i).2.2;unfold impP at h1;split at h1
   ·exact h1
   ·rename_i q hq;exact h1 (by rw[hasm i q hq];exact hi)
  ·exact hS'.h.mono λn hn=>hn.1
  ·exact hS'.s.mono (λn hn=>hn.1) (λ_ _=>rfl)
  ·exact Nat.le_trans hN (Nat.le_add_right _ _)
 ·have hj':j<ops.size:=by simpa using hj
  simp[hj']
 ·exact List.pairwise_lt_range'
 ·intro i o _ hl;rw[Array.getD_eq_getD_getElem?,Array.getElem?_replicate]at hl;split at hl <;> simp at hl
 ·by_cases hr:r<ops.toList.length
  ·exact .inl ⟨by simpa using hr,λ_=>trivial⟩
  ·refine .inr ⟨by simpa using hr,λi _=>?_⟩
   have hnone:∀(l:List Oper)(k:Nat)(s s1:AS)(log:List Ent)(q:Option Prop),k+l.length<=r->runDX X S.nt S.N ops.toList dec r (R.ev i) l k s=.done s1 log q->q=none:=by
    intro l
    induction l with
    | nil=>intro k s s1 log q _ h;simp only[runDX,DRX.done.injEq]at h;exact h.2.2.symm
    | cons o l ih =>
     intro k s s1 log q hlt h;simp only[List.length_cons]at hlt;simp only[runDX]at h;split at h
     ·rename_i hb;have:=Nat.eq_of_beq_eq_true hb;omega
     ·split at h
      ·split at h
       ·rename_i h9;simp only[DRX.done.injEq]at h;obtain⟨_,_,rfl⟩:=h;exact ih (k+1) _ _ _ _ (by omega) h9
       ·rename_i hno;exact absurd h (hno _ _ _)
      ·unfold flagX at h;split at h
       ·split at h
        ·split at h <;> cases h
        ·cases h
       ·cases h
   have:=hnone ops.toList 0 _ _ _ _ (by omega) (hc i).1;simp only[asm,this]
 ·have hU:∀ n,n<S.N->UI S.N ops.toList.length (List.range' 0 ops.toList.length) n:=λn hn=>⟨Nat.lt_of_lt_of_le hn (Nat.le_add_right _ _),λx _ hx=>absurd (Nat.lt_of_lt_of_le hn (Nat.le_trans (Nat.le_add_right _ _) hx.1)) (Nat.lt_irrefl _)⟩
  exact⟨(hS.h.mono hU).drew,hS.s.mono hU (λ_ _=>rfl)⟩
theorem explX_sound(hX:RCtxOk P X){N0:Nat}{ρ0:Rho}{id:Nat}{ops:Array Oper}{S:St}{K:St->Prop}{Q:Exit->Act->World->Prop}(h:explX X ops.toList S K)
  {ρ:Rho} {a:Act} {w:World} (hS:Sat W0 Fr S ρ a w) (hN:N0<=S.N) (hρ:∀ n,n<N0->ρ n=ρ0 n) (hK:After W0 Fr N0 ρ0 K (Q .normal)):(Code.region id ops true).wp P Q a w:=by
 unfold explX at h;split at h
 ·have key:∀(fuel:Nat)(dec:List (Nat×Bool)),explN X ops.toList S K fuel dec->(Code.region id ops true).wp P Q a w:=by
   intro fuel
   induction fuel with
   | zero =>
    intro dec h;unfold explN at h;split at h
    ·rename_i s log p hrun
     exact explC_sound hX hX.G.mix (R:=⟨Unit,⟨()⟩,λ_ _ _ _=>none⟩) (r:=ops.toList.length) (dec:=dec) (λo ho=>by simp at ho) (λi=>⟨s,log,p,hrun,by
      have:∀(l:List Ent)(q q':Prop),okAll l q->(q->q')->okAll l q':=by
       intro l
       induction l with
       | nil=>intro q q' h hq;exact hq h
       | cons x r ih =>
        intro q q' h hq;obtain⟨i,o,e⟩:=x;simp only[okAll]at h ⊢
        cases ho:e.obl with
        | none=>rw[ho]at h;exact ih _ _ h hq
        | some pp=>rw[ho]at h;exact⟨h.1,ih _ _ h.2 hq⟩
      exact this _ _ _ h λhq=>⟨hq.1,by
       unfold impP;split
       ·exact hq.2
       ·exact λ_=>hq.2⟩⟩) hS hN hρ hK
    ·exact h.elim
    ·exact h.elim
   | succ fuel ih =>
    intro dec h;unfold explN at h;split at h
    ·rename_i s log p hrun
     exact explC_sound hX hX.G.mix (R:=⟨Unit,⟨()⟩,λ_ _ _ _=>none⟩) (r:=ops.toList.length) (dec:=dec) (λo ho=>by simp at ho) (λi=>⟨s,log,p,hrun,by
      have:∀(l:List Ent)(q q':Prop),okAll l q->(q->q')->okAll l q':=by
       intro l
       induction l with
       | nil=>intro q q' h hq;exact hq h
       | cons x r ih =>
        intro q q' h hq;obtain⟨i,o,e⟩:=x;simp only[okAll]at h ⊢
        cases ho:e.obl with
        | none=>rw[ho]at h;exact ih _ _ h hq
        | some pp=>rw[ho]at h;exact⟨h.1,ih _ _ h.2 hq⟩
      exact this _ _ _ h λhq=>⟨hq.1,by
       unfold impP;split
       ·exact hq.2
       ·exact λ_=>hq.2⟩⟩) hS hN hρ hK
    ·rename_i j b hrun
     cases b with
     | true=>exact ih _ (h.1 rfl)
     | false=>exact ih _ (h.2 rfl)
    ·exact h.elim
  exact key 20 [] h
 ·rename_i r R hR;obtain⟨_,o,ho,hro⟩:=findR_spec hR;simp only[Nat.sub_zero]at ho;refine explC_sound hX hX.G.mix (R:=R) (r:=r) (dec:=[]) (λo' ho'=>?_) (λi=>?_) hS hN hρ hK
  ·rw[ho]at ho';injection ho' with ho'
   subst ho';exact ropOf_ok hX hro
  ·have:=h i;split at this
   ·rename_i s log p hrun;exact⟨s,log,p,hrun,this⟩
   ·exact this.elim
end
end Go.Sx

namespace Go.Sx
open Go.RowKit
abbrev Sig:=Nm->Option Nm
def Rho.under(ρ:Rho)(σ:Sig):Rho:=λn=>match σ n with
 | some m=>ρ m
 | none=>none
def sameN:Option Nm->Nm->Prop
 | some m,n=>match Nat.beq m n with
  | true=>True
  | false=>False
 | none,_=>False
theorem sameN_eq{o:Option Nm}{n:Nm}(h:sameN o n):o=some n:=by
 cases o with
 | none=>exact h.elim
 | some m =>
  simp only[sameN]at h;split at h
  ·rename_i hb;rw[Nat.eq_of_beq_eq_true hb]
  ·exact h.elim
mutual
def eqvR(σ:Sig):SV->SV->Prop
 | .tt, .tt=>True
 | .ff, .ff=>True
 | .tt, .bool b=>b=true
 | .ff, .bool b=>b=false
 | .bool b, .tt=>b=true
 | .bool b, .ff=>b=false
 | .bool a, .bool b=>a=b
 | .int k a, .int k' b=>match kEq k k' with
  | true=>a=b
  | false=>False
 | .flt k a, .flt k' b=>match fkEq k k' with
  | true=>a=b
  | false=>False
 | .str a, .str b=>a=b
 | .ptr n o, .ptr n' o'=>sameN (σ n') n/\o=o'
 | .nilp, .nilp=>True
 | .slc n o l c, .slc n' o' l' c'=>sameN (σ n') n/\o=o'/\l=l'/\c=c'
 | .nils, .nils=>True
 | .slcc n l, .slcc n' l'=>sameN (σ n') n/\l=l'
 | .nils, .slcc n' l'=>match σ n' with
  | none=>l'=0
  | some _=>False
 | .agg a, .agg b=>eqvRL σ a b
 | .tup a, .tup b=>eqvRL σ a b
 | .ifc t v, .ifc t' v'=>match Nat.beq t t' with
  | true=>eqvR σ v v'
  | false=>False
 | .nili, .nili=>True
 | .fn f a c, .fn f' a' c'=>f=f'/\eqvRL σ a a'/\eqvRL σ c c'
 | .nilf, .nilf=>True
 | .sla a l c, .sla a' l' c'=>a=a'/\l=l'/\c=c'
 | .pb n b c, .pb n' b' c'=>sameN (σ n') n/\b=b'/\c=c'
 | .dv n v, .dv n' v'=>sameN (σ n') n/\v=v'
 | .slb n b c l k, .slb n' b' c' l' k'=>sameN (σ n') n/\b=b'/\c=c'/\l=l'/\k=k'
 | .nils, .dv _ v=>v=.slice none 0 0
 | .nilp, .dv _ v=>v=.pointer none
 | .nili, .dv _ v=>v=.nilIface
 | .nili, .opt b _ _=>b=false
 | .opt b _ _, .nili=>b=false
 | .ifc t v, .opt b t' v'=>match Nat.beq t t' with
  | true=>b=true/\eqvR σ v v'
  | false=>False
 | .opt b t v, .ifc t' v'=>match Nat.beq t t' with
  | true=>b=true/\eqvR σ v v'
  | false=>False
 | .opt b t v, .opt b' t' v'=>match Nat.beq t t' with
  | true=>b=b'/\eqvR σ v v'
  | false=>False
 | .pb n b c, .dv n' v=>sameN (σ n') n/\v=.pointer (some ⟨b,c,none⟩)
 | .slb n b c l k, .dv n' v=>sameN (σ n') n/\v=.slice (some ⟨b,c,none⟩) l k
 | .dv n v, .pb n' b c=>sameN (σ n') n/\v=.pointer (some ⟨b,c,none⟩)
 | .dv n v, .slb n' b c l k=>sameN (σ n') n/\v=.slice (some ⟨b,c,none⟩) l k
 | _,_=>False
def eqvRL(σ:Sig):List SV->List SV->Prop
 | [],[]=>True
 | x :: xs,y :: ys=>eqvR σ x y/\eqvRL σ xs ys
 | _,_=>False
end
theorem under_addr{ρ:Rho}{σ:Sig}{n n':Nm}(h:sameN (σ n') n)(o:Nat):ρ.addr n o=(ρ.under σ).addr n' o:=by
 simp[Rho.addr,Rho.under,sameN_eq h]
theorem under_addrC{ρ:Rho}{σ:Sig}{n n':Nm}(h:sameN (σ n') n):ρ.addrC n=(ρ.under σ).addrC n':=by
 simp[Rho.addrC,Rho.under,sameN_eq h]
theorem under_cap{ρ:Rho}{σ:Sig}{n n':Nm}(h:sameN (σ n') n):ρ.cap n=(ρ.under σ).cap n':=by
 simp[Rho.cap,Rho.under,sameN_eq h]
mutual
theorem eqvR_den(ρ:Rho)(σ:Sig):∀(x y:SV),eqvR σ x y->x.den ρ=y.den (ρ.under σ)
 | .agg a,y,h=>by cases y <;> simp only[eqvR]at h;simp[SV.den,eqvRL_den ρ σ a _ h]
 | .tup a,y,h=>by cases y <;> simp only[eqvR]at h;simp[SV.den,eqvRL_den ρ σ a _ h]
 | .ifc t v,y,h=>by
  cases y <;> simp only[eqvR]at h
  ·split at h
   ·rename_i ht;have:=Nat.eq_of_beq_eq_true ht;subst this;simp[SV.den,eqvR_den ρ σ v _ h]
   ·exact h.elim
  ·split at h
   ·rename_i ht;have:=Nat.eq_of_beq_eq_true ht;subst this;obtain⟨rfl,h⟩:=h;simp[SV.den,eqvR_den ρ σ v _ h]
   ·exact h.elim
 | .opt b t v,y,h=>by
  cases y <;> simp only[eqvR]at h
  ·split at h
   ·rename_i ht;have:=Nat.eq_of_beq_eq_true ht;subst this;obtain⟨rfl,h⟩:=h;simp[SV.den,eqvR_den ρ σ v _ h]
   ·exact h.elim
  ·subst h;rfl
  ·split at h
   ·rename_i ht;have:=Nat.eq_of_beq_eq_true ht;subst this;obtain⟨rfl,h⟩:=h;cases b <;> simp[SV.den,eqvR_den ρ σ v _ h]
   ·exact h.elim
 | .fn f a c,y,h=>by
  cases y <;> simp only[eqvR]at h
  obtain⟨rfl,h1,h2⟩:=h;simp[SV.den,eqvRL_den ρ σ a _ h1,eqvRL_den ρ σ c _ h2]
 | .int k a,y,h=>by
  cases y <;> simp only[eqvR]at h
  split at h
  ·rename_i ht;have:=kEq_eq ht;subst this;simp[SV.den,h]
  ·exact h.elim
 | .flt k a,y,h=>by
  cases y <;> simp only[eqvR]at h
  split at h
  ·rename_i ht;have:=fkEq_eq ht;subst this;simp[SV.den,h]
  ·exact h.elim
 | .ptr n o,y,h=>by
  cases y <;> simp only[eqvR]at h
  obtain⟨h1,rfl⟩:=h;simp[SV.den,under_addr h1]
 | .slc n o l c,y,h=>by
  cases y <;> simp only[eqvR]at h
  obtain⟨h1,rfl,rfl,rfl⟩:=h;simp[SV.den,under_addr h1]
 | .slcc n l,y,h=>by
  cases y <;> simp only[eqvR]at h
  obtain⟨h1,rfl⟩:=h;simp[SV.den,under_addrC h1,under_cap h1]
 | .nils,y,h=>by
  cases y <;> simp only[eqvR]at h
  ·rfl
  ·split at h
   ·rename_i hs;subst h;simp[SV.den,Rho.addrC,Rho.cap,Rho.under,hs]
   ·exact h.elim
  ·subst h;simp[SV.den,Value.oneCell']
 | .sla a l c,y,h=>by
  cases y <;> simp only[eqvR]at h
  obtain⟨rfl,rfl,rfl⟩:=h;rfl
 | .pb n b c,y,h=>by
  cases y <;> simp only[eqvR]at h
  ·obtain⟨_,rfl,rfl⟩:=h;rfl
  ·obtain⟨_,rfl⟩:=h;simp[SV.den,Value.oneCell']
 | .dv n v,y,h=>by
  cases y <;> simp only[eqvR]at h
  ·obtain⟨_,rfl⟩:=h;simp[SV.den,Value.oneCell']
  ·obtain⟨_,rfl⟩:=h;rfl
  ·obtain⟨_,rfl⟩:=h;simp[SV.den,Value.oneCell']
 | .slb n b c l k,y,h=>by
  cases y <;> simp only[eqvR]at h
  ·obtain⟨_,rfl⟩:=h;simp[SV.den,Value.oneCell']
  ·obtain⟨_,rfl,rfl,rfl,rfl⟩:=h;rfl
 | .tt,y,h | .ff,y,h | .bool _,y,h | .str _,y,h | .nilp,y,h | .nili,y,h | .nilf,y,h=>by
  cases y <;> simp_all[eqvR,SV.den,Value.oneCell']
theorem eqvRL_den(ρ:Rho)(σ:Sig):∀(x y:List SV),eqvRL σ x y->denL ρ x=denL (ρ.under σ) y
 | [],y,h=>by cases y <;> simp_all[eqvRL,denL]
 | x :: r,y,h=>by
  cases y with
  | nil=>simp[eqvRL]at h
  | cons u s=>simp only[eqvRL]at h;simp[denL,eqvR_den ρ σ x u h.1,eqvRL_den ρ σ r s h.2]
end
mutual
def SV.und(N:Nat):SV->Bool
 | .ptr n _=>Nat.blt n N
 | .slc n _ _ _=>Nat.blt n N
 | .slcc n _=>Nat.blt n N
 | .pb n _ _=>Nat.blt n N
 | .dv n _=>Nat.blt n N
 | .slb n _ _ _ _=>Nat.blt n N
 | .agg cs=>undL N cs
 | .tup vs=>undL N vs
 | .ifc _ v=>v.und N
 | .opt _ _ v=>v.und N
 | .fn _ a c=>undL N a&&undL N c
 | _=>true
def undL(N:Nat):List SV->Bool
 | []=>true
 | v :: r=>v.und N&&undL N r
end
theorem blt_lt{n m:Nat}(h:Nat.blt n m=true):n<m:=by
 have:=Nat.le_of_ble_eq_true h;omega
mutual
theorem SV.und_bd{N:Nat}:∀ v:SV,v.und N=true->v.bd (·< N)
 | .ptr n _=>by intro h;exact blt_lt h
 | .slc n _ _ _=>by intro h;exact blt_lt h
 | .slcc n _=>by intro h;exact blt_lt h
 | .pb n _ _ | .dv n _ | .slb n _ _ _ _=>by intro h;exact blt_lt h
 | .agg cs=>by simpa [SV.bd,SV.und]using undL_bd cs
 | .tup cs=>by simpa [SV.bd,SV.und]using undL_bd cs
 | .ifc _ v=>by simpa [SV.bd,SV.und]using SV.und_bd v
 | .opt _ _ v=>by simpa [SV.bd,SV.und]using SV.und_bd v
 | .fn _ a c=>by simpa [SV.bd,SV.und]using λh1 h2=>⟨undL_bd a h1,undL_bd c h2⟩
 | .tt | .ff | .bool _ | .int _ _ | .flt _ _ | .str _ | .nilp | .nils | .nili | .nilf | .sla _ _ _=>by simp[SV.bd]
theorem undL_bd{N:Nat}:∀ l:List SV,undL N l=true->bdL (·< N) l
 | []=>by simp[bdL]
 | v :: r=>by simpa [bdL,undL]using λh1 h2=>⟨SV.und_bd v h1,undL_bd r h2⟩
end
def uptoR(σ:Sig)(i n:Nat):List SV->List SV->Prop
 | [],_=>n=i
 | x :: xs,y :: ys=>eqvR σ x y/\uptoR σ (i+1) n xs ys
 | _ :: _,[]=>False
theorem uptoR_spec{σ:Sig}{n:Nat}:∀ {l l':List SV} {i:Nat},uptoR σ i n l l'->n=i+l.length/\∀ j,j<l.length->eqvR σ ((getL l j).getD .nilp) ((getL l' j).getD .nilp)
 | [],_,i,h=>⟨h,λj hj=>by simp at hj⟩
 | x :: xs,y :: ys,i,h=>by
  obtain⟨h1,h2⟩:=h;obtain⟨h3,h4⟩:=uptoR_spec h2;refine⟨by simp;omega,λj hj=>?_⟩
  cases j with
  | zero=>simpa [getL]using h1
  | succ j=>simpa [getL]using h4 j (by simpa using hj)
 | _ :: _,[],_,h=>by simp[uptoR]at h
def uptoR2(σ:Sig)(i n:Nat):List SV->List SV->Prop
 | [],[]=>True
 | x :: xs,y :: ys=>(i<n->eqvR σ x y)/\uptoR2 σ (i+1) n xs ys
 | [],_ :: _=>n<=i
 | _ :: _,[]=>n<=i
def genR(σ:Sig)(f:Nat->SV)(i n:Nat):List SV->Prop
 | []=>n<=i
 | y :: ys=>(i<n->eqvR σ (f i) y)/\genR σ f (i+1) n ys
def genC(σ:Sig)(f:Nat->SV)(i n:Nat):List SV->Prop
 | []=>i<=n
 | y :: ys=>eqvR σ (f i) y/\genC σ f (i+1) n ys
theorem uptoR2_spec{σ:Sig}{n:Nat}:∀ {l l':List SV} {i:Nat},uptoR2 σ i n l l'->∀ j,i+j<n->eqvR σ ((getL l j).getD .nilp) ((getL l' j).getD .nilp)
 | [],[],i,_,j,_=>by simp[getL,eqvR]
 | x :: xs,y :: ys,i,h,j,hj=>by
  obtain⟨h1,h2⟩:=h
  cases j with
  | zero=>simpa [getL]using h1 (by omega)
  | succ j=>simpa [getL]using uptoR2_spec h2 j (by omega)
 | [],_ :: _,i,h,j,hj=>by have h:n<=i:=h;omega
 | _ :: _,[],i,h,j,hj=>by have h:n<=i:=h;omega
theorem genR_spec{σ:Sig}{f:Nat->SV}{n:Nat}:∀ {l':List SV} {i:Nat},genR σ f i n l'->∀ j,i+j<n->eqvR σ (f (i+j)) ((getL l' j).getD .nilp)
 | [],i,h,j,hj=>by have h:n<=i:=h;omega
 | y :: ys,i,h,j,hj=>by
  obtain⟨h1,h2⟩:=h
  cases j with
  | zero=>simpa [getL]using h1 (by omega)
  | succ j =>
   have:=genR_spec h2 j (by omega);rw[show i+(j+1)=i+1+j by omega];simpa [getL]using this
theorem genC_spec{σ:Sig}{f:Nat->SV}{n:Nat}:∀ {l':List SV} {i:Nat},genC σ f i n l'->i+l'.length<=n/\∀ j,j<l'.length->eqvR σ (f (i+j)) ((getL l' j).getD .nilp)
 | [],i,h=>⟨h,λj hj=>by simp at hj⟩
 | y :: ys,i,h=>by
  obtain⟨h1,h2⟩:=h;obtain⟨h3,h4⟩:=genC_spec h2;refine⟨by simp;omega,λj hj=>?_⟩
  cases j with
  | zero=>simpa [getL]using h1
  | succ j =>
   have:=h4 j (by simpa using hj);rw[show i+(j+1)=i+1+j by omega];simpa [getL]using this
def contR(σ:Sig)(c c':Cont):Prop :=
 match c,c' with
 | .cells l, .cells l'=>eqvRL σ l l'
 | .ints k n g, .ints k' n' g'=>match kEq k k' with
  | true=>n'<=n/\∀ i,i<n'->g i=g' i
  | false=>False
 | .flts k n g, .flts k' n' g'=>match fkEq k k' with
  | true=>n'<=n/\∀ i,i<n'->g i=g' i
  | false=>False
 | .cells l, .ints k n g=>match intsOf k l with
  | some xs=>n<=xs.length/\∀ i,i<n->xs.getD i 0=g i
  | none=>False
 | .cells l, .flts k n g=>match fltsOf k l with
  | some xs=>n<=xs.length/\∀ i,i<n->xs.getD i 0=g i
  | none=>False
 | .cells l, .upto n l'=>uptoR σ 0 n l l'
 | .upto n l, .upto n' l'=>n'=n/\uptoR2 σ 0 n' l l'
 | .gen n f, .upto n' l'=>n'<=n/\genR σ f 0 n' l'
 | .gen n f, .cells l'=>genC σ f 0 n l'
 | .raw ts D sz F, .raw ts' D' sz' F'=>ts=ts'/\F=F'/\sz=sz'/\D=D'
 | _, .raw _ _ _ _=>False
 | c,c'=>c'.size<=c.size/\∀ i,i<c'.size->eqvR σ (c.at i) (c'.at i)
theorem eqvRL_len{σ:Sig}:∀ {x y:List SV},eqvRL σ x y->x.length=y.length
 | [],[],_=>rfl
 | [],_ :: _,h=>by simp[eqvRL]at h
 | _ :: _,[],h=>by simp[eqvRL]at h
 | x :: r,y :: s,h=>by simp only[eqvRL]at h;simp[eqvRL_len h.2]
theorem eqvRL_get{σ:Sig}:∀ {x y:List SV},eqvRL σ x y->∀ {i:Nat},i<y.length->eqvR σ ((getL x i).getD .nilp) ((getL y i).getD .nilp)
 | [],[],_,i,h=>by simp at h
 | [],_ :: _,h,_,_=>by simp[eqvRL]at h
 | _ :: _,[],h,_,_=>by simp[eqvRL]at h
 | x :: r,y :: s,h,i,hi=>by
  simp only[eqvRL]at h
  cases i with
  | zero=>simpa [getL]using h.1
  | succ i=>simpa [getL]using eqvRL_get h.2 (by simpa using hi)
theorem contR_spec{σ:Sig}{c c':Cont}(h:contR σ c c'):c'.size<=c.size/\∀(ρ:Rho) i,i<c'.size->(c.at i).den ρ=(c'.at i).den (ρ.under σ):=by
 unfold contR at h;split at h
 ·refine⟨by simp[Cont.size,eqvRL_len h],λρ i hi=>eqvR_den ρ σ _ _ (eqvRL_get h hi)⟩
 ·split at h
  ·rename_i hk;have:=kEq_eq hk;subst this;exact⟨h.1,λρ i hi=>by simp[Cont.at,SV.den,h.2 i hi]⟩
  ·exact h.elim
 ·split at h
  ·rename_i hk;have:=fkEq_eq hk;subst this;exact⟨h.1,λρ i hi=>by simp[Cont.at,SV.den,h.2 i hi]⟩
  ·exact h.elim
 ·split at h
  ·rename_i xs hx;have:=intsOf_spec hx;subst this;refine⟨by simpa [Cont.size]using h.1,λρ i hi=>?_⟩;have hi':i<xs.length:=Nat.lt_of_lt_of_le hi h.1;have:=h.2 i hi;simp only[Cont.at,getL_eq,List.getElem?_map,List.getElem?_eq_getElem hi',Option.map_some,Option.getD_some,SV.den];rw[List.getD_eq_getElem?_getD,List.getElem?_eq_getElem hi',Option.getD_some]at this;rw[this]
  ·exact h.elim
 ·split at h
  ·rename_i xs hx;have:=fltsOf_spec hx;subst this;refine⟨by simpa [Cont.size]using h.1,λρ i hi=>?_⟩;have hi':i<xs.length:=Nat.lt_of_lt_of_le hi h.1;have:=h.2 i hi;simp only[Cont.at,getL_eq,List.getElem?_map,List.getElem?_eq_getElem hi',Option.map_some,Option.getD_some,SV.den];rw[List.getD_eq_getElem?_getD,List.getElem?_eq_getElem hi',Option.getD_some]at this;rw[this]
  ·exact h.elim
 ·rename_i l n l';obtain⟨h1,h2⟩:=uptoR_spec h;rw[Nat.zero_add]at h1;refine⟨by simp[Cont.size,h1],λρ i hi=>eqvR_den ρ σ _ _ (h2 i (by have hi':i<n:=hi;omega))⟩
 ·rename_i n l n' l';obtain⟨rfl,h⟩:=h;refine⟨Nat.le_refl _,λρ i hi=>?_⟩;have hi':0+i<n':=by have:i<n':=hi;omega
  exact eqvR_den ρ σ _ _ (uptoR2_spec h i hi')
 ·rename_i n f n' l';refine⟨h.1,λρ i hi=>?_⟩;have hi':0+i<n':=by have:i<n':=hi;omega
  have:=genR_spec h.2 i hi';rw[Nat.zero_add]at this;exact eqvR_den ρ σ _ _ this
 ·rename_i n f l';obtain⟨h1,h2⟩:=genC_spec h;refine⟨by rw[Nat.zero_add]at h1;exact h1,λρ i hi=>?_⟩;have:=h2 i hi;rw[Nat.zero_add]at this;exact eqvR_den ρ σ _ _ this
 ·exact⟨Nat.le_refl _,λρ i hi=>absurd hi (Nat.not_lt_zero i)⟩
 ·exact h.elim
 ·exact⟨h.1,λρ i hi=>eqvR_den ρ σ _ _ (h.2 i hi)⟩
theorem contR_raw{σ:Sig}{c:Cont}{ts D sz F}(h:contR σ c (.raw ts D sz F)):c=.raw ts D sz F:=by
 cases c <;> simp only[contR]at h
 obtain⟨rfl,rfl,rfl,rfl⟩:=h;rfl
def Cont.void:Cont->Prop
 | .raw _ D _ _=>∀ b,¬D b
 | c=>c.size=0
theorem Cont.void_size{c:Cont}(h:c.void):c.size=0:=by
 cases c <;> first|exact h|rfl
def obR(σ:Sig)(o o':Ob):Prop :=
 match o'.rw with
 | false=>contR σ o.c o'.c
 | true=>match o.rw with
  | false=>False
  | true=>o.elem=o'.elem/\o.es=o'.es/\contR σ o.c o'.c
theorem obR_spec{σ:Sig}{o o':Ob}(h:obR σ o o'):contR σ o.c o'.c/\(o'.rw=true->o.rw=true/\o.elem=o'.elem/\o.es=o'.es):=by
 unfold obR at h;split at h
 ·rename_i hr;exact⟨h,λh'=>by rw[hr]at h';cases h'⟩
 ·split at h
  ·exact h.elim
  ·rename_i hr;exact⟨h.2.2,λ_=>⟨hr,h.1,h.2.1⟩⟩
theorem OSat.other{w:World}{ρ:Rho}{σ:Sig}{o o':Ob}(h:obR σ o o'){p:Option (Nat×Nat×Nat)}(hs:OSat w ρ o p):OSat w (ρ.under σ) o' p:=by
 obtain⟨hc,hr⟩:=obR_spec h;obtain⟨h1,h2⟩:=contR_spec hc
 cases p with
 | none =>
  have:o.c.size=0:=hs;show o'.c.size=0;omega
 | some q =>
  obtain⟨b,off,cp⟩:=q;refine⟨λi hi=>?_,λh'=>?_,λh'=>hs.2.2 (by omega)⟩
  ·rw[<-h2 ρ i hi];exact hs.1 i (by omega)
  ·obtain⟨h3,h4,h5⟩:=hr h';obtain⟨h6,arr,h7,h8,h9,h10⟩:=hs.2.1 h3;exact⟨h6,arr,by rw[<-h4];exact h7,by omega,λhh=>by rw[<-h5];exact h9 (by rw[h5];exact hh),h10⟩
def Cont.und(N:Nat):Cont->Prop
 | .cells l=>undL N l=true
 | .ints _ _ _=>True
 | .flts _ _ _=>True
 | .gen n f=>∀ i,i<n->(f i).und N=true
 | .upto _ l=>undL N l=true
 | .raw _ _ _ _=>True
theorem Cont.und_bd{N:Nat}{c:Cont}(h:c.und N):c.bd (·< N):=by
 intro i hi
 cases c with
 | cells l =>
  have:=undL_bd l h;have hi':i<l.length:=hi;simp only[Cont.at,getL_eq,List.getElem?_eq_getElem hi',Option.getD_some];exact(bdL_iff _ l).1 this _ (List.getElem_mem hi')
 | ints k n g=>trivial
 | flts k n g=>trivial
 | gen n f=>exact SV.und_bd _ (h i hi)
 | upto n l =>
  have:=undL_bd l h;simp only[Cont.at,getL_eq]
  cases hg:l[i]? with
  | none=>trivial
  | some v=>exact(bdL_iff _ l).1 this _ (List.mem_of_getElem? hg)
 | raw ts D sz F=>exact absurd hi (Nat.not_lt_zero i)
abbrev SigL:=List (Nm×Option Nm)
def sigAt:SigL->Sig
 | [],n=>some n
 | (m,x) :: r,n=>match Nat.beq m n with
  | true=>x
  | false=>sigAt r n
def slotsR(σ:Sig)(sl:Slots)(N:Nat):Slots->Prop
 | []=>True
 | (t,v') :: r=>(match slot sl t with
  | some v=>v'.und N=true/\eqvR σ v v'
  | none=>False)/\slotsR σ sl N r
def heapR(σ:Sig)(H:Heap)(N:Nat):Heap->Prop
 | []=>True
 | (n,o') :: r=>(Nat.blt n N=true/\o'.c.und N/\match σ n with
  | some m=>match look H m with
   | some o=>obR σ o o'
   | none=>False
  | none=>o'.c.void)/\heapR σ H N r
def memN(n:Nm):List Nm->Bool
 | []=>false
 | m :: r=>Nat.beq m n||memN n r
def distN:List Nm->Bool
 | []=>true
 | n :: r => !memN n r&&distN r
def images(σ:Sig):Heap->List Nm
 | []=>[]
 | (n,_) :: r=>match σ n with
  | some m=>m :: images σ r
  | none=>images σ r
def fixN(N0:Nat):SigL->Bool
 | []=>true
 | (n,_) :: r=>Nat.ble N0 n&&fixN N0 r
theorem fixN_spec{N0:Nat}:∀ {s:SigL},fixN N0 s=true->∀ n,n<N0->sigAt s n=some n
 | [],_,n,_=>rfl
 | (m,x) :: r,h,n,hn=>by
  simp only[fixN,Bool.and_eq_true]at h;have hm:=Nat.le_of_ble_eq_true h.1;simp only[sigAt];cases hb:Nat.beq m n
  ·exact fixN_spec h.2 n hn
  ·have:=Nat.eq_of_beq_eq_true hb;omega
theorem memN_of{σ:Sig}{n m:Nm}:∀ {H:Heap} {o:Ob},look H n=some o->σ n=some m->memN m (images σ H)=true
 | [],o,h,_=>by simp[look]at h
 | (k,u) :: r,o,h,hs=>by
  rw[look_cons]at h;simp only[images];split at h
  ·rename_i e;subst e;simp[hs,memN]
  ·have:=memN_of h hs;split
   ·simp[memN,this]
   ·exact this
theorem dist_inj{σ:Sig}:∀ {H:Heap},distN (images σ H)=true->∀ {n m:Nm} {o o':Ob} {x:Nm},look H n=some o->look H m=some o'->n≠m->σ n=some x->σ m=some x->False
 | [],_,n,m,o,o',x,h,_,_,_,_=>by simp[look]at h
 | (k,u) :: r,hd,n,m,o,o',x,hn,hm,hne,h1,h2=>by
  rw[look_cons]at hn hm;simp only[images]at hd;split at hn
  ·rename_i e;subst e;rw[if_neg hne]at hm;rw[h1]at hd;simp only[distN,Bool.and_eq_true,Bool.not_eq_true']at hd;rw[memN_of hm h2]at hd;exact absurd hd.1 (by decide)
  ·split at hm
   ·rename_i e;subst e;rw[h2]at hd;simp only[distN,Bool.and_eq_true,Bool.not_eq_true']at hd;rw[memN_of hn h1]at hd;exact absurd hd.1 (by decide)
   ·refine dist_inj ?_ hn hm hne h1 h2;split at hd
    ·simp only[distN,Bool.and_eq_true]at hd;exact hd.2
    ·exact hd
theorem slotsR_spec{σ:Sig}{sl:Slots}{N:Nat}:∀ {sl':Slots},slotsR σ sl N sl'->∀ t v',slot sl' t=some v'->v'.und N=true/\∃ v,slot sl t=some v/\eqvR σ v v'
 | [],_,t,v',h=>by simp[slot]at h
 | (s,u) :: r,h,t,v',hv=>by
  simp only[slotsR]at h;rw[slot_cons]at hv;split at hv
  ·rename_i e;subst e;simp only[Option.some.injEq]at hv;subst hv;have h1:=h.1;split at h1
   ·rename_i v hsv;exact⟨h1.1,v,hsv,h1.2⟩
   ·exact h1.elim
  ·exact slotsR_spec h.2 t v' hv
theorem heapR_spec{σ:Sig}{H:Heap}{N:Nat}:∀ {H':Heap},heapR σ H N H'->∀ n o',look H' n=some o'->n<N/\o'.c.bd (·< N)/\
  ((∃ m o,σ n=some m/\look H m=some o/\obR σ o o')∨(σ n=none/\o'.c.void))
 | [],_,n,o',h=>by simp[look]at h
 | (s,u) :: r,h,n,o',ho=>by
  simp only[heapR]at h;rw[look_cons]at ho;split at ho
  ·rename_i e;subst e;simp only[Option.some.injEq]at ho;subst ho;obtain⟨⟨h1,h2,h3⟩,_⟩:=h;refine⟨blt_lt h1,Cont.und_bd h2,?_⟩;split at h3
   ·rename_i m hm;split at h3
    ·rename_i o hmo;exact .inl ⟨m,o,hm,hmo,h3⟩
    ·exact h3.elim
   ·rename_i hm;exact .inr ⟨hm,h3⟩
  ·exact heapR_spec h.2 n o' ho
theorem HSat.other{W0:World}{Fr:Nat->Prop}{U:Nm->Prop}{H H':Heap}{ρ:Rho}{w:World}{σ:Sig}{N:Nat}(h:HSat W0 Fr U H ρ w)(hh:heapR σ H N H')(hd:distN (images σ H')=true) :
  HSat W0 Fr (·< N) H' (ρ.under σ) w where
 os:=h.os
 tape:=h.tape
 output:=h.output
 size:=h.size
 frlt:=h.frlt
 frame:=h.frame
 used:=λn o' hn=>(heapR_spec hh n o' hn).1
 bd:=λn o' hn=>(heapR_spec hh n o' hn).2.1
 obj:=λn o' hn=>by
  rcases (heapR_spec hh n o' hn).2.2 with⟨m,o,h1,h2,h3⟩|⟨h1,h2⟩
  ·have:=OSat.other h3 (h.obj m o h2);simpa [Rho.under,h1]using this
  ·simp only[Rho.under,h1];exact Cont.void_size h2
 inj:=λn m o o' p q hn hm hne hr hr2 hp hq=>by
  rcases (heapR_spec hh n o hn).2.2 with⟨n1,o1,h1,h2,h3⟩|⟨h1,h2⟩
  ·rcases (heapR_spec hh m o' hm).2.2 with⟨n2,o2,h4,h5,h6⟩|⟨h4,h5⟩
   ·simp only[Rho.under,h1,h4]at hp hq;have hne2:n1≠n2:=λe=>dist_inj hd hn hm hne h1 (e▸h4)
    obtain⟨hc,hr'⟩:=obR_spec h3;obtain⟨hc2,hr2'⟩:=obR_spec h6;refine h.inj n1 n2 o1 o2 p q h2 h5 hne2 (hr' hr).1 ?_ hp hq;rcases hr2 with hr2|hr2
    ·exact .inl (hr2' hr2).1
    ·exact .inr (Nat.lt_of_lt_of_le hr2 (contR_spec hc2).1)
   ·simp only[Rho.under,h4]at hq;cases hq
  ·simp only[Rho.under,h1]at hp;cases hp
 free:=λn o' p hn hr hp=>by
  rcases (heapR_spec hh n o' hn).2.2 with⟨m,o,h1,h2,h3⟩|⟨h1,h2⟩
  ·simp only[Rho.under,h1]at hp;exact h.free m o p h2 ((obR_spec h3).2 hr).1 hp
  ·simp only[Rho.under,h1]at hp;cases hp
 rawd:=λn o' ts D sz F hn hr hc=>by
  rcases (heapR_spec hh n o' hn).2.2 with⟨m,o,h1,h2,h3⟩|⟨h1,h2⟩
  ·obtain⟨h4,h5⟩:=obR_spec h3;rw[hc]at h4;have k:=h.rawd m o ts D sz F h2 (h5 hr).1 (contR_raw h4);refine⟨k.sat,k.free,λm' o2 q hm' hne hr2 hq=>?_,λm' o2 ts' D' sz' F' hm' hne hr2 hc2=>?_⟩
   ·rcases (heapR_spec hh m' o2 hm').2.2 with⟨m1,o1,h6,h7,h8⟩|⟨h6,h7⟩
    ·simp only[Rho.under,h6]at hq;obtain⟨h9,h10⟩:=obR_spec h8;refine k.sep m1 o1 q h7 (λe=>dist_inj hd hm' hn hne h6 (e▸h1)) ?_ hq;rcases hr2 with hr2|hr2
     ·exact .inl (h10 hr2).1
     ·exact .inr (Nat.lt_of_lt_of_le hr2 (contR_spec h9).1)
    ·simp only[Rho.under,h6]at hq;cases hq
   ·rcases (heapR_spec hh m' o2 hm').2.2 with⟨m1,o1,h6,h7,h8⟩|⟨h6,h7⟩
    ·obtain⟨h9,h10⟩:=obR_spec h8;rw[hc2]at h9;exact k.sepr m1 o1 ts' D' sz' F' h7 (λe=>dist_inj hd hm' hn hne h6 (e▸h1)) (h10 hr2).1 (contR_raw h9)
    ·rw[hc2]at h7;exact λb _=>h7 b
  ·rw[hc]at h2;exact⟨λb hb=>absurd hb (h2 b),λb hb=>absurd hb (h2 b),λ_ _ _ _ _ _ _=>h2 _,λ_ _ _ _ _ _ _ _ _ _ b hb=>absurd hb (h2 b)⟩
structure FitsOk (N0:Nat) (s:SigL) (S S':St):Prop where
 N:Nat.ble N0 S'.N=true
 fx:fixN N0 s=true
 nt:S'.nt=S.nt
 dist:distN (images (sigAt s) S'.H)=true
 sl:slotsR (sigAt s) S.sl S'.N S'.sl
 hp:heapR (sigAt s) S.H S'.N S'.H
theorem Refines.by_names{N0:Nat}{S S':St}(s:SigL)(h:FitsOk N0 s S S'):Refines N0 S S':=by
 refine⟨Nat.le_of_ble_eq_true h.N,λW0 Fr ρ a w hS=>⟨ρ.under (sigAt s),⟨hS.h.other h.hp h.dist,?_⟩,λn hn=>by simp[Rho.under,fixN_spec h.fx n hn]⟩⟩
 exact {
  nd:=hS.s.nd
  size:=by rw[hS.s.size,h.nt]
  bd:=λt v hv=>SV.und_bd _ (slotsR_spec h.sl t v hv).1
  val:=λt v hv=>by
   obtain⟨_,u,hu,he⟩:=slotsR_spec h.sl t v hv;rw[<-eqvR_den ρ (sigAt s) u v he]
   exact hS.s.val t u hu}
end Go.Sx

namespace Go.Sx
open Go.RowKit
mutual
def SV.ren(θ:Nm->Nm):SV->SV
 | .ptr n o=>.ptr (θ n) o
 | .slc n o l c=>.slc (θ n) o l c
 | .slcc n l=>.slcc (θ n) l
 | .agg cs=>.agg (renL θ cs)
 | .tup vs=>.tup (renL θ vs)
 | .ifc t v=>.ifc t (v.ren θ)
 | .opt b t v=>.opt b t (v.ren θ)
 | .fn f a c=>.fn f (renL θ a) (renL θ c)
 | .tt=>.tt
 | .ff=>.ff
 | .bool b=>.bool b
 | .int k n=>.int k n
 | .flt k n=>.flt k n
 | .str s=>.str s
 | .nilp=>.nilp
 | .nils=>.nils
 | .nili=>.nili
 | .nilf=>.nilf
 | .sla a l c=>.sla a l c
 | .pb n b c=>.pb (θ n) b c
 | .dv n v=>.dv (θ n) v
 | .slb n b c l k=>.slb (θ n) b c l k
def renL(θ:Nm->Nm):List SV->List SV
 | []=>[]
 | v :: r=>v.ren θ :: renL θ r
end
mutual
theorem SV.ren_den(ρ:Rho)(θ:Nm->Nm):∀ v:SV,(v.ren θ).den ρ=v.den λi=>ρ (θ i)
 | .ptr n o=>by simp[SV.ren,SV.den,Rho.addr]
 | .slc n o l c=>by simp[SV.ren,SV.den,Rho.addr]
 | .slcc n l=>by simp[SV.ren,SV.den,Rho.addrC,Rho.cap]
 | .agg cs=>by simp[SV.ren,SV.den,renL_den ρ θ cs]
 | .tup cs=>by simp[SV.ren,SV.den,renL_den ρ θ cs]
 | .ifc t v=>by simp[SV.ren,SV.den,SV.ren_den ρ θ v]
 | .opt b t v=>by cases b <;> simp[SV.ren,SV.den,SV.ren_den ρ θ v]
 | .fn f a c=>by simp[SV.ren,SV.den,renL_den ρ θ a,renL_den ρ θ c]
 | .tt | .ff | .bool _ | .int _ _ | .flt _ _ | .str _ | .nilp | .nils | .nili | .nilf | .sla _ _ _ | .pb _ _ _ | .dv _ _ | .slb _ _ _ _ _=>by simp[SV.ren,SV.den]
theorem renL_den(ρ:Rho)(θ:Nm->Nm):∀ l:List SV,denL ρ (renL θ l)=denL (λi=>ρ (θ i)) l
 | []=>by simp[renL,denL]
 | v :: r=>by simp[renL,denL,SV.ren_den ρ θ v,renL_den ρ θ r]
end
mutual
theorem SV.ren_bd{U V:Nm->Prop}{θ:Nm->Nm}(h:∀ n,U n->V (θ n)):∀ v:SV,v.bd U->(v.ren θ).bd V
 | .ptr n o=>by simpa [SV.ren,SV.bd]using h n
 | .slc n o l c=>by simpa [SV.ren,SV.bd]using h n
 | .slcc n l=>by simpa [SV.ren,SV.bd]using h n
 | .pb n _ _ | .dv n _ | .slb n _ _ _ _=>by simpa [SV.ren,SV.bd]using h n
 | .agg cs=>by simpa [SV.ren,SV.bd]using renL_bd h cs
 | .tup cs=>by simpa [SV.ren,SV.bd]using renL_bd h cs
 | .ifc t v=>by simpa [SV.ren,SV.bd]using SV.ren_bd h v
 | .opt b t v=>by simpa [SV.ren,SV.bd]using SV.ren_bd h v
 | .fn f a c=>by simpa [SV.ren,SV.bd]using λh1 h2=>⟨renL_bd h a h1,renL_bd h c h2⟩
 | .tt | .ff | .bool _ | .int _ _ | .flt _ _ | .str _ | .nilp | .nils | .nili | .nilf | .sla _ _ _=>by simp[SV.ren,SV.bd]
theorem renL_bd{U V:Nm->Prop}{θ:Nm->Nm}(h:∀ n,U n->V (θ n)):∀ l:List SV,bdL U l->bdL V (renL θ l)
 | []=>by simp[renL,bdL]
 | v :: r=>by simpa [renL,bdL]using λh1 h2=>⟨SV.ren_bd h v h1,renL_bd h r h2⟩
end
theorem renL_len(θ:Nm->Nm):∀ l:List SV,(renL θ l).length=l.length
 | []=>rfl
 | v :: r=>by simp[renL,renL_len θ r]
theorem renL_get(θ:Nm->Nm):∀(l:List SV)(i:Nat),i<l.length->(getL (renL θ l) i).getD .nilp=((getL l i).getD .nilp).ren θ
 | [],i,h=>by simp at h
 | v :: r,0,_=>by simp[renL,getL]
 | v :: r,i+1,h=>by simpa [renL,getL]using renL_get θ r i (by simpa using h)
theorem renL_getD(θ:Nm->Nm):∀(l:List SV)(i:Nat),(getL (renL θ l) i).getD .nilp=((getL l i).getD .nilp).ren θ
 | [],i=>by simp[renL,getL,SV.ren]
 | v :: r,0=>by simp[renL,getL]
 | v :: r,i+1=>by simpa [renL,getL]using renL_getD θ r i
def Cont.ren(θ:Nm->Nm):Cont->Cont
 | .cells l=>.cells (renL θ l)
 | .ints k n g=>.ints k n g
 | .flts k n g=>.flts k n g
 | .gen n f=>.gen n λi=>(f i).ren θ
 | .upto n l=>.upto n (renL θ l)
 | .raw ts D sz F=>.raw ts D sz F
theorem Cont.ren_raw{θ:Nm->Nm}{c:Cont}{ts D sz F}(h:c.ren θ=.raw ts D sz F):c=.raw ts D sz F:=by
 cases c <;> simp_all[Cont.ren]
theorem Cont.ren_spec(θ:Nm->Nm)(c:Cont):(c.ren θ).size=c.size/\∀ i,i<c.size->(c.ren θ).at i=(c.at i).ren θ:=by
 cases c with
 | cells l=>exact⟨by simp[Cont.ren,Cont.size,renL_len],λi hi=>by simp only[Cont.ren,Cont.at];exact renL_get θ l i hi⟩
 | ints k n g=>exact⟨rfl,λi hi=>by simp[Cont.ren,Cont.at,SV.ren]⟩
 | flts k n g=>exact⟨rfl,λi hi=>by simp[Cont.ren,Cont.at,SV.ren]⟩
 | gen n f=>exact⟨rfl,λi hi=>rfl⟩
 | upto n l=>exact⟨rfl,λi _=>renL_getD θ l i⟩
 | raw ts D sz F=>exact⟨rfl,λi hi=>absurd hi (Nat.not_lt_zero i)⟩
def Ob.ren(θ:Nm->Nm)(o:Ob):Ob:=⟨o.rw,o.elem,o.c.ren θ,o.es⟩
def renH(θ:Nm->Nm):Heap->Heap
 | []=>[]
 | (n,o) :: r=>(θ n,o.ren θ) :: renH θ r
theorem look_ren{θ:Nm->Nm}{n:Nm}{o:Ob}:∀ {h:Heap},look (renH θ h) n=some o->∃ i o0,look h i=some o0/\θ i=n/\o=o0.ren θ
 | [],h=>by simp[renH,look]at h
 | (m,u) :: r,h=>by
  simp only[renH,look_cons]at h;split at h
  ·rename_i e;simp only[Option.some.injEq]at h;exact⟨m,u,by simp[look_cons],e,h.symm⟩
  ·rename_i e;obtain⟨i,o0,h1,h2,h3⟩:=look_ren h;exact⟨i,o0,by rw[look_cons,if_neg (λe'=>e (by rw[e',h2]))];exact h1,h2,h3⟩
theorem look_ren_some{θ:Nm->Nm}{i:Nm}{o:Ob}:∀ {h:Heap},look h i=some o->∃ o',look (renH θ h) (θ i)=some o'
 | [],h=>by simp[look]at h
 | (m,u) :: r,h=>by
  rw[look_cons]at h;simp only[renH,look_cons];split
  ·exact⟨_,rfl⟩
  ·rename_i e;split at h
   ·rename_i e';subst e';exact absurd rfl e
   ·exact look_ren_some h
structure HC where
 args:List SV
 heap:Heap
 val:SV
 wr:Heap
 news:Heap
 obl:Option Prop
inductive RdM where
 | fail
 | ret (hc:HC)
 | read (n:Nm) (k:Ob->RdM)
def RdM.run(rd:Nm->Option Ob):RdM->List Nm->Option (List Nm×HC)
 | .fail,_=>none
 | .ret hc,sg=>some (sg,hc)
 | .read n k,sg=>match rd n with
  | some o=>(k o).run rd (sg++[n])
  | none=>none
def RdM.All(Q:List (Nm×Ob)->HC->Prop):RdM->List (Nm×Ob)->Prop
 | .fail,_=>True
 | .ret hc,acc=>Q acc hc
 | .read n k,acc=>∀ o,(k o).All Q (acc++[(n,o)])
def fsts:List (Nm×Ob)->List Nm
 | []=>[]
 | (n,_) :: r=>n :: fsts r
theorem fsts_append:∀ a b,fsts (a++b)=fsts a++fsts b
 | [],b=>rfl
 | (n,o) :: r,b=>by simp[fsts,fsts_append r b]
theorem RdM.all_run{rd:Nm->Option Ob}{Q:List (Nm×Ob)->HC->Prop}:∀ {m:RdM} {acc:List (Nm×Ob)} {sg:List Nm} {hc:HC},m.All Q acc->(∀ p∈acc,rd p.1=some p.2)->m.run rd (fsts acc)=some (sg,hc)->
  ∃ acc',fsts acc'=sg/\(∀ p∈acc',rd p.1=some p.2)/\Q acc' hc
 | .fail,_,_,_,_,_,h=>by simp[RdM.run]at h
 | .ret hc',acc,sg,hc,hq,hacc,h=>by
  simp only[RdM.run,Option.some.injEq,Prod.mk.injEq]at h;obtain⟨rfl,rfl⟩:=h;exact⟨acc,rfl,hacc,hq⟩
 | .read n k,acc,sg,hc,hq,hacc,h=>by
  simp only[RdM.run]at h;split at h
  ·rename_i o ho;refine RdM.all_run (hq o) (acc:=acc++[(n,o)]) (λp hp=>?_) (by rw[fsts_append];exact h);rcases List.mem_append.1 hp with hp|hp
   ·exact hacc p hp
   ·simp only[List.mem_singleton]at hp;subst hp;exact ho
  ·cases h
theorem RdM.run_sg{rd:Nm->Option Ob}:∀ {m:RdM} {sg sg':List Nm} {hc:HC},m.run rd sg=some (sg',hc)->∀ n∈sg,n∈sg'
 | .fail,_,_,_,h=>by simp[RdM.run]at h
 | .ret hc',sg,sg',hc,h=>by
  simp only[RdM.run,Option.some.injEq,Prod.mk.injEq]at h;obtain⟨rfl,rfl⟩:=h;exact λn hn=>hn
 | .read n k,sg,sg',hc,h=>by
  simp only[RdM.run]at h;split at h
  ·exact λm hm=>RdM.run_sg h m (List.mem_append_left _ hm)
  ·cases h
theorem RdM.run_loc{rd rd':Nm->Option Ob}:∀ {m:RdM} {sg sg':List Nm} {hc:HC},m.run rd sg=some (sg',hc)->(∀ n∈sg',rd' n=rd n)->m.run rd' sg=some (sg',hc)
 | .fail,_,_,_,h,_=>by simp[RdM.run]at h
 | .ret hc',sg,sg',hc,h,_=>h
 | .read n k,sg,sg',hc,h,hr=>by
  simp only[RdM.run]at h ⊢;split at h
  ·rename_i o ho;have hn:n∈sg':=RdM.run_sg h n (by simp);rw[hr n hn,ho];exact RdM.run_loc h hr
  ·cases h
def theta(sg:List Nm)(nm:Nm):Nm->Nm:=λi=>match nth sg i with
 | some n=>n
 | none=>nm+(i-sg.length)
def conR(C:List SV->RdM):Con:=λargs rd nm=>match (C args).run rd []with
 | some (sg,hc)=>match distN sg with
  | true=>some ⟨some (hc.val.ren (theta sg nm)),renH (theta sg nm) hc.wr,renH (theta sg nm) hc.news,sg,hc.obl⟩
  | false=>none
 | none=>none
def preR(σ:Sig)(N:Nat):Nat->List (Nm×Ob)->Heap->Prop
 | _,[],[]=>True
 | i,(_,o) :: r,(j,o') :: r'=>Nat.beq i j=true/\o'.c.und N/\obR σ o o'/\preR σ N (i+1) r r'
 | _,_,_=>False
def keysLt(k:Nat)(H0:Heap):Heap->Bool
 | []=>true
 | (i,_) :: r=>(Nat.blt i k&&match look H0 i with
  | some o=>o.rw
  | none=>false)&&keysLt k H0 r
def keysGe(k:Nat):Heap->Bool
 | []=>true
 | (i,o) :: r=>(Nat.ble k i&&Nat.blt i (k+12)&&o.rw)&&keysGe k r
def rwIn(wr:Heap):Heap->Bool
 | []=>true
 | (i,o) :: r=>(match o.rw with
  | true=>match look wr i with
   | some _=>true
   | none=>false
  | false=>true)&&rwIn wr r
def sgSig(sg:List Nm):Sig:=λi=>nth sg i
def tauSig(k:Nat)(tau:List (Option Nm)):Sig:=λi=>match Nat.blt i k with
 | true=>some i
 | false=>match nth tau (i-k)with
  | some x=>x
  | none=>none
structure PostOk (k:Nat) (hc:HC) (S:St) (v:SV) (tau:List (Option Nm)):Prop where
 val:eqvR (tauSig k tau) v hc.val
 vu:hc.val.und (k+12)=true
 hp:heapR (tauSig k tau) S.H (k+12) (hc.wr++hc.news)
 dist:distN (images (tauSig k tau) (hc.wr++hc.news))=true
structure CallOkW (P:Program) (G:Ctx) (c:Code) (fn:Func) (args:List SV) (acc:List (Nm×Ob)) (hc:HC):Prop where
 args:eqvRL (sgSig (fsts acc)) args hc.args
 argsU:undL acc.length hc.args=true
 argsN:Nat.ble hc.args.length fn.ntmps=true
 pre:preR (sgSig (fsts acc)) acc.length 0 acc hc.heap
 wr:keysLt acc.length hc.heap hc.wr=true
 news:keysGe acc.length hc.news=true
 rw:rwIn hc.wr hc.heap=true
 run:Wp P acc.length c (init fn.ntmps hc.args hc.heap acc.length) (endK G.E.T fn.results.toList λS v=>∃ tau,PostOk acc.length hc S v tau)
structure CallOk (G:Ctx) (c:Code) (fn:Func) (args:List SV) (acc:List (Nm×Ob)) (hc:HC):Prop where
 args:eqvRL (sgSig (fsts acc)) args hc.args
 argsU:undL acc.length hc.args=true
 argsN:Nat.ble hc.args.length fn.ntmps=true
 pre:preR (sgSig (fsts acc)) acc.length 0 acc hc.heap
 wr:keysLt acc.length hc.heap hc.wr=true
 news:keysGe acc.length hc.news=true
 rw:rwIn hc.wr hc.heap=true
 run:runC G acc.length c (init fn.ntmps hc.args hc.heap acc.length) (endK G.E.T fn.results.toList λS v=>∃ tau,PostOk acc.length hc S v tau)
theorem fsts_len:∀ a,(fsts a).length=a.length
 | []=>rfl
 | (n,o) :: r=>by simp[fsts,fsts_len r]
theorem fsts_get:∀(a:List (Nm×Ob))(i:Nat),nth (fsts a) i=(a[i]?).map (·.1)
 | [],i=>by simp[fsts,nth]
 | (n,o) :: r,0=>by simp[fsts,nth]
 | (n,o) :: r,i+1=>by simp[fsts,nth,fsts_get r i]
theorem preR_heapR{σ:Sig}{N:Nat}{H:Heap}:∀ {i:Nat} {acc:List (Nm×Ob)} {h:Heap},preR σ N i acc h->(∀ p∈acc,look H p.1=some p.2)->(∀ j,j<acc.length->σ (i+j)=(acc[j]?).map (·.1))->i+acc.length<=N->heapR σ H N h
 | _,[],[],_,_,_,_=>trivial
 | _,[],_ :: _,h,_,_,_=>by simp[preR]at h
 | _,_ :: _,[],h,_,_,_=>by simp[preR]at h
 | i,(n,o) :: r,(j,o') :: r',h,hl,hs,hN=>by
  obtain⟨h1,h2,h3,h4⟩:=h;have hij:=Nat.eq_of_beq_eq_true h1;subst hij;have h0:=hs 0 (by simp);simp only[Nat.add_zero,List.getElem?_cons_zero,Option.map_some]at h0;simp only[heapR]
  refine⟨⟨?_,h2,?_⟩,preR_heapR h4 (λp hp=>hl p (by simp[hp])) (λj hj=>by
   have:=hs (j+1) (by simpa using hj)
   simpa [Nat.add_assoc,Nat.add_comm 1 j]using this) (by simp at hN;omega)⟩
  ·refine Nat.ble_eq_true_of_le ?_;simp at hN;omega
  ·rw[h0];have:=hl (n,o) (by simp);simp only at this;simp only[this];exact h3
theorem images_dist{sg:List Nm}(hd:distN sg=true){σ:Sig}{N:Nat}:∀ {i:Nat} {acc:List (Nm×Ob)} {h:Heap},preR σ N i acc h->(∀ j,j<acc.length->σ (i+j)=(acc[j]?).map (·.1))->images σ h=fsts acc
 | _,[],[],_,_=>rfl
 | _,[],_ :: _,h,_=>by simp[preR]at h
 | _,_ :: _,[],h,_=>by simp[preR]at h
 | i,(n,o) :: r,(k,o') :: r',h,hs=>by
  obtain⟨h1,h2,h3,h4⟩:=h;have hij:=Nat.eq_of_beq_eq_true h1;subst hij;have h0:=hs 0 (by simp);simp only[Nat.add_zero,List.getElem?_cons_zero,Option.map_some]at h0;simp only[images,h0,fsts]
  rw[images_dist hd h4 (λj hj=>by
   have:=hs (j+1) (by simpa using hj)
   simpa [Nat.add_assoc,Nat.add_comm 1 j]using this)]
theorem keysLt_spec{k:Nat}{H0:Heap}:∀ {h:Heap},keysLt k H0 h=true->∀(i:Nat) o,look h i=some o->i<k/\∃ o0,look H0 i=some o0/\o0.rw=true
 | [],_,i,o,h=>by simp[look]at h
 | (m,u) :: r,h,i,o,hi=>by
  simp only[keysLt,Bool.and_eq_true]at h;rw[look_cons]at hi;split at hi
  ·rename_i e;subst e;refine⟨blt_lt h.1.1,?_⟩;have h2:=h.1.2;split at h2
   ·rename_i o0 h0;exact⟨o0,h0,h2⟩
   ·cases h2
  ·exact keysLt_spec h.2 i o hi
theorem keysGe_spec{k:Nat}:∀ {h:Heap},keysGe k h=true->∀(i:Nat) o,look h i=some o->k<=i/\i<k+12/\o.rw=true
 | [],_,i,o,h=>by simp[look]at h
 | (m,u) :: r,h,i,o,hi=>by
  simp only[keysGe,Bool.and_eq_true]at h;rw[look_cons]at hi;split at hi
  ·rename_i e;subst e;simp only[Option.some.injEq]at hi;subst hi;exact⟨Nat.le_of_ble_eq_true h.1.1.1,blt_lt h.1.1.2,h.1.2⟩
  ·exact keysGe_spec h.2 i o hi
theorem rwIn_spec{wr:Heap}:∀ {h:Heap},rwIn wr h=true->∀ i o,look h i=some o->o.rw=true->∃ o',look wr i=some o'
 | [],_,i,o,h,_=>by simp[look]at h
 | (m,u) :: r,h,i,o,hi,hr=>by
  simp only[rwIn,Bool.and_eq_true]at h;rw[look_cons]at hi;split at hi
  ·rename_i e;subst e;simp only[Option.some.injEq]at hi;subst hi;have h1:=h.1;rw[hr]at h1;simp only at h1;split at h1
   ·rename_i o' ho';exact⟨o',ho'⟩
   ·cases h1
  ·exact rwIn_spec h.2 i o hi hr
theorem Ob.ren_sat{w:World}{ρ ρ2:Rho}{θ:Nm->Nm}{N:Nat}{o:Ob}{p:Option (Nat×Nat×Nat)}(h:OSat w ρ o p)(hb:o.c.bd (·< N))(hθ:∀ i,i<N->ρ2 (θ i)=ρ i):OSat w ρ2 (o.ren θ) p:=by
 obtain⟨h1,h2⟩:=Cont.ren_spec θ o.c
 have hd:∀ i,i<o.c.size->((o.c.ren θ).at i).den ρ2=(o.c.at i).den ρ:=λi hi=>by
  rw[h2 i hi,SV.ren_den];exact SV.den_congr (U:=(·< N)) hθ _ (hb i hi)
 cases p with
 | none =>
  have h0:o.c.size=0:=h;show (o.c.ren θ).size=0;omega
 | some q =>
  obtain⟨b,off,cp⟩:=q;refine⟨λi hi=>?_,λhr=>?_,λhr=>h.2.2 (by rw[<-h1];exact hr)⟩
  ·have hi':i<o.c.size:=by rw[<-h1];exact hi
   show _=some (((o.c.ren θ).at i).den ρ2);rw[hd i hi'];exact h.1 i hi'
  ·obtain⟨h3,arr,h4,h5⟩:=h.2.1 hr;refine⟨h3,arr,h4,?_⟩;show (o.c.ren θ).size<=_/\_;rw[h1];exact h5
theorem endK_mono{T:Tys}{rs:List ResultVar}{K K':St->SV->Prop}(h:∀ S v,K S v->K' S v){e:Xt}{S:St}(hk:endK T rs K e S):endK T rs K' e S:=by
 have key:retK T rs K S->retK T rs K' S:=by
  intro hr;unfold retK at hr ⊢;split at hr
  ·rename_i vs p hvs
   cases p with
   | none=>exact h _ _ hr
   | some p=>exact⟨hr.1,h _ _ hr.2⟩
  ·exact hr.elim
 cases e with
 | normal=>exact key hk
 | ret=>exact key hk
 | exit id=>exact hk.elim
def CallRes(W0:World)(Fr:Nat->Prop)(U:Nm->Prop)(H:Heap)(ρ:Rho)(nm:Nm)(θ:Nm->Nm)(hc:HC)(en:Ending)(w':World):Prop :=
 ∃ ρ2,(∀ n,U n->ρ2 n=ρ n)/\HSat W0 Fr (UU U nm) (renH θ hc.wr++(renH θ hc.news++H)) ρ2 w'/\
  ∃ v,some (hc.val.ren θ)=some v/\v.bd (UU U nm)/\en=.returned (v.den ρ2)
theorem call_rel {P:Program} {G:Ctx} (hG:CtxOk P G) {f:Nat} {fn:Func} {c:Code} (hf:P.funcs[f]? = some fn) (hb:fn.body=some c) (hnm:(fn.name == "runtime.NumGoroutine")=false)
  {W0:World} {Fr:Nat->Prop} {U:Nm->Prop} {H:Heap} {ρ:Rho} {w:World} {nm:Nm} {args:List SV} (hH:HSat W0 Fr U H ρ w) (hn:∀ j,j<12->¬U (nm+j))
  {acc:List (Nm×Ob)} (hlook:∀ p∈acc,look H p.1=some p.2) (hd:distN (fsts acc)=true) {pargs:List SV} {pheap:Heap}
  (hcargs:eqvRL (sgSig (fsts acc)) args pargs) (hargsU:undL acc.length pargs=true) (hargsN:Nat.ble pargs.length fn.ntmps=true) (hpre:preR (sgSig (fsts acc)) acc.length 0 acc pheap)
  {I:Type} {post:I->Prop} {out:I->HC}
  (hkeys:∀ i,post i->keysLt acc.length pheap (out i).wr=true/\keysGe acc.length (out i).news=true/\rwIn (out i).wr pheap=true)
  (hrun:Wp P acc.length c (init fn.ntmps pargs pheap acc.length) (endK G.E.T fn.results.toList λS v=>∃ i,post i/\∃ tau,PostOk acc.length (out i) S v tau)) :
  CallsV P f (denL ρ args).toArray w λen w'=>∃ i,post i/\CallRes W0 Fr U H ρ nm (theta (fsts acc) nm) (out i) en w':=by
 have hσ:∀ j,j<acc.length->sgSig (fsts acc) (0+j)=(acc[j]?).map (·.1):=λj _=>by rw[Nat.zero_add];exact fsts_get acc j
 have hhp:heapR (sgSig (fsts acc)) H acc.length pheap:=preR_heapR hpre hlook hσ (by omega);have hs0:=hH.other hhp (by rw[images_dist hd hpre hσ];exact hd)
 let ρc:Rho:=ρ.under (sgSig (fsts acc))
 let Frc:Nat->Prop:=λb=>b<w.heap.size/\(∀ i o p,look pheap i=some o->o.rw=true->ρc i=some p->p.1≠b)/\∀ i o ts D sz F,look pheap i=some o->o.rw=true->o.c=.raw ts D sz F->¬D b
 have hs1:HSat w Frc (·< acc.length) pheap ρc w :=
  {hs0 with
   os:=rfl,tape:=rfl,output:=rfl,size:=Nat.le_refl _
   frlt:=λb hb=>hb.1
   frame:=λ_ _=>rfl
   free:=λn o p hn hr hp hF=>hF.2.1 n o p hn hr hp rfl
   rawd:=λn o ts D sz F hn hr hc =>
    have k:=hs0.rawd n o ts D sz F hn hr hc
    ⟨k.sat,λb hb hF=>hF.2.2 n o ts D sz F hn hr hc hb,k.sep,k.sepr⟩}
 have hargs:denL ρ args=denL ρc pargs:=eqvRL_den ρ _ _ _ hcargs;refine .inl ⟨⟨fn,hf,hnm,by rw[hb];rfl⟩,?_⟩;refine calls_of_wp hf hb ?_;rw[hargs];refine hrun w Frc ρc ρc _ w _ (sat_init hs1 (undL_bd _ hargsU) (Nat.le_of_ble_eq_true hargsN)) (Nat.le_refl _) (λ_ _=>rfl) ?_;intro e S' ρ' a' w' hK hS hN hρ
 have fin:retK G.E.T fn.results.toList (λS v=>∃ i,post i/\∃ tau,PostOk acc.length (out i) S v tau) S'->a'.defers=[]/\∃ u,(results fn a'.tmps).run P w'=.ok u w'/\
   (∃ i,post i/\CallRes W0 Fr U H ρ nm (theta (fsts acc) nm) (out i) (.returned u) w'):=by
  intro hr;unfold retK at hr;split at hr
  case h_2=>exact hr.elim
  rename_i vs q hvs;obtain⟨hq,ix,hix,tau,hpost⟩:=okK_iff hr;obtain⟨hkw,hkn,hkr⟩:=hkeys ix hix;obtain⟨h5,h6⟩:=resS_sound hG.E.T hS hvs hq;refine⟨hS.s.nd,_,h5,ix,hix,?_⟩;have hp:=hS.h.other hpost.hp hpost.dist
  let ρp:Rho:=ρ'.under (tauSig acc.length tau)
  have hpk:∀ i:Nat,i<acc.length->ρp i=ρc i:=by
   intro i hi;show (match tauSig acc.length tau i with|some m=>ρ' m|none=>none)=_
   have:tauSig acc.length tau i=some i:=by
    unfold tauSig;rw[show Nat.blt i acc.length=true from Nat.ble_eq_true_of_le hi]
   rw[this];exact hρ i hi
  classical
  let ρ2:Rho:=λn=>if U n then ρ n else if nm<=n/\n<nm+12 then ρp (acc.length+(n-nm))else ρ n
  have hρU:∀ n,U n->ρ2 n=ρ n:=λn hU=>if_pos hU
  let θ:=theta (fsts acc) nm
  have hθlo:∀ i:Nat,i<acc.length->∃ n o,acc[i]? = some (n,o)/\θ i=n/\look H n=some o:=by
   intro i hi;have hg:=fsts_get acc i;have he:acc[i]? = some acc[i]:=List.getElem?_eq_getElem hi;rw[he]at hg;refine⟨acc[i].1,acc[i].2,he,?_,hlook acc[i] (List.getElem_mem hi)⟩;show theta (fsts acc) nm i=_;unfold theta;rw[hg];rfl
  have hθhi:∀ i:Nat,acc.length<=i->θ i=nm+(i-acc.length):=by
   intro i hi;have hg:=fsts_get acc i;rw[List.getElem?_eq_none hi]at hg;show theta (fsts acc) nm i=_;unfold theta;rw[hg];simp[fsts_len]
  have hθ:∀ i:Nat,i<acc.length+12->ρ2 (θ i)=ρp i:=by
   intro i hi;by_cases hk:i<acc.length
   ·obtain⟨n,o,h1,h2,h3⟩:=hθlo i hk;rw[h2,hρU n (hH.used n o h3),hpk i hk];show ρ n=(match sgSig (fsts acc) i with|some m=>ρ m|none=>none)
    have:sgSig (fsts acc) i=some n:=by
     show nth (fsts acc) i=_;rw[fsts_get,h1];rfl
    rw[this]
   ·rw[hθhi i (by omega)];have hnU:¬U (nm+(i-acc.length)):=hn (i-acc.length) (show ((i-acc.length:Nat)<12) by omega);show (if U _ then _ else if _ then _ else _)=_;rw[if_neg hnU,if_pos ⟨Nat.le_add_right _ _,Nat.add_lt_add_left (show i-acc.length<12 by omega) nm⟩];congr 1;show acc.length+(nm+(i-acc.length)-nm)=i;omega
  have hθU:∀ i:Nat,i<acc.length+12->UU U nm (θ i):=by
   intro i hi;by_cases hk:i<acc.length
   ·obtain⟨n,o,h1,h2,h3⟩:=hθlo i hk;rw[h2];exact .inl (hH.used n o h3)
   ·rw[hθhi i (by omega)];exact .inr ⟨Nat.le_add_right _ _,Nat.add_lt_add_left (show i-acc.length<12 by omega) nm⟩
  have keyLt:∀ (i:Nat) o,look ((out ix).wr++(out ix).news) i=some o->i<acc.length+12:=by
   intro i o hi;exact hp.used i o hi
  have ent:∀ n o,look (renH θ (out ix).wr++(renH θ (out ix).news++H)) n=some o->
    (∃ i o0,look ((out ix).wr++(out ix).news) i=some o0/\θ i=n/\o=o0.ren θ)∨(look H n=some o/\look (renH θ (out ix).wr) n=none):=by
   intro n o hno;rw[look_append]at hno;split at hno
   ·rename_i o1 h1;simp only[Option.some.injEq]at hno;subst hno;obtain⟨i,o0,h2,h3,h4⟩:=look_ren h1;exact .inl ⟨i,o0,by rw[look_append,h2],h3,h4⟩
   ·rename_i h1;rw[look_append]at hno;split at hno
    ·rename_i o1 h2;simp only[Option.some.injEq]at hno;subst hno;obtain⟨i,o0,h3,h4,h5⟩:=look_ren h2;refine .inl ⟨i,o0,?_,h4,h5⟩;rw[look_append]
     cases hw:look (out ix).wr i with
     | none=>exact h3
     | some o2 =>
      have ha:=(keysLt_spec hkw i o2 hw).1;have hb':=(keysGe_spec hkn i o0 h3).1;omega
    ·exact .inr ⟨hno,h1⟩
  have orig:∀ i o p,look pheap i=some o->o.rw=true->ρc i=some p->∃ n o1,look H n=some o1/\o1.rw=true/\ρ n=some p/\θ i=n:=by
   intro i o p hi hr hpi;obtain⟨h1,_,h2⟩:=heapR_spec hhp i o hi;rcases h2 with⟨m,o1,h3,h4,h5⟩|⟨h3,_⟩
   ·refine⟨m,o1,h4,((obR_spec h5).2 hr).1,?_,?_⟩
    ·have:ρc i=ρ m:=by
      show (match sgSig (fsts acc) i with|some m=>ρ m|none=>none)=_;rw[h3]
     rw[<-this];exact hpi
    ·show theta (fsts acc) nm i=m;unfold theta;have:nth (fsts acc) i=some m:=h3;rw[this]
   ·have:ρc i=none:=by
     show (match sgSig (fsts acc) i with|some m=>ρ m|none=>none)=_;rw[h3]
    rw[this]at hpi;cases hpi
  have origRaw:∀ i o ts D sz F,look pheap i=some o->o.rw=true->o.c=.raw ts D sz F->(∃ m o1,look H m=some o1/\o1.rw=true/\o1.c=.raw ts D sz F/\θ i=m)∨∀ b,¬D b:=by
   intro i o ts D sz F hi hr hc;obtain⟨h1,_,h2⟩:=heapR_spec hhp i o hi;rcases h2 with⟨m,o1,h3,h4,h5⟩|⟨h3,h4⟩
   ·obtain⟨h6,h7⟩:=obR_spec h5;rw[hc]at h6;refine .inl ⟨m,o1,h4,(h7 hr).1,contR_raw h6,?_⟩;show theta (fsts acc) nm i=m;unfold theta;have:nth (fsts acc) i=some m:=h3;rw[this]
   ·rw[hc]at h4;exact .inr h4
  have notWr:∀ i o n,look pheap i=some o->o.rw=true->look (renH θ (out ix).wr) n=none->θ i≠n:=by
   intro i o n hi hr hnw e;obtain⟨o2,ho2⟩:=rwIn_spec hkr i o hi hr;obtain⟨o3,ho3⟩:=look_ren_some (θ:=θ) ho2;rw[e,hnw]at ho3;cases ho3
  have oldFr:∀ n o p,look H n=some o->look (renH θ (out ix).wr) n=none->(o.rw=true∨0<o.c.size)->ρ n=some p->Frc p.1:=by
   intro n o p hno hnw hor hpn;have hob:=hH.obj n o hno;rw[hpn]at hob;refine⟨?_,λi o' p' hi hr hpi e=>?_,λi o' ts D sz F hi hr hc hD=>?_⟩
   ·rcases hor with hor|hor
    ·exact OSat.lt (b:=p.1) (off:=p.2.1) (cp:=p.2.2) hob hor
    ·exact lt_of_cell (hob.1 0 hor)
   ·obtain⟨m,o1,h1,h2,h3,h4⟩:=orig i o' p' hi hr hpi;have hne:m≠n:=λe'=>notWr i o' n hi hr hnw (h4.trans e')
    exact hH.inj m n o1 o p' p h1 hno hne h2 hor h3 hpn e
   ·rcases origRaw i o' ts D sz F hi hr hc with⟨m,o1,h1,h2,h3,h4⟩|h1
    ·have hne:n≠m:=λe'=>notWr i o' n hi hr hnw (h4.trans e'.symm)
     exact(hH.rawd m o1 ts D sz F h1 h2 h3).sep n o p hno hne hor hpn hD
    ·exact h1 _ hD
  have oldRaw:∀ n o ts D sz F,look H n=some o->look (renH θ (out ix).wr) n=none->o.rw=true->o.c=.raw ts D sz F->∀ b,D b->Frc b:=by
   intro n o ts D sz F hno hnw hrn hcn b hDb;have k:=hH.rawd n o ts D sz F hno hrn hcn;refine⟨(k.sat b hDb).lt,λi o' p' hi hr hpi e=>?_,λi o' ts' D' sz' F' hi hr hc hD=>?_⟩
   ·obtain⟨m,o1,h1,h2,h3,h4⟩:=orig i o' p' hi hr hpi;have hne:m≠n:=λe'=>notWr i o' n hi hr hnw (h4.trans e')
    exact k.sep m o1 p' h1 hne (.inl h2) h3 (e▸hDb)
   ·rcases origRaw i o' ts' D' sz' F' hi hr hc with⟨m,o1,h1,h2,h3,h4⟩|h1
    ·have hne:m≠n:=λe'=>notWr i o' n hi hr hnw (h4.trans e')
     exact k.sepr m o1 ts' D' sz' F' h1 hne h2 h3 b hDb hD
    ·exact h1 _ hD
  have frSub:∀ b,Fr b->Frc b:=by
   intro b hF;refine⟨Nat.lt_of_lt_of_le (hH.frlt b hF) hH.size,λi o p hi hr hpi e=>?_,λi o ts D sz F hi hr hc hD=>?_⟩
   ·obtain⟨m,o1,h1,h2,h3,_⟩:=orig i o p hi hr hpi;exact hH.free m o1 p h1 h2 h3 (e▸hF)
   ·rcases origRaw i o ts D sz F hi hr hc with⟨m,o1,h1,h2,h3,_⟩|h1
    ·exact(hH.rawd m o1 ts D sz F h1 h2 h3).free b hD hF
    ·exact h1 _ hD
  have newFr:∀ i o p,look ((out ix).wr++(out ix).news) i=some o->ρp i=some p->¬Frc p.1:=by
   intro i o p hi hpi hF;have hi':=hi;rw[look_append]at hi';split at hi'
   ·rename_i o1 h1;obtain⟨h2,o0,h3,h4⟩:=keysLt_spec hkw i o1 h1;rw[hpk i h2]at hpi;exact hF.2.1 i o0 p h3 h4 hpi rfl
   ·obtain⟨h2,h3,h4⟩:=keysGe_spec hkn i o hi';exact hp.free i o p hi h4 hpi hF
  refine⟨ρ2,hρU,?_,_,rfl,SV.ren_bd hθU _ (SV.und_bd _ hpost.vu),?_⟩
  ·refine {
    os:=hS.h.os.trans hH.os,tape:=hS.h.tape.trans hH.tape,output:=hS.h.output.trans hH.output
    size:=Nat.le_trans hH.size hS.h.size
    frlt:=hH.frlt
    frame:=λb hF=>(hS.h.frame b (frSub b hF)).trans (hH.frame b hF)
    used:=λn o hno=>?_
    bd:=λn o hno=>?_
    obj:=λn o hno=>?_
    inj:=λn1 n2 o1 o2 p q h1 h2 hne hr hr2 hp1 hq=>?_
    free:=λn o p hno hr hpn=>?_
    rawd:=λn o ts D sz F hno hr hcn=>?_}
   rotate_right
   ·rcases ent n o hno with⟨i,o0,h1,rfl,rfl⟩|⟨h1,h2⟩
    ·have k:=hp.rawd i o0 ts D sz F h1 hr (Cont.ren_raw hcn);refine⟨k.sat,λb hb hF=>k.free b hb (frSub b hF),λm o' q hm hne hr2 hq=>?_,λm o' ts' D' sz' F' hm hne hr2 hc2 b hb hb2=>?_⟩
     ·rcases ent m o' hm with⟨i2,o2,h3,rfl,rfl⟩|⟨h3,h4⟩
      ·rw[hθ i2 (keyLt i2 o2 h3)]at hq;refine k.sep i2 o2 q h3 (λe=>hne (by rw[e])) (hr2.imp id λhh=>?_) hq;have:=(Cont.ren_spec θ o2.c).1;have h0:0<(o2.c.ren θ).size:=hh;omega
      ·rw[hρU m (hH.used m o' h3)]at hq;exact λhD=>k.free _ hD (oldFr m o' q h3 h4 hr2 hq)
     ·rcases ent m o' hm with⟨i2,o2,h3,rfl,rfl⟩|⟨h3,h4⟩
      ·exact k.sepr i2 o2 ts' D' sz' F' h3 (λe=>hne (by rw[e])) hr2 (Cont.ren_raw hc2) b hb hb2
      ·exact k.free b hb (oldRaw m o' ts' D' sz' F' h3 h4 hr2 hc2 b hb2)
    ·have k:=hH.rawd n o ts D sz F h1 hr hcn;refine⟨λb hb=>(k.sat b hb).congr λ_=>hS.h.frame b (oldRaw n o ts D sz F h1 h2 hr hcn b hb),k.free,λm o' q hm hne hr2 hq hD=>?_,λm o' ts' D' sz' F' hm hne hr2 hc2 b hb hb2=>?_⟩
     ·rcases ent m o' hm with⟨i2,o2,h3,rfl,rfl⟩|⟨h3,h4⟩
      ·rw[hθ i2 (keyLt i2 o2 h3)]at hq;exact newFr i2 o2 q h3 hq (oldRaw n o ts D sz F h1 h2 hr hcn _ hD)
      ·rw[hρU m (hH.used m o' h3)]at hq;exact k.sep m o' q h3 hne hr2 hq hD
     ·rcases ent m o' hm with⟨i2,o2,h3,rfl,rfl⟩|⟨h3,h4⟩
      ·exact(hp.rawd i2 o2 ts' D' sz' F' h3 hr2 (Cont.ren_raw hc2)).free b hb2 (oldRaw n o ts D sz F h1 h2 hr hcn b hb)
      ·exact k.sepr m o' ts' D' sz' F' h3 hne hr2 hc2 b hb hb2
   ·rcases ent n o hno with⟨i,o0,h1,rfl,h3⟩|⟨h1,_⟩
    ·exact hθU i (keyLt i o0 h1)
    ·exact .inl (hH.used n o h1)
   ·rcases ent n o hno with⟨i,o0,h1,rfl,rfl⟩|⟨h1,_⟩
    ·intro j hj;obtain⟨hsz,hat⟩:=Cont.ren_spec θ o0.c;have hj':j<o0.c.size:=by rw[<-hsz];exact hj
     show ((o0.c.ren θ).at j).bd _;rw[hat j hj'];exact SV.ren_bd hθU _ (hp.bd i o0 h1 j hj')
    ·exact Cont.bd_mono UU_of (hH.bd n o h1)
   ·rcases ent n o hno with⟨i,o0,h1,rfl,rfl⟩|⟨h1,h2⟩
    ·rw[hθ i (keyLt i o0 h1)];exact Ob.ren_sat (hp.obj i o0 h1) (hp.bd i o0 h1) hθ
    ·rw[hρU n (hH.used n o h1)];refine(hH.obj n o h1).congr (λb off cp hpn hor _=>?_) (λj hj=>SV.den_congr hρU _ (hH.bd n o h1 j hj));exact hS.h.frame b (oldFr n o (b,off,cp) h1 h2 hor hpn)
   ·rcases ent n1 o1 h1 with⟨i1,o3,h3,rfl,rfl⟩|⟨h3,h4⟩
    ·rw[hθ i1 (keyLt i1 o3 h3)]at hp1;rcases ent n2 o2 h2 with⟨i2,o4,h5,rfl,rfl⟩|⟨h5,h6⟩
     ·rw[hθ i2 (keyLt i2 o4 h5)]at hq;refine hp.inj i1 i2 o3 o4 p q h3 h5 (λe=>hne (by rw[e])) hr ?_ hp1 hq;rcases hr2 with hr2|hr2
      ·exact .inl hr2
      ·refine .inr ?_;have:=(Cont.ren_spec θ o4.c).1;have h0:0<(o4.c.ren θ).size:=hr2;omega
     ·rw[hρU n2 (hH.used n2 o2 h5)]at hq;intro e;exact newFr i1 o3 p h3 hp1 (e▸oldFr n2 o2 q h5 h6 hr2 hq)
    ·rw[hρU n1 (hH.used n1 o1 h3)]at hp1;rcases ent n2 o2 h2 with⟨i2,o4,h5,rfl,rfl⟩|⟨h5,h6⟩
     ·rw[hθ i2 (keyLt i2 o4 h5)]at hq;intro e;exact newFr i2 o4 q h5 hq (e▸oldFr n1 o1 p h3 h4 (.inl hr) hp1)
     ·rw[hρU n2 (hH.used n2 o2 h5)]at hq;exact hH.inj n1 n2 o1 o2 p q h3 h5 hne hr hr2 hp1 hq
   ·rcases ent n o hno with⟨i,o0,h1,rfl,rfl⟩|⟨h1,_⟩
    ·rw[hθ i (keyLt i o0 h1)]at hpn;exact λhF=>newFr i o0 p h1 hpn (frSub _ hF)
    ·rw[hρU n (hH.used n o h1)]at hpn;exact hH.free n o p h1 hr hpn
  ·congr 1;rw[eqvR_den ρ' _ _ _ hpost.val,SV.ren_den];exact(SV.den_congr (U:=(·< acc.length+12)) hθ _ (SV.und_bd _ hpost.vu)).symm
 cases e with
 | normal=>exact fin hK
 | ret=>exact fin hK
 | exit id=>exact hK.elim
theorem conR_okW {P:Program} {G:Ctx} (hG:CtxOk P G) {f:Nat} {fn:Func} {c:Code} (hf:P.funcs[f]? = some fn) (hb:fn.body=some c) (hnm:(fn.name == "runtime.NumGoroutine")=false) {C:List SV->RdM}
  (h:∀ args,(C args).All (λacc hc=>okP hc.obl->CallOkW P G c fn args acc hc) []):ConOk P f (conR C) where
 loc:=by
  intro args rd rd' nm e hc hr;unfold conR at *;split at hc
  ·rename_i sg hc0 hrun;split at hc
   ·rename_i hd;have he:=hc;simp only[Option.some.injEq]at he;subst he;simp only[RdM.run_loc hrun hr,hd]
   ·cases hc
  ·cases hc
 calls:=by
  intro W0 Fr U H ρ w nm args e hH hbd hn hc ho;unfold conR at hc;split at hc
  case h_2=>cases hc
  rename_i sg hc0 hrun;split at hc
  case h_2=>cases hc
  rename_i hd;simp only[Option.some.injEq]at hc;subst hc;obtain⟨acc,hacc,hlook,hQ⟩:=RdM.all_run (rd:=look H) (h args) (acc:=[]) (by simp) hrun;have hcall:=hQ ho;subst hacc
  exact(call_rel hG hf hb hnm hH hn hlook hd hcall.args hcall.argsU hcall.argsN hcall.pre (I:=Unit) (post:=λ_=>True) (out:=λ_=>hc0)
   (λ_ _=>⟨hcall.wr,hcall.news,hcall.rw⟩) (Wp.mono hcall.run λ_ _ hk=>endK_mono (λ_ _ hp=>⟨(),trivial,hp⟩) hk)).mono λ_ _ ⟨_,_,h⟩=>h
theorem RdM.All.imp{Q Q':List (Nm×Ob)->HC->Prop}(hq:∀ acc hc,Q acc hc->Q' acc hc):∀ {m:RdM} {acc:List (Nm×Ob)},m.All Q acc->m.All Q' acc
 | .fail,_,_=>trivial
 | .ret _,_,h=>hq _ _ h
 | .read _ _,_,h=>λo=>RdM.All.imp hq (h o)
theorem conR_ok {P:Program} {G:Ctx} (hG:CtxOk P G) {f:Nat} {fn:Func} {c:Code} (hf:P.funcs[f]? = some fn) (hb:fn.body=some c) (hnm:(fn.name == "runtime.NumGoroutine")=false) {C:List SV->RdM}
  (h:∀ args,(C args).All (λacc hc=>okP hc.obl->CallOk G c fn args acc hc) []):ConOk P f (conR C) :=
 conR_okW hG hf hb hnm λargs=>(h args).imp λ_ _ hc ho =>
  let hk:=hc ho
  ⟨hk.args,hk.argsU,hk.argsN,hk.pre,hk.wr,hk.news,hk.rw,Wp.run hG hk.run⟩
end Go.Sx

namespace Go.Sx
open Go.RowKit
def hasKey:SigL->Nm->Bool
 | [],_=>false
 | (m,_) :: r,n=>Nat.beq m n||hasKey r n
def bindN(N0:Nat)(n':Nm)(m:Option Nm)(s:SigL):SigL :=
 match Nat.ble N0 n' with
 | true=>match hasKey s n' with
  | true=>s
  | false=>(n',m) :: s
 | false=>s
mutual
def unbV(N0:Nat):SV->SigL->SigL
 | .ptr n' _,s=>bindN N0 n' none s
 | .slc n' _ _ _,s=>bindN N0 n' none s
 | .slcc n' _,s=>bindN N0 n' none s
 | .pb n' _ _,s=>bindN N0 n' none s
 | .dv n' _,s=>bindN N0 n' none s
 | .slb n' _ _ _ _,s=>bindN N0 n' none s
 | .agg b,s=>unbL N0 b s
 | .tup b,s=>unbL N0 b s
 | .ifc _ v',s=>unbV N0 v' s
 | .opt _ _ v',s=>unbV N0 v' s
 | .fn _ a' c',s=>unbL N0 c' (unbL N0 a' s)
 | _,s=>s
def unbL(N0:Nat):List SV->SigL->SigL
 | y :: ys,s=>unbL N0 ys (unbV N0 y s)
 | [],s=>s
end
mutual
def bindV(N0:Nat):SV->SV->SigL->SigL
 | .ptr n _, .ptr n' _,s=>bindN N0 n' (some n) s
 | .slc n _ _ _, .slc n' _ _ _,s=>bindN N0 n' (some n) s
 | .slcc n _, .slcc n' _,s=>bindN N0 n' (some n) s
 | .nils, .slcc n' _,s=>bindN N0 n' none s
 | .pb n _ _, .pb n' _ _,s=>bindN N0 n' (some n) s
 | .dv n _, .dv n' _,s=>bindN N0 n' (some n) s
 | .slb n _ _ _ _, .slb n' _ _ _ _,s=>bindN N0 n' (some n) s
 | .agg a, .agg b,s=>bindL N0 a b s
 | .tup a, .tup b,s=>bindL N0 a b s
 | .ifc _ v, .ifc _ v',s=>bindV N0 v v' s
 | .fn _ a c, .fn _ a' c',s=>bindL N0 c c' (bindL N0 a a' s)
 | .nili, .ifc _ v',s=>unbV N0 v' s
 | .nili, .opt _ _ v',s=>unbV N0 v' s
 | .ifc _ v, .opt _ _ v',s=>bindV N0 v v' s
 | .opt _ _ v, .ifc _ v',s=>bindV N0 v v' s
 | .opt _ _ v, .opt _ _ v',s=>bindV N0 v v' s
 | .nilp, .ptr n' _,s=>bindN N0 n' none s
 | _,_,s=>s
def bindL(N0:Nat):List SV->List SV->SigL->SigL
 | x :: xs,y :: ys,s=>bindL N0 xs ys (bindV N0 x y s)
 | _,_,s=>s
end
def bindSl(N0:Nat)(sl:Slots):Slots->SigL->SigL
 | [],s=>s
 | (t,v') :: r,s=>bindSl N0 sl r (match slot sl t with
  | some v=>bindV N0 v v' s
  | none=>s)
def bindG(N0:Nat)(f:Nat->SV)(i:Nat):List SV->SigL->SigL
 | y :: ys,s=>bindG N0 f (i+1) ys (bindV N0 (f i) y s)
 | [],s=>s
def bindPre(N0:Nat):List SV->List SV->SigL->SigL
 | x :: xs,y :: ys,s=>bindPre N0 xs ys (bindV N0 x y s)
 | _,ys,s=>unbL N0 ys s
def bindC(N0:Nat)(c c':Cont)(s:SigL):SigL :=
 match c,c' with
 | .cells l, .cells l'=>bindL N0 l l' s
 | .cells l, .upto _ l'=>bindPre N0 l l' s
 | .upto _ l, .upto _ l'=>bindPre N0 l l' s
 | .gen _ f, .upto _ l'=>bindG N0 f 0 l' s
 | .gen _ f, .cells l'=>bindG N0 f 0 l' s
 | _,_=>s
def keyAt:SigL->Nm->Option (Option Nm)
 | [],_=>none
 | (m,x) :: r,n=>match Nat.beq m n with
  | true=>some x
  | false=>keyAt r n
def bindH(N0:Nat)(H:Heap):Heap->SigL->SigL
 | [],s=>s
 | (n',o') :: r,s=>bindH N0 H r (match (match Nat.ble N0 n' with|true=>keyAt s n'|false=>some (some n'))with
  | some (some m)=>match look H m with
   | some o=>bindC N0 o.c o'.c s
   | none=>s
  | some none=>match o'.c with
   | .upto _ l'=>unbL N0 l' s
   | .cells l'=>unbL N0 l' s
   | _=>s
  | _=>s)
def autoSig(N0:Nat)(S S':St):SigL:=bindH N0 S.H S'.H (bindH N0 S.H S'.H (bindH N0 S.H S'.H (bindSl N0 S.sl S'.sl [])))
theorem Refines.auto{N0:Nat}{S S':St}(h:FitsOk N0 (autoSig N0 S S') S S'):Refines N0 S S':=Refines.by_names _ h
def tauAt(s:SigL)(n:Nm):Option Nm:=match keyAt s n with
 | some x=>x
 | none=>none
def autoTau(k:Nat)(hc:HC)(S:St)(v:SV):List (Option Nm) :=
 let s:=bindH k S.H (hc.wr++hc.news) (bindH k S.H (hc.wr++hc.news) (bindH k S.H (hc.wr++hc.news) (bindV k v hc.val [])))
 [tauAt s k,tauAt s (k+1),tauAt s (k+2),tauAt s (k+3),tauAt s (k+4),tauAt s (k+5),tauAt s (k+6),tauAt s (k+7),tauAt s (k+8),tauAt s (k+9),tauAt s (k+10),tauAt s (k+11)]
theorem sameN_self{n:Nm}:sameN (some n) n:=by simp[sameN]
mutual
theorem SV.bd_all:∀ v:SV,v.bd λ_=>True
 | .ptr _ _=>trivial
 | .slc _ _ _ _=>trivial
 | .slcc _ _=>trivial
 | .pb _ _ _ | .dv _ _ | .slb _ _ _ _ _=>trivial
 | .agg cs=>bdL_all cs
 | .tup cs=>bdL_all cs
 | .ifc _ v=>SV.bd_all v
 | .opt _ _ v=>SV.bd_all v
 | .fn _ a c=>⟨bdL_all a,bdL_all c⟩
 | .tt | .ff | .bool _ | .int _ _ | .flt _ _ | .str _ | .nilp | .nils | .nili | .nilf | .sla _ _ _=>by simp[SV.bd]
theorem bdL_all:∀ l:List SV,bdL (λ_=>True) l
 | []=>trivial
 | v :: r=>⟨SV.bd_all v,bdL_all r⟩
end
def codeOf(fn:Func):Code:=match fn.body with
 | some c=>c
 | none=>.skip
theorem wrap64{n:Int}(h1 : -9223372036854775808<=n)(h2:n<9223372036854775808):IntKind.i64.wrap n=n:=by
 show (if (true&&decide (n % (18446744073709551616:Int)>=9223372036854775808))=true then n % (18446744073709551616:Int)-18446744073709551616 else n % (18446744073709551616:Int))=n;rw[Bool.true_and];split
 ·rename_i h;have h:=of_decide_eq_true h;omega
 ·rename_i h;have h:¬_:=λh'=>h (decide_eq_true h');omega
theorem wrapu64{n:Int}(h1:0<=n)(h2:n<18446744073709551616):IntKind.u64.wrap n=n:=by
 show (if (false&&decide (n % (18446744073709551616:Int)>=9223372036854775808))=true then n % (18446744073709551616:Int)-18446744073709551616 else n % (18446744073709551616:Int))=n;rw[Bool.false_and,if_neg (by decide)];omega
def intsFrom(k:IntKind):Cont->Option (Nat×(Nat->Int))
 | .cells l=>match intsOf k l with
  | some xs=>some (xs.length,λi=>xs.getD i 0)
  | none=>none
 | .ints k' n g=>match kEq k' k with
  | true=>some (n,g)
  | false=>none
 | _=>none
def fltsFrom(k:FloatKind):Cont->Option (Nat×(Nat->Nat))
 | .cells l=>match fltsOf k l with
  | some xs=>some (xs.length,λi=>xs.getD i 0)
  | none=>none
 | .flts k' n g=>match fkEq k' k with
  | true=>some (n,g)
  | false=>none
 | _=>none
theorem intsFrom_spec{k:IntKind}{c:Cont}{n:Nat}{g:Nat->Int}(h:intsFrom k c=some (n,g)):c.size=n/\∀ i,i<n->c.at i=.int k (g i):=by
 unfold intsFrom at h;split at h
 ·split at h
  ·rename_i l xs hxs;simp only[Option.some.injEq,Prod.mk.injEq]at h;obtain⟨rfl,rfl⟩:=h;have:=intsOf_spec hxs;subst this;refine⟨by simp[Cont.size],λi hi=>?_⟩;simp[Cont.at,getL_eq,hi]
  ·cases h
 ·split at h
  ·rename_i hk;have:=kEq_eq hk;subst this;simp only[Option.some.injEq,Prod.mk.injEq]at h;obtain⟨rfl,rfl⟩:=h;exact⟨rfl,λi _=>rfl⟩
  ·cases h
 ·cases h
theorem fltsFrom_spec{k:FloatKind}{c:Cont}{n:Nat}{g:Nat->Nat}(h:fltsFrom k c=some (n,g)):c.size=n/\∀ i,i<n->c.at i=.flt k (g i):=by
 unfold fltsFrom at h;split at h
 ·split at h
  ·rename_i l xs hxs;simp only[Option.some.injEq,Prod.mk.injEq]at h;obtain⟨rfl,rfl⟩:=h;have:=fltsOf_spec hxs;subst this;refine⟨by simp[Cont.size],λi hi=>?_⟩;simp[Cont.at,getL_eq,hi]
  ·cases h
 ·split at h
  ·rename_i hk;have:=fkEq_eq hk;subst this;simp only[Option.some.injEq,Prod.mk.injEq]at h;obtain⟨rfl,rfl⟩:=h;exact⟨rfl,λi _=>rfl⟩
  ·cases h
 ·cases h
theorem kEq_self(k:IntKind):kEq k k=true:=by cases k <;> rfl
theorem fkEq_self(k:FloatKind):fkEq k k=true:=by cases k <;> rfl
theorem contR_ints{σ:Sig}{k:IntKind}{c:Cont}{n:Nat}{g:Nat->Int}(h:intsFrom k c=some (n,g)):contR σ c (.ints k n g)/\contR σ (.ints k n g) c/\∀ N,c.und N:=by
 obtain⟨h1,h2⟩:=intsFrom_spec h
 have hr:∀ i,i<n->eqvR σ (c.at i) ((Cont.ints k n g).at i)/\eqvR σ ((Cont.ints k n g).at i) (c.at i):=λi hi=>by
  rw[h2 i hi];simp[Cont.at,eqvR,kEq_self]
 cases c with
 | cells l =>
  refine⟨?_,⟨by rw[h1];exact Nat.le_refl _,λi hi=>(hr i (by rw[<-h1];exact hi)).2⟩,λN=>?_⟩
  ·unfold intsFrom at h;simp only at h;split at h
   ·rename_i xs hxs;simp only[Option.some.injEq,Prod.mk.injEq]at h;obtain⟨rfl,rfl⟩:=h;simp[contR,hxs]
   ·cases h
  unfold intsFrom at h;simp only at h;split at h
  ·rename_i xs hxs;have:=intsOf_spec hxs;subst this;show undL N _=true;clear h h1 h2 hr hxs
   induction xs with
   | nil=>rfl
   | cons x r ih=>simpa [undL,SV.und]using ih
  ·cases h
 | ints k' m g' =>
  unfold intsFrom at h;simp only at h;split at h
  ·rename_i hk;have:=kEq_eq hk;subst this;simp only[Option.some.injEq,Prod.mk.injEq]at h;obtain⟨rfl,rfl⟩:=h;refine⟨?_,?_,λN=>trivial⟩ <;> simp[contR,kEq_self]
  ·cases h
 | flts k' m g'=>simp[intsFrom]at h
 | gen m f=>simp[intsFrom]at h
 | upto m l=>simp[intsFrom]at h
 | raw ts D sz F=>simp[intsFrom]at h
theorem contR_flts{σ:Sig}{k:FloatKind}{c:Cont}{n:Nat}{g:Nat->Nat}(h:fltsFrom k c=some (n,g)):contR σ c (.flts k n g)/\contR σ (.flts k n g) c/\∀ N,c.und N:=by
 obtain⟨h1,h2⟩:=fltsFrom_spec h
 have hr:∀ i,i<n->eqvR σ (c.at i) ((Cont.flts k n g).at i)/\eqvR σ ((Cont.flts k n g).at i) (c.at i):=λi hi=>by
  rw[h2 i hi];simp[Cont.at,eqvR,fkEq_self]
 cases c with
 | cells l =>
  refine⟨?_,⟨by rw[h1];exact Nat.le_refl _,λi hi=>(hr i (by rw[<-h1];exact hi)).2⟩,λN=>?_⟩
  ·unfold fltsFrom at h;simp only at h;split at h
   ·rename_i xs hxs;simp only[Option.some.injEq,Prod.mk.injEq]at h;obtain⟨rfl,rfl⟩:=h;simp[contR,hxs]
   ·cases h
  unfold fltsFrom at h;simp only at h;split at h
  ·rename_i xs hxs;have:=fltsOf_spec hxs;subst this;show undL N _=true;clear h h1 h2 hr hxs
   induction xs with
   | nil=>rfl
   | cons x r ih=>simpa [undL,SV.und]using ih
  ·cases h
 | flts k' m g' =>
  unfold fltsFrom at h;simp only at h;split at h
  ·rename_i hk;have:=fkEq_eq hk;subst this;simp only[Option.some.injEq,Prod.mk.injEq]at h;obtain⟨rfl,rfl⟩:=h;refine⟨?_,?_,λN=>trivial⟩ <;> simp[contR,fkEq_self]
  ·cases h
 | ints k' m g'=>simp[fltsFrom]at h
 | gen m f=>simp[fltsFrom]at h
 | upto m l=>simp[fltsFrom]at h
 | raw ts D sz F=>simp[fltsFrom]at h
end Go.Sx

namespace Go.Sx
open Go.RowKit
def okFlag(b:Bool)(p:Prop):Prop :=
 match b with
 | true=>p
 | false=>False
theorem okFlag_iff{b:Bool}{p:Prop}(h:okFlag b p):b=true/\p:=by
 cases b
 ·exact h.elim
 ·exact⟨rfl,h⟩
def slotsP(σ:Sig)(sl:Slots)(N:Nat):Slots->Prop
 | []=>True
 | (t,v') :: r=>match slot sl t with
  | some v=>okFlag (v'.und N) (eqvR σ v v'/\slotsP σ sl N r)
  | none=>False
def Cont.undP(N:Nat):Cont->Prop
 | .cells l=>okFlag (undL N l) True
 | .ints _ _ _=>True
 | .flts _ _ _=>True
 | .gen n f=>∀ i,i<n->(f i).und N=true
 | .upto _ l=>okFlag (undL N l) True
 | .raw _ _ _ _=>True
def heapP(σ:Sig)(H:Heap)(N:Nat):Heap->Prop
 | []=>True
 | (n,o') :: r=>okFlag (Nat.blt n N) (o'.c.undP N/\(match σ n with
  | some m=>match look H m with
   | some o=>obR σ o o'
   | none=>False
  | none=>o'.c.void)/\heapP σ H N r)
theorem slotsP_spec{σ:Sig}{sl:Slots}{N:Nat}:∀ {s:Slots},slotsP σ sl N s->slotsR σ sl N s
 | [],_=>trivial
 | (t,v') :: r,h=>by
  unfold slotsP at h;unfold slotsR;split at h
  ·rename_i v hv;obtain⟨h1,h2,h3⟩:=okFlag_iff h;refine⟨?_,slotsP_spec h3⟩
   first|exact⟨h1,h2⟩|(rw[hv];exact⟨h1,h2⟩)
  ·exact h.elim
theorem Cont.undP_spec{N:Nat}{c:Cont}(h:c.undP N):c.und N:=by
 cases c with
 | cells l=>exact(okFlag_iff h).1
 | ints k n g=>trivial
 | flts k n g=>trivial
 | gen n f=>exact h
 | upto n l=>exact(okFlag_iff h).1
 | raw ts D sz F=>trivial
theorem heapP_spec{σ:Sig}{H:Heap}{N:Nat}:∀ {s:Heap},heapP σ H N s->heapR σ H N s
 | [],_=>trivial
 | (n,o') :: r,h=>by
  unfold heapP at h;unfold heapR;obtain⟨h1,h2,h3,h4⟩:=okFlag_iff h;exact⟨⟨h1,Cont.undP_spec h2,h3⟩,heapP_spec h4⟩
def fitsP(N0:Nat)(S S':St):Prop :=
 okFlag (Nat.ble N0 S'.N&&(fixN N0 (autoSig N0 S S')&&(Nat.beq S'.nt S.nt&&distN (images (sigAt (autoSig N0 S S')) S'.H))))
  (slotsP (sigAt (autoSig N0 S S')) S.sl S'.N S'.sl/\heapP (sigAt (autoSig N0 S S')) S.H S'.N S'.H)
theorem fitsP_spec{N0:Nat}{S S':St}(h:fitsP N0 S S'):Refines N0 S S':=by
 obtain⟨h1,h2,h3⟩:=okFlag_iff h;simp only[Bool.and_eq_true]at h1;obtain⟨h4,h5,h6,h7⟩:=h1;exact Refines.auto ⟨h4,h5,Nat.eq_of_beq_eq_true h6,h7,slotsP_spec h2,heapP_spec h3⟩
structure Fam where
 ι:Type
 I:ι->St
 inv:ι->Prop
 μ:ι->Nat
abbrev Ann:=List (Nat×Fam)
def ann:Ann->Nat->Option Fam
 | [],_=>none
 | (m,v) :: r,n=>match Nat.beq m n with
  | true=>some v
  | false=>ann r n
def firstReg:Code->Option Nat
 | .region id _ _=>some id
 | .seq x y=>match firstReg x with
  | some i=>some i
  | none=>firstReg y
 | .block _ x=>firstReg x
 | .loop x=>firstReg x
 | _=>none
def annAt(A:Ann)(c:Code):Option Fam :=
 match firstReg c with
 | some i=>ann A i
 | none=>none
structure LFam where
 f:Fam
 cuts:f.ι->Ann
instance:Coe Fam LFam:=⟨λf=>⟨f,λ_=>[]⟩⟩
inductive LA where
 | fam (f:LFam)
 | unr (l:List Fam)
 | alt (l:List LFam)
 | unrD (f:St->List Fam)
 | iter (n:Nat)
instance:Coe LFam LA:=⟨.fam⟩
instance:Coe Fam LA:=⟨λf=>.fam f⟩
abbrev LAnn:=List (Nat×LA)
def lann:LAnn->Nat->Option LA
 | [],_=>none
 | (m,v) :: r,n=>match Nat.beq m n with
  | true=>some v
  | false=>lann r n
def lannAt(A:LAnn)(c:Code):Option LA :=
 match firstReg c with
 | some i=>lann A i
 | none=>none
def joinA:Ann->Ann->Ann
 | [],B=>B
 | x :: r,B=>x :: joinA r B
def unrIn(N0:Nat)(S:St):List Fam->Prop
 | []=>False
 | J :: _=>∃ i,J.inv i/\fitsP N0 S (J.I i)
def unrP(N0:Nat)(run:St->(Xt->St->Prop)->Prop)(K:Xt->St->Prop):List Fam->Prop
 | []=>True
 | J :: r=>(∀ i,J.inv i->run (J.I i) (λe S'=>match e with
  | .normal=>unrIn N0 S' r
  | e=>K e S'))/\unrP N0 run K r
def iterP(run:St->(Xt->St->Prop)->Prop)(K:Xt->St->Prop):Nat->St->Prop
 | 0,_=>False
 | n+1,S=>run S (λe S'=>match e with
  | .normal=>iterP run K n S'
  | e=>K e S')
def famP(N0:Nat)(run:Ann->St->(Xt->St->Prop)->Prop)(S:St)(K:Xt->St->Prop)(J:LFam):Prop :=
 (∃ i,J.f.inv i/\fitsP N0 S (J.f.I i))/\∀ i,J.f.inv i->run (J.cuts i) (J.f.I i) (λe S'=>match e with
  | .normal=>∃ i',J.f.inv i'/\J.f.μ i'<J.f.μ i/\fitsP N0 S' (J.f.I i')
  | e=>K e S')
def altP(N0:Nat)(run:Ann->St->(Xt->St->Prop)->Prop)(S:St)(K:Xt->St->Prop):List LFam->Prop
 | []=>False
 | J :: r=>famP N0 run S K J∨altP N0 run S K r
def runB(G:Ctx)(N0:Nat)(A:LAnn):Code->Ann->St->(Xt->St->Prop)->Prop
 | .skip,_,S,K=>K .normal S
 | .region _ ops draw,_,S,K=>match draw with
  | false=>runOps G ops.toList ops.toList S (K .normal)
  | true=>expl G ops.toList S (K .normal) 20 []
 | .seq x y,B,S,K=>match annAt B y with
  | none=>runB G N0 A x B S (λe S'=>match e with
   | .normal=>runB G N0 A y B S' K
   | e=>K e S')
  | some J=>runB G N0 A x B S (λe S'=>match e with
   | .normal=>∃ j,J.inv j/\fitsP N0 S' (J.I j)
   | e=>K e S')/\∀ j,J.inv j->runB G N0 A y B (J.I j) K
 | .cond c x y,B,S,K=>match opr S.sl c with
  | some .tt=>runB G N0 A x B S K
  | some .ff=>runB G N0 A y B S K
  | some (.bool b)=>(b=true->runB G N0 A x B S K)/\(b=false->runB G N0 A y B S K)
  | _=>False
 | .block id x,B,S,K=>runB G N0 A x B S (λe S'=>match e with
  | .exit j=>match Nat.beq j id with
   | true=>K .normal S'
   | false=>K (.exit j) S'
  | e=>K e S')
 | .exit id,_,S,K=>K (.exit id) S
 | .ret,_,S,K=>K .ret S
 | .loop x,B,S,K=>match lannAt A x with
  | none=>match annAt B x with
   | none=>False
   | some J=>famP N0 (λB' S' K'=>runB G N0 A x (joinA B' B) S' K') S K ⟨J,λ_=>[]⟩
  | some (.unr l)=>unrIn N0 S l/\unrP N0 (λS' K'=>runB G N0 A x B S' K') K l
  | some (.unrD f)=>unrIn N0 S (f S)/\unrP N0 (λS' K'=>runB G N0 A x B S' K') K (f S)
  | some (.iter n)=>iterP (λS' K'=>runB G N0 A x B S' K') K n S
  | some (.fam J)=>famP N0 (λB' S' K'=>runB G N0 A x (joinA B' B) S' K') S K J
  | some (.alt l)=>altP N0 (λB' S' K'=>runB G N0 A x (joinA B' B) S' K') S K l
 | _,_,_,_=>False
def runA(G:Ctx)(N0:Nat)(A:LAnn)(B:Ann)(c:Code)(S:St)(K:Xt->St->Prop):Prop:=runB G N0 A c B S K
section
variable {P:Program} {G:Ctx}
theorem Wp.refines'{N0:Nat}{S S1:St}{K:Xt->St->Prop}{c:Code}(hr:Refines N0 S S1)(h:Wp P N0 c S1 K):Wp P N0 c S K:=by
 intro W0 Fr ρ0 ρ a w Q hS hN hρ hK;obtain⟨ρ',h1,h2⟩:=hr.2 W0 Fr ρ a w hS;exact h W0 Fr ρ0 ρ' a w Q h1 hr.1 (λn hn=>(h2 n hn).trans (hρ n hn)) hK
theorem Wp.iter{N0:Nat}{x:Code}{K:Xt->St->Prop}{run:St->(Xt->St->Prop)->Prop}(hrun:∀ S K,run S K->Wp P N0 x S K)(n:Nat)(S:St)(h:iterP run K n S):Wp P N0 (.loop x) S K:=by
 intro W0 Fr ρ0 ρ a w Q hS hN hρ hK;refine wp_loop_ghost (λi a w=>∃ S1 ρ',Sat W0 Fr S1 ρ' a w/\N0<=S1.N/\(∀ n,n<N0->ρ' n=ρ0 n)/\iterP run K i S1) (λi=>i) ?_ (i0:=n) ⟨S,ρ,hS,hN,hρ,h⟩;rintro i a1 w1 ⟨S1,ρ1,hS1,hN1,hρ1,hi⟩
 cases i with
 | zero=>exact(hi:False).elim
 | succ i =>
  refine hrun S1 _ hi W0 Fr ρ0 ρ1 a1 w1 _ hS1 hN1 hρ1 λe S' ρ' a' w' h' hS' hN' hρ'=>?_
  cases e with
  | normal=>exact⟨i,⟨S',ρ',hS',hN',hρ',h'⟩,Nat.lt_succ_self i⟩
  | exit id=>exact hK (.exit id) S' ρ' a' w' h' hS' hN' hρ'
  | ret=>exact hK .ret S' ρ' a' w' h' hS' hN' hρ'
theorem runB_sound(hG:CtxOk P G){N0:Nat}{A:LAnn}:∀(c:Code) {B:Ann} {S:St} {K:Xt->St->Prop},runB G N0 A c B S K->Wp P N0 c S K:=by
 intro c
 induction c with
 | skip=>intro B S K h;exact Wp.run hG h
 | region id ops draw=>intro B S K h;exact Wp.run hG h
 | seq x y ihx ihy =>
  intro B S K h;unfold runB at h;split at h
  ·exact Wp.seq (ihx h) (λS' h'=>ihy h') (λ_ _ h=>h) (λ_ h=>h)
  ·rename_i J hJ;obtain⟨h1,h2⟩:=h;refine Wp.seq (ihx h1) (λS' h'=>?_) (λ_ _ h=>h) (λ_ h=>h);obtain⟨j,hj,hf⟩:=h';exact Wp.refines' (fitsP_spec hf) (ihy (h2 j hj))
 | cond c x y ihx ihy =>
  intro B S K h W0 Fr ρ0 ρ a w Q hS hN hρ hK;unfold runB at h;split at h
  ·rename_i hv;exact wp_cond_true (by simpa [SV.den]using (opr_sat hS.s hv).1) (ihx h W0 Fr ρ0 ρ a w Q hS hN hρ hK)
  ·rename_i hv;exact wp_cond_false (by simpa [SV.den]using (opr_sat hS.s hv).1) (ihy h W0 Fr ρ0 ρ a w Q hS hN hρ hK)
  ·rename_i b hv;have hb:=(opr_sat hS.s hv).1;simp only[SV.den]at hb;exact wp_cond_split hb (λe=>ihx (h.1 e) W0 Fr ρ0 ρ a w Q hS hN hρ hK) (λe=>ihy (h.2 e) W0 Fr ρ0 ρ a w Q hS hN hρ hK)
  ·exact h.elim
 | block id x ih =>
  intro B S K h;exact Wp.block (ih h)
 | exit id=>intro B S K h;exact Wp.run hG h
 | ret=>intro B S K h;exact Wp.run hG h
 | loop x ih =>
  intro B S K h
  have hfam:∀ J:LFam,famP N0 (λB' S' K'=>runB G N0 A x (joinA B' B) S' K') S K J->Wp P N0 (.loop x) S K:=by
   intro J h;obtain⟨⟨i0,h0,hf⟩,hr⟩:=h;refine Wp.loop (ι:={i:J.f.ι // J.f.inv i}) (λi=>J.f.I i.1) (λi=>J.f.μ i.1) ⟨i0,h0⟩ (fitsP_spec hf) λi=>?_
   refine Wp.mono (ih (hr i.1 i.2)) λe S' h'=>?_
   cases e with
   | normal =>
    obtain⟨i',h1,h2,h3⟩:=h';exact⟨⟨i',h1⟩,h2,fitsP_spec h3⟩
   | exit id=>exact h'
   | ret=>exact h'
  have hunr:∀ l:List Fam,(unrIn N0 S l/\unrP N0 (λS' K'=>runB G N0 A x B S' K') K l)->Wp P N0 (.loop x) S K:=by
   intro l h;obtain⟨h0,h1⟩:=h
   have key:∀(l:List Fam),unrP N0 (λS' K'=>runB G N0 A x B S' K') K l->∀(k:Nat)(J:Fam),l[k]? = some J->∀ i,J.inv i->Wp P N0 x (J.I i) (λe S'=>match e with
     | .normal=>∃ J':Fam,l[k+1]? = some J'/\∃ i',J'.inv i'/\fitsP N0 S' (J'.I i')
     | e=>K e S'):=by
    intro l
    induction l with
    | nil=>intro _ k J hk;simp at hk
    | cons J0 r ihl =>
     intro hu k J hk i hi;obtain⟨hu1,hu2⟩:=hu
     cases k with
     | zero =>
      simp only[List.getElem?_cons_zero,Option.some.injEq]at hk;subst hk;refine Wp.mono (ih (hu1 i hi)) λe S' h'=>?_
      cases e with
      | normal =>
       cases r with
       | nil=>exact(h':False).elim
       | cons J1 r1=>exact⟨J1,rfl,h'⟩
      | exit id=>exact h'
      | ret=>exact h'
     | succ k =>
      simp only[List.getElem?_cons_succ]at hk;refine Wp.mono (ihl hu2 k J hk i hi) λe S' h'=>?_
      cases e with
      | normal =>
       obtain⟨J',h2,h3⟩:=h';exact⟨J',by simpa using h2,h3⟩
      | exit id=>exact h'
      | ret=>exact h'
   cases l with
   | nil=>exact(h0:False).elim
   | cons J0 r =>
    obtain⟨i0,hi0,hf⟩:=h0;refine Wp.loop (ι:={q:(Σ k:Fin (J0 :: r).length,((J0 :: r).get k).ι) // ((J0 :: r).get q.1).inv q.2}) (λq=>((J0 :: r).get q.1.1).I q.1.2) (λq=>(J0 :: r).length-q.1.1.val) ⟨⟨⟨0,Nat.succ_pos _⟩,i0⟩,hi0⟩ (fitsP_spec hf) λq=>?_
    obtain⟨⟨⟨k,hk⟩,i⟩,hi⟩:=q;refine Wp.mono (key _ h1 k _ (List.getElem?_eq_getElem hk) i hi) λe S' h'=>?_
    cases e with
    | normal =>
     obtain⟨J',h2,i',h3,h4⟩:=h';obtain⟨hlt,h5⟩:=List.getElem?_eq_some_iff.1 h2;subst h5;exact⟨⟨⟨⟨k+1,hlt⟩,i'⟩,h3⟩,by show (J0 :: r).length-(k+1)<(J0 :: r).length-k;omega,fitsP_spec h4⟩
    | exit id=>exact h'
    | ret=>exact h'
  unfold runB at h;split at h
  ·split at h
   ·exact h.elim
   ·rename_i J hJ;exact hfam ⟨J,λ_=>[]⟩ h
  ·rename_i l hl;exact hunr l h
  ·rename_i f hf;exact hunr (f S) h
  ·rename_i n hn;exact Wp.iter (λS K=>ih) n S h
  ·rename_i J hJ;exact hfam J h
  ·rename_i l hl
   have:∀ l:List LFam,altP N0 (λB' S' K'=>runB G N0 A x (joinA B' B) S' K') S K l->Wp P N0 (.loop x) S K:=by
    intro l
    induction l with
    | nil=>intro h;exact(h:False).elim
    | cons J r ihl =>
     intro h;rcases h with h|h
     ·exact hfam J h
     ·exact ihl h
   exact this l h
 | _=>intro B S K h;exact(h:False).elim
theorem runA_sound(hG:CtxOk P G){N0:Nat}{A:LAnn}{B:Ann}(c:Code){S:St}{K:Xt->St->Prop}(h:runA G N0 A B c S K):Wp P N0 c S K:=runB_sound hG c h
end
def postP(k:Nat)(hc:HC)(S:St)(v:SV):Prop :=
 okFlag (hc.val.und (k+12)&&distN (images (tauSig k (autoTau k hc S v)) (hc.wr++hc.news)))
  (eqvR (tauSig k (autoTau k hc S v)) v hc.val/\heapP (tauSig k (autoTau k hc S v)) S.H (k+12) (hc.wr++hc.news))
theorem postP_spec{k:Nat}{hc:HC}{S:St}{v:SV}(h:postP k hc S v):∃ tau,PostOk k hc S v tau:=by
 obtain⟨h1,h2,h3⟩:=okFlag_iff h;simp only[Bool.and_eq_true]at h1;exact⟨_,h2,h1.1,heapP_spec h3,h1.2⟩
theorem body_codeOf{fn:Func}(hb:fn.body.isNone=false):fn.body=some (codeOf fn):=by
 unfold codeOf
 cases h:fn.body with
 | none=>rw[h]at hb;cases hb
 | some c=>rfl
theorem pure_of_vc {P:Program} {G:Ctx} (hG:CtxOk P G) {f:Nat} {fn:Func} (hf:P.funcs[f]? = some fn) (hb:fn.body.isNone=false) (hnm:(fn.name == "runtime.NumGoroutine")=false) {F:PF}
  (h:∀ args v p,F args=some (v,p)->okP p->(v.closed&&(closedL args&&Nat.ble args.length fn.ntmps))=true/\
   ∃ A B,runA G 0 A B (codeOf fn) (init fn.ntmps args [] 0) (endK G.E.T fn.results.toList λ_ v'=>eqv v' v)):PureOk P f F :=
 pure_of_wp hG hf (body_codeOf hb) hnm λargs v p hF hp=>by
  obtain⟨h1,A,B,h2⟩:=h args v p hF hp;simp only[Bool.and_eq_true]at h1;exact⟨h1.1,h1.2.1,h1.2.2,runA_sound hG _ h2⟩
def preP(σ:Sig)(N:Nat):Nat->List (Nm×Ob)->Heap->Prop
 | _,[],[]=>True
 | i,(_,o) :: r,(j,o') :: r'=>okFlag (Nat.beq i j) (o'.c.undP N/\obR σ o o'/\preP σ N (i+1) r r')
 | _,_,_=>False
theorem preP_spec{σ:Sig}{N:Nat}:∀ {i:Nat} {r:List (Nm×Ob)} {h:Heap},preP σ N i r h->preR σ N i r h
 | _,[],[],_=>trivial
 | i,(_,o) :: r,(j,o') :: r',h=>by
  obtain⟨h1,h2,h3,h4⟩:=okFlag_iff h;exact⟨h1,Cont.undP_spec h2,h3,preP_spec h4⟩
 | _,[],_ :: _,h=>h.elim
 | _,_ :: _,[],h=>h.elim
def callP(fn:Func)(args:List SV)(acc:List (Nm×Ob))(hc:HC):Prop :=
 okFlag (undL acc.length hc.args&&(Nat.ble hc.args.length fn.ntmps&&(keysLt acc.length hc.heap hc.wr&&(keysGe acc.length hc.news&&rwIn hc.wr hc.heap))))
  (eqvRL (sgSig (fsts acc)) args hc.args/\preP (sgSig (fsts acc)) acc.length 0 acc hc.heap)
theorem con_of_vc {P:Program} {G:Ctx} (hG:CtxOk P G) {f:Nat} {fn:Func} (hf:P.funcs[f]? = some fn) (hb:fn.body.isNone=false) (hnm:(fn.name == "runtime.NumGoroutine")=false) {C:List SV->RdM}
  (h:∀ args,(C args).All (λacc hc=>okP hc.obl->callP fn args acc hc/\
   ∃ A B,runA G acc.length A B (codeOf fn) (init fn.ntmps hc.args hc.heap acc.length) (endK G.E.T fn.results.toList λS v=>postP acc.length hc S v)) []):ConOk P f (conR C) :=
 conR_okW hG hf (body_codeOf hb) hnm λargs=>(h args).imp λacc hc hk ho=>by
  obtain⟨h1,A,B,h2⟩:=hk ho;obtain⟨h3,h4,h5⟩:=okFlag_iff h1;simp only[Bool.and_eq_true]at h3;exact⟨h4,h3.1,h3.2.1,preP_spec h5,h3.2.2.1,h3.2.2.2.1,h3.2.2.2.2,Wp.mono (runA_sound hG _ h2) λe S' hk'=>endK_mono (λ_ _=>postP_spec) hk'⟩
theorem okFlag_mk{b:Bool}{p:Prop}(h:b=true)(hp:p):okFlag b p:=by subst h;exact hp
theorem toB_eqvR{σ:Sig}{v:SV}{b:Bool}(h:v.toB=some b):eqvR σ v (.bool b):=by
 cases v <;> simp_all[SV.toB,eqvR]
end Go.Sx

namespace Go.Sx
open Go.RowKit
def runGB(X:RCtx)(N0:Nat)(A:LAnn):Code->Ann->St->(Xt->St->Prop)->Prop
 | .skip,_,S,K=>K .normal S
 | .region _ ops draw,_,S,K=>match draw with
  | false=>runOpsX X ops.toList ops.toList S (K .normal)
  | true=>explX X ops.toList S (K .normal)
 | .seq x y,B,S,K=>match annAt B y with
  | none=>runGB X N0 A x B S (λe S'=>match e with
   | .normal=>runGB X N0 A y B S' K
   | e=>K e S')
  | some J=>runGB X N0 A x B S (λe S'=>match e with
   | .normal=>∃ j,J.inv j/\fitsP N0 S' (J.I j)
   | e=>K e S')/\∀ j,J.inv j->runGB X N0 A y B (J.I j) K
 | .cond c x y,B,S,K=>match opr S.sl c with
  | some .tt=>runGB X N0 A x B S K
  | some .ff=>runGB X N0 A y B S K
  | some (.bool b)=>(b=true->runGB X N0 A x B S K)/\(b=false->runGB X N0 A y B S K)
  | _=>False
 | .block id x,B,S,K=>runGB X N0 A x B S (λe S'=>match e with
  | .exit j=>match Nat.beq j id with
   | true=>K .normal S'
   | false=>K (.exit j) S'
  | e=>K e S')
 | .exit id,_,S,K=>K (.exit id) S
 | .ret,_,S,K=>K .ret S
 | .loop x,B,S,K=>match lannAt A x with
  | none=>match annAt B x with
   | none=>False
   | some J=>famP N0 (λB' S' K'=>runGB X N0 A x (joinA B' B) S' K') S K ⟨J,λ_=>[]⟩
  | some (.unr l)=>unrIn N0 S l/\unrP N0 (λS' K'=>runGB X N0 A x B S' K') K l
  | some (.unrD f)=>unrIn N0 S (f S)/\unrP N0 (λS' K'=>runGB X N0 A x B S' K') K (f S)
  | some (.iter n)=>iterP (λS' K'=>runGB X N0 A x B S' K') K n S
  | some (.fam J)=>famP N0 (λB' S' K'=>runGB X N0 A x (joinA B' B) S' K') S K J
  | some (.alt l)=>altP N0 (λB' S' K'=>runGB X N0 A x (joinA B' B) S' K') S K l
 | _,_,_,_=>False
def runG(X:RCtx)(N0:Nat)(A:LAnn)(B:Ann)(c:Code)(S:St)(K:Xt->St->Prop):Prop:=runGB X N0 A c B S K
section
variable {P:Program} {X:RCtx}
theorem runGB_sound(hX:RCtxOk P X){N0:Nat}{A:LAnn}:∀(c:Code) {B:Ann} {S:St} {K:Xt->St->Prop},runGB X N0 A c B S K->Wp P N0 c S K:=by
 intro c
 induction c with
 | skip=>intro B S K h;exact Wp.run hX.G h
 | region id ops draw =>
  intro B S K h W0 Fr ρ0 ρ a w Q hS hN hρ hK;unfold runGB at h;split at h
  ·refine wp_region ?_;have:=runOpsX_sound hX (ops:=ops.toList) (Q:=Q) ops.toList 0 (λj=>by simp) h hS hN hρ (λS' ρ' a' w' h1 h2 h3 h4=>hK .normal S' ρ' a' w' h1 h2 h3 h4);simpa [List.range_eq_range']using this
  ·exact explX_sound hX h hS hN hρ (λS' ρ' a' w' h1 h2 h3 h4=>hK .normal S' ρ' a' w' h1 h2 h3 h4)
 | seq x y ihx ihy =>
  intro B S K h;unfold runGB at h;split at h
  ·exact Wp.seq (ihx h) (λS' h'=>ihy h') (λ_ _ h=>h) (λ_ h=>h)
  ·rename_i J hJ;obtain⟨h1,h2⟩:=h;refine Wp.seq (ihx h1) (λS' h'=>?_) (λ_ _ h=>h) (λ_ h=>h);obtain⟨j,hj,hf⟩:=h';exact Wp.refines' (fitsP_spec hf) (ihy (h2 j hj))
 | cond c x y ihx ihy =>
  intro B S K h W0 Fr ρ0 ρ a w Q hS hN hρ hK;unfold runGB at h;split at h
  ·rename_i hv;exact wp_cond_true (by simpa [SV.den]using (opr_sat hS.s hv).1) (ihx h W0 Fr ρ0 ρ a w Q hS hN hρ hK)
  ·rename_i hv;exact wp_cond_false (by simpa [SV.den]using (opr_sat hS.s hv).1) (ihy h W0 Fr ρ0 ρ a w Q hS hN hρ hK)
  ·rename_i b hv;have hb:=(opr_sat hS.s hv).1;simp only[SV.den]at hb;exact wp_cond_split hb (λe=>ihx (h.1 e) W0 Fr ρ0 ρ a w Q hS hN hρ hK) (λe=>ihy (h.2 e) W0 Fr ρ0 ρ a w Q hS hN hρ hK)
  ·exact h.elim
 | block id x ih =>
  intro B S K h;exact Wp.block (ih h)
 | exit id=>intro B S K h;exact Wp.run hX.G h
 | ret=>intro B S K h;exact Wp.run hX.G h
 | loop x ih =>
  intro B S K h
  have hfam:∀ J:LFam,famP N0 (λB' S' K'=>runGB X N0 A x (joinA B' B) S' K') S K J->Wp P N0 (.loop x) S K:=by
   intro J h;obtain⟨⟨i0,h0,hf⟩,hr⟩:=h;refine Wp.loop (ι:={i:J.f.ι // J.f.inv i}) (λi=>J.f.I i.1) (λi=>J.f.μ i.1) ⟨i0,h0⟩ (fitsP_spec hf) λi=>?_
   refine Wp.mono (ih (hr i.1 i.2)) λe S' h'=>?_
   cases e with
   | normal =>
    obtain⟨i',h1,h2,h3⟩:=h';exact⟨⟨i',h1⟩,h2,fitsP_spec h3⟩
   | exit id=>exact h'
   | ret=>exact h'
  have hunr:∀ l:List Fam,(unrIn N0 S l/\unrP N0 (λS' K'=>runGB X N0 A x B S' K') K l)->Wp P N0 (.loop x) S K:=by
   intro l h;obtain⟨h0,h1⟩:=h
   have key:∀(l:List Fam),unrP N0 (λS' K'=>runGB X N0 A x B S' K') K l->∀(k:Nat)(J:Fam),l[k]? = some J->∀ i,J.inv i->Wp P N0 x (J.I i) (λe S'=>match e with
     | .normal=>∃ J':Fam,l[k+1]? = some J'/\∃ i',J'.inv i'/\fitsP N0 S' (J'.I i')
     | e=>K e S'):=by
    intro l
    induction l with
    | nil=>intro _ k J hk;simp at hk
    | cons J0 r ihl =>
     intro hu k J hk i hi;obtain⟨hu1,hu2⟩:=hu
     cases k with
     | zero =>
      simp only[List.getElem?_cons_zero,Option.some.injEq]at hk;subst hk;refine Wp.mono (ih (hu1 i hi)) λe S' h'=>?_
      cases e with
      | normal =>
       cases r with
       | nil=>exact(h':False).elim
       | cons J1 r1=>exact⟨J1,rfl,h'⟩
      | exit id=>exact h'
      | ret=>exact h'
     | succ k =>
      simp only[List.getElem?_cons_succ]at hk;refine Wp.mono (ihl hu2 k J hk i hi) λe S' h'=>?_
      cases e with
      | normal =>
       obtain⟨J',h2,h3⟩:=h';exact⟨J',by simpa using h2,h3⟩
      | exit id=>exact h'
      | ret=>exact h'
   cases l with
   | nil=>exact(h0:False).elim
   | cons J0 r =>
    obtain⟨i0,hi0,hf⟩:=h0;refine Wp.loop (ι:={q:(Σ k:Fin (J0 :: r).length,((J0 :: r).get k).ι) // ((J0 :: r).get q.1).inv q.2}) (λq=>((J0 :: r).get q.1.1).I q.1.2) (λq=>(J0 :: r).length-q.1.1.val) ⟨⟨⟨0,Nat.succ_pos _⟩,i0⟩,hi0⟩ (fitsP_spec hf) λq=>?_
    obtain⟨⟨⟨k,hk⟩,i⟩,hi⟩:=q;refine Wp.mono (key _ h1 k _ (List.getElem?_eq_getElem hk) i hi) λe S' h'=>?_
    cases e with
    | normal =>
     obtain⟨J',h2,i',h3,h4⟩:=h';obtain⟨hlt,h5⟩:=List.getElem?_eq_some_iff.1 h2;subst h5;exact⟨⟨⟨⟨k+1,hlt⟩,i'⟩,h3⟩,by show (J0 :: r).length-(k+1)<(J0 :: r).length-k;omega,fitsP_spec h4⟩
    | exit id=>exact h'
    | ret=>exact h'
  unfold runGB at h;split at h
  ·split at h
   ·exact h.elim
   ·rename_i J hJ;exact hfam ⟨J,λ_=>[]⟩ h
  ·rename_i l hl;exact hunr l h
  ·rename_i f hf;exact hunr (f S) h
  ·rename_i n hn;exact Wp.iter (λS K=>ih) n S h
  ·rename_i J hJ;exact hfam J h
  ·rename_i l hl
   have:∀ l:List LFam,altP N0 (λB' S' K'=>runGB X N0 A x (joinA B' B) S' K') S K l->Wp P N0 (.loop x) S K:=by
    intro l
    induction l with
    | nil=>intro h;exact(h:False).elim
    | cons J r ihl =>
     intro h;rcases h with h|h
     ·exact hfam J h
     ·exact ihl h
   exact this l h
 | _=>intro B S K h;exact(h:False).elim
theorem runG_sound(hX:RCtxOk P X){N0:Nat}{A:LAnn}{B:Ann}(c:Code){S:St}{K:Xt->St->Prop}(h:runG X N0 A B c S K):Wp P N0 c S K:=runGB_sound hX c h
end
structure RHC (ι:Type) where
 args:List SV
 heap:Heap
 obl:Option Prop
 P:ι->Prop
 out:ι->HC
inductive RRd (ι:Type) where
 | fail
 | ret (hc:RHC ι)
 | read (n:Nm) (k:Ob->RRd ι)
def RRd.run{ι:Type}(rd:Nm->Option Ob):RRd ι->List Nm->Option (List Nm×RHC ι)
 | .fail,_=>none
 | .ret hc,sg=>some (sg,hc)
 | .read n k,sg=>match rd n with
  | some o=>(k o).run rd (sg++[n])
  | none=>none
def RRd.All{ι:Type}(Q:List (Nm×Ob)->RHC ι->Prop):RRd ι->List (Nm×Ob)->Prop
 | .fail,_=>True
 | .ret hc,acc=>Q acc hc
 | .read n k,acc=>∀ o,(k o).All Q (acc++[(n,o)])
theorem RRd.all_run{ι:Type}{rd:Nm->Option Ob}{Q:List (Nm×Ob)->RHC ι->Prop}:∀ {m:RRd ι} {acc:List (Nm×Ob)} {sg:List Nm} {hc:RHC ι},m.All Q acc->(∀ p∈acc,rd p.1=some p.2)->m.run rd (fsts acc)=some (sg,hc)->
  ∃ acc',fsts acc'=sg/\(∀ p∈acc',rd p.1=some p.2)/\Q acc' hc
 | .fail,_,_,_,_,_,h=>by simp[RRd.run]at h
 | .ret hc',acc,sg,hc,hq,hacc,h=>by
  simp only[RRd.run,Option.some.injEq,Prod.mk.injEq]at h;obtain⟨rfl,rfl⟩:=h;exact⟨acc,rfl,hacc,hq⟩
 | .read n k,acc,sg,hc,hq,hacc,h=>by
  simp only[RRd.run]at h;split at h
  ·rename_i o ho;refine RRd.all_run (hq o) (acc:=acc++[(n,o)]) (λp hp=>?_) (by rw[fsts_append];exact h);rcases List.mem_append.1 hp with hp|hp
   ·exact hacc p hp
   ·simp only[List.mem_singleton]at hp;subst hp;exact ho
  ·cases h
theorem RRd.run_sg{ι:Type}{rd:Nm->Option Ob}:∀ {m:RRd ι} {sg sg':List Nm} {hc:RHC ι},m.run rd sg=some (sg',hc)->∀ n∈sg,n∈sg'
 | .fail,_,_,_,h=>by simp[RRd.run]at h
 | .ret hc',sg,sg',hc,h=>by
  simp only[RRd.run,Option.some.injEq,Prod.mk.injEq]at h;obtain⟨rfl,rfl⟩:=h;exact λn hn=>hn
 | .read n k,sg,sg',hc,h=>by
  simp only[RRd.run]at h;split at h
  ·exact λm hm=>RRd.run_sg h m (List.mem_append_left _ hm)
  ·cases h
theorem RRd.run_loc{ι:Type}{rd rd':Nm->Option Ob}:∀ {m:RRd ι} {sg sg':List Nm} {hc:RHC ι},m.run rd sg=some (sg',hc)->(∀ n∈sg',rd' n=rd n)->m.run rd' sg=some (sg',hc)
 | .fail,_,_,_,h,_=>by simp[RRd.run]at h
 | .ret hc',sg,sg',hc,h,_=>h
 | .read n k,sg,sg',hc,h,hr=>by
  simp only[RRd.run]at h ⊢;split at h
  ·rename_i o ho;have hn:n∈sg':=RRd.run_sg h n (by simp);rw[hr n hn,ho];exact RRd.run_loc h hr
  ·cases h
def rconR(ι:Type)(ne:Nonempty ι)(C:List SV->RRd ι):RCon:=⟨ι,ne,λi args rd nm=>match (C args).run rd []with
 | some (sg,hc)=>match distN sg with
  | true=>some (⟨some ((hc.out i).val.ren (theta sg nm)),renH (theta sg nm) (hc.out i).wr,renH (theta sg nm) (hc.out i).news,sg,hc.obl⟩,hc.P i)
  | false=>none
 | none=>none⟩
def callPR{ι:Type}(fn:Func)(args:List SV)(acc:List (Nm×Ob))(hc:RHC ι):Prop :=
 okFlag (undL acc.length hc.args&&Nat.ble hc.args.length fn.ntmps)
  ((∀ i,(keysLt acc.length hc.heap (hc.out i).wr&&(keysGe acc.length (hc.out i).news&&rwIn (hc.out i).wr hc.heap))=true)/\eqvRL (sgSig (fsts acc)) args hc.args/\preP (sgSig (fsts acc)) acc.length 0 acc hc.heap)
theorem rcon_of_vc {P:Program} {X:RCtx} (hX:RCtxOk P X) {f:Nat} {fn:Func} (hf:P.funcs[f]? = some fn) (hb:fn.body.isNone=false) (hnm:(fn.name == "runtime.NumGoroutine")=false) {ι:Type} {ne:Nonempty ι} {C:List SV->RRd ι}
  (h:∀ args,(C args).All (λacc hc=>okP hc.obl->callPR fn args acc hc/\
   ∃ A B,runG X acc.length A B (codeOf fn) (init fn.ntmps hc.args hc.heap acc.length) (endK X.G.E.T fn.results.toList λS v=>∃ i,hc.P i/\postP acc.length (hc.out i) S v)) []):RConOk P f (rconR ι ne C) where
 loc:=by
  intro i args rd rd' nm e p hc hr;simp only[rconR]at hc ⊢;split at hc
  ·rename_i sg hc0 hrun;split at hc
   ·rename_i hd;have he:=hc;simp only[Option.some.injEq,Prod.mk.injEq]at he;obtain⟨rfl,_⟩:=he;simp only[RRd.run_loc hrun hr,hd];exact hc
   ·cases hc
  ·cases hc
 calls:=by
  intro W0 Fr U H ρ w nm args hH hbd hn hall;obtain⟨i0⟩:=ne;obtain⟨e0,p0,h0,ho⟩:=hall i0;simp only[rconR]at h0;split at h0
  case h_2=>cases h0
  rename_i sg hc hrun;split at h0
  case h_2=>cases h0
  rename_i hd;simp only[Option.some.injEq,Prod.mk.injEq]at h0;obtain⟨rfl,rfl⟩:=h0;obtain⟨acc,hacc,hlook,hQ⟩:=RRd.all_run (rd:=look H) (h args) (acc:=[]) (by simp) hrun;obtain⟨h1,A,B,h2⟩:=hQ ho;obtain⟨h3,h4,h5,h6⟩:=okFlag_iff h1;simp only[Bool.and_eq_true]at h3;subst hacc
  refine(call_rel hX.G hf (body_codeOf hb) hnm hH hn hlook hd h5 h3.1 h3.2 (preP_spec h6) (I:=ι) (post:=hc.P) (out:=hc.out) (λi _=>by
   have:=h4 i;simp only[Bool.and_eq_true]at this
   exact⟨this.1,this.2.1,this.2.2⟩) (Wp.mono (runG_sound hX _ h2) λe S' hk'=>endK_mono (λ_ _ ⟨i,hi,hp⟩=>⟨i,hi,postP_spec hp⟩) hk')).mono ?_
  rintro en w' ⟨i,hi,ρ2,h7,h8,v,h9,h10,h11⟩
  exact⟨i,⟨some ((hc.out i).val.ren (theta (fsts acc) nm)),renH (theta (fsts acc) nm) (hc.out i).wr,renH (theta (fsts acc) nm) (hc.out i).news,fsts acc,hc.obl⟩,hc.P i,
   by simp only[rconR,hrun,hd],hi,ρ2,h7,h8,v,h9,h10,h11⟩
end Go.Sx

namespace Go.Sx
open Go.RowKit
def rawOb(ts:List Nat):Ob:=⟨true,0, .raw ts (λ_=>False) (λ_=>0) (λ_ _=>.bool false),0⟩
def St.addRaw(S:St)(ts:List Nat):St:={nt:=S.nt,sl:=S.sl,H:=(S.N,rawOb ts) :: S.H,N:=S.N+1}
theorem Refines.addRaw{N0:Nat}{S:St}(ts:List Nat)(h:N0<=S.N):Refines N0 S (S.addRaw ts):=by
 refine⟨Nat.le_succ_of_le h,λW0 Fr ρ a w hS=>⟨λn=>if n=S.N then none else ρ n,⟨?_,?_⟩,λn hn=>if_neg (Nat.ne_of_lt (Nat.lt_of_lt_of_le hn h))⟩⟩
 ·have hag:∀ n,n<S.N->(if n=S.N then none else ρ n)=ρ n:=λn hn=>if_neg (Nat.ne_of_lt hn)
  have hne:∀ {m:Nm} {o:Ob},look S.H m=some o->m<S.N:=λhm=>hS.h.used _ _ hm
  refine {
   os:=hS.h.os,tape:=hS.h.tape,output:=hS.h.output,size:=hS.h.size,frlt:=hS.h.frlt,frame:=hS.h.frame
   used:=λm o hm=>?_
   bd:=λm o hm=>?_
   obj:=λm o hm=>?_
   inj:=λm1 m2 o1 o2 p q h1 h2 hne' hr1 hr2 hp hq=>?_
   free:=λm o p hm hr hp=>?_
   rawd:=λm o ts' D sz F hm hr hc=>?_}
  ·simp only[St.addRaw,look_cons]at hm;split at hm
   ·rename_i e;subst e;exact Nat.lt_succ_self _
   ·exact Nat.lt_succ_of_lt (hne hm)
  ·simp only[St.addRaw,look_cons]at hm;split at hm
   ·cases hm;intro j hj;exact absurd hj (Nat.not_lt_zero j)
   ·exact Cont.bd_mono (λn hn=>Nat.lt_succ_of_lt hn) (hS.h.bd m o hm)
  ·simp only[St.addRaw,look_cons]at hm;split at hm
   ·rename_i e;subst e;cases hm;rw[if_pos rfl];rfl
   ·have hlt:=hne hm;show OSat w _ o (if m=S.N then none else ρ m);rw[hag m hlt];exact(hS.h.obj m o hm).congr (λ_ _ _ _ _ _=>rfl) (λj hj=>SV.den_congr (U:=(·< S.N)) hag _ (hS.h.bd m o hm j hj))
  ·simp only[St.addRaw,look_cons]at h1 h2;split at h1
   ·rename_i e;subst e;rw[if_pos rfl]at hp;cases hp
   ·split at h2
    ·rename_i e;subst e;rw[if_pos rfl]at hq;cases hq
    ·rw[hag m1 (hne h1)]at hp;rw[hag m2 (hne h2)]at hq;exact hS.h.inj m1 m2 o1 o2 p q h1 h2 hne' hr1 hr2 hp hq
  ·simp only[St.addRaw,look_cons]at hm;split at hm
   ·rename_i e;subst e;rw[if_pos rfl]at hp;cases hp
   ·rw[hag m (hne hm)]at hp;exact hS.h.free m o p hm hr hp
  ·simp only[St.addRaw,look_cons]at hm;split at hm
   ·cases hm;simp only[rawOb,Cont.raw.injEq]at hc;obtain⟨rfl,rfl,rfl,rfl⟩:=hc;exact⟨λb hb=>hb.elim,λb hb=>hb.elim,λ_ _ _ _ _ _ _=>id,λ_ _ _ _ _ _ _ _ _ _ b hb=>hb.elim⟩
   ·have k:=hS.h.rawd m o ts' D sz F hm hr hc;refine⟨k.sat,k.free,λm' o' q hm' hne' hr' hq=>?_,λm' o' ts2 D2 sz2 F2 hm' hne' hr' hc'=>?_⟩
    ·simp only[St.addRaw,look_cons]at hm';split at hm'
     ·rename_i e;subst e;rw[if_pos rfl]at hq;cases hq
     ·rw[hag m' (hne hm')]at hq;exact k.sep m' o' q hm' hne' hr' hq
    ·simp only[St.addRaw,look_cons]at hm';split at hm'
     ·cases hm';simp only[rawOb,Cont.raw.injEq]at hc';obtain⟨rfl,rfl,rfl,rfl⟩:=hc';exact λb _=>id
     ·exact k.sepr m' o' ts2 D2 sz2 F2 hm' hne' hr' hc'
 ·exact hS.s.mono (λn hn=>Nat.lt_succ_of_lt hn) (λn hn=>if_neg (Nat.ne_of_lt hn))
theorem Wp.addRaw{P:Program}{N0:Nat}{c:Code}{S:St}{K:Xt->St->Prop}(ts:List Nat)(h:N0<=S.N)(hw:Wp P N0 c (S.addRaw ts) K):Wp P N0 c S K:=Wp.refines' (Refines.addRaw ts h) hw
theorem rcon_of_vcP {P:Program} {X:RCtx} (hX:RCtxOk P X) {f:Nat} {fn:Func} (hf:P.funcs[f]? = some fn) (hb:fn.body.isNone=false) (hnm:(fn.name == "runtime.NumGoroutine")=false) {ι:Type} {ne:Nonempty ι} {C:List SV->RRd ι} (ts:List Nat)
  (h:∀ args,(C args).All (λacc hc=>okP hc.obl->callPR fn args acc hc/\
   ∃ A B,runG X acc.length A B (codeOf fn) ((init fn.ntmps hc.args hc.heap acc.length).addRaw ts) (endK X.G.E.T fn.results.toList λS v=>∃ i,hc.P i/\postP acc.length (hc.out i) S v)) []):RConOk P f (rconR ι ne C) where
 loc:=by
  intro i args rd rd' nm e p hc hr;simp only[rconR]at hc ⊢;split at hc
  ·rename_i sg hc0 hrun;split at hc
   ·rename_i hd;have he:=hc;simp only[Option.some.injEq,Prod.mk.injEq]at he;obtain⟨rfl,_⟩:=he;simp only[RRd.run_loc hrun hr,hd];exact hc
   ·cases hc
  ·cases hc
 calls:=by
  intro W0 Fr U H ρ w nm args hH hbd hn hall;obtain⟨i0⟩:=ne;obtain⟨e0,p0,h0,ho⟩:=hall i0;simp only[rconR]at h0;split at h0
  case h_2=>cases h0
  rename_i sg hc hrun;split at h0
  case h_2=>cases h0
  rename_i hd;simp only[Option.some.injEq,Prod.mk.injEq]at h0;obtain⟨rfl,rfl⟩:=h0;obtain⟨acc,hacc,hlook,hQ⟩:=RRd.all_run (rd:=look H) (h args) (acc:=[]) (by simp) hrun;obtain⟨h1,A,B,h2⟩:=hQ ho;obtain⟨h3,h4,h5,h6⟩:=okFlag_iff h1;simp only[Bool.and_eq_true]at h3;subst hacc
  refine(call_rel hX.G hf (body_codeOf hb) hnm hH hn hlook hd h5 h3.1 h3.2 (preP_spec h6) (I:=ι) (post:=hc.P) (out:=hc.out) (λi _=>by
   have:=h4 i;simp only[Bool.and_eq_true]at this
   exact⟨this.1,this.2.1,this.2.2⟩) (Wp.mono (Wp.addRaw ts (Nat.le_refl _) (runG_sound hX _ h2)) λe S' hk'=>endK_mono (λ_ _ ⟨i,hi,hp⟩=>⟨i,hi,postP_spec hp⟩) hk')).mono ?_
  rintro en w' ⟨i,hi,ρ2,h7,h8,v,h9,h10,h11⟩
  exact⟨i,⟨some ((hc.out i).val.ren (theta (fsts acc) nm)),renH (theta (fsts acc) nm) (hc.out i).wr,renH (theta (fsts acc) nm) (hc.out i).news,fsts acc,hc.obl⟩,hc.P i,
   by simp only[rconR,hrun,hd],hi,ρ2,h7,h8,v,h9,h10,h11⟩
end Go.Sx

namespace Go.Sx
open Go.RowKit
theorem tauSig_lo{k:Nat}{tau:List (Option Nm)}{n:Nat}(h:n<k):tauSig k tau n=some n:=by
 unfold tauSig;rw[show Nat.blt n k=true from Nat.ble_eq_true_of_le h]
theorem PostOk.one{k n:Nat}{hc:HC}{S:St}{v:SV}{o o':Ob}(hn:n<k)(hw:hc.wr=[(n,o')])(hnews:hc.news=[])(hl:look S.H n=some o)(hu:o'.c.und (k+12))(ho:obR (tauSig k []) o o')(hv:eqvR (tauSig k []) v hc.val)(hvu:hc.val.und (k+12)=true):PostOk k hc S v [] where
 val:=hv
 vu:=hvu
 hp:=by
  rw[hw,hnews];refine⟨⟨Nat.ble_eq_true_of_le (by omega),hu,?_⟩,trivial⟩;rw[tauSig_lo hn];simp only[hl];exact ho
 dist:=by
  rw[hw,hnews];simp[images,tauSig_lo hn,distN,memN]
theorem obR_raw{σ:Sig}{el es:Nat}{ts D sz F}:obR σ ⟨true,el, .raw ts D sz F,es⟩ ⟨true,el, .raw ts D sz F,es⟩:=⟨rfl,rfl,rfl,rfl,rfl,rfl⟩
end Go.Sx

namespace Go.Sx
open Go.RowKit
structure RM where
 D:Nat->Prop
 S:Nat->Nat
 F:Nat->Nat->Value
instance:Inhabited RM:=⟨⟨λ_=>False,λ_=>0,λ_ _=>.bool false⟩⟩
def rwO(ts:List Nat)(q:RM):Ob:=⟨true,0, .raw ts q.D q.S q.F,0⟩
def rawOf:Ob->Option (List Nat×RM)
 | ⟨true,0, .raw ts D sz F,0⟩=>some (ts,⟨D,sz,F⟩)
 | _=>none
theorem rawOf_spec{o:Ob}{ts:List Nat}{q:RM}(h:rawOf o=some (ts,q)):o=rwO ts q:=by
 unfold rawOf at h;split at h
 ·simp only[Option.some.injEq,Prod.mk.injEq]at h;obtain⟨rfl,rfl⟩:=h;rfl
 ·cases h
theorem obR_rawOf{σ:Sig}{o:Ob}{ts:List Nat}{q:RM}(h:rawOf o=some (ts,q)):obR σ o (rwO ts q):=by
 rw[rawOf_spec h];exact obR_raw
def RPost{ι:Type}(k:Nat)(ts:List Nat)(P:ι->Prop)(q:ι->RM)(val:ι->SV)(o:Option Ob)(v:SV):Prop :=
 ∃ i,P i/\o=some (rwO ts (q i))/\eqvR (tauSig k []) v (val i)
theorem rcon_gen {P:Program} {X:RCtx} (hX:RCtxOk P X) {f:Nat} {fn:Func} (hf:P.funcs[f]? = some fn) (hb:fn.body.isNone=false) (hnm:(fn.name == "runtime.NumGoroutine")=false) {ι:Type} {ne:Nonempty ι} {C:List SV->RRd ι}
  (h:∀ args,(C args).All (λacc hc=>okP hc.obl->callPR fn args acc hc/\
   Wp P acc.length (codeOf fn) (init fn.ntmps hc.args hc.heap acc.length) (endK X.G.E.T fn.results.toList λS v=>∃ i,hc.P i/\∃ tau,PostOk acc.length (hc.out i) S v tau)) []):RConOk P f (rconR ι ne C) where
 loc:=by
  intro i args rd rd' nm e p hc hr;simp only[rconR]at hc ⊢;split at hc
  ·rename_i sg hc0 hrun;split at hc
   ·rename_i hd;have he:=hc;simp only[Option.some.injEq,Prod.mk.injEq]at he;obtain⟨rfl,_⟩:=he;simp only[RRd.run_loc hrun hr,hd];exact hc
   ·cases hc
  ·cases hc
 calls:=by
  intro W0 Fr U H ρ w nm args hH hbd hn hall;obtain⟨i0⟩:=ne;obtain⟨e0,p0,h0,ho⟩:=hall i0;simp only[rconR]at h0;split at h0
  case h_2=>cases h0
  rename_i sg hc hrun;split at h0
  case h_2=>cases h0
  rename_i hd;simp only[Option.some.injEq,Prod.mk.injEq]at h0;obtain⟨rfl,rfl⟩:=h0;obtain⟨acc,hacc,hlook,hQ⟩:=RRd.all_run (rd:=look H) (h args) (acc:=[]) (by simp) hrun;obtain⟨h1,h2⟩:=hQ ho;obtain⟨h3,h4,h5,h6⟩:=okFlag_iff h1;simp only[Bool.and_eq_true]at h3;subst hacc
  refine(call_rel hX.G hf (body_codeOf hb) hnm hH hn hlook hd h5 h3.1 h3.2 (preP_spec h6) (I:=ι) (post:=hc.P) (out:=hc.out) (λi _=>by
   have:=h4 i;simp only[Bool.and_eq_true]at this
   exact⟨this.1,this.2.1,this.2.2⟩) h2).mono ?_
  rintro en w' ⟨i,hi,ρ2,h7,h8,v,h9,h10,h11⟩
  exact⟨i,⟨some ((hc.out i).val.ren (theta (fsts acc) nm)),renH (theta (fsts acc) nm) (hc.out i).wr,renH (theta (fsts acc) nm) (hc.out i).news,fsts acc,hc.obl⟩,hc.P i,
   by simp only[rconR,hrun,hd],hi,ρ2,h7,h8,v,h9,h10,h11⟩
theorem rcon_raw {P:Program} {X:RCtx} (hX:RCtxOk P X) {f:Nat} {fn:Func} (hf:P.funcs[f]? = some fn) (hb:fn.body.isNone=false) (hnm:(fn.name == "runtime.NumGoroutine")=false) {ι:Type} {ne:Nonempty ι} {C:List SV->RRd ι}
  (h:∀ args,(C args).All (λacc hc=>okP hc.obl->callPR fn args acc hc/\0<acc.length/\
   ∃ ts q val,(∀ i,hc.out i=⟨[],[],val i,[(0,rwO ts (q i))],[],none⟩)/\(∀ i,hc.P i->(val i).und (acc.length+12)=true)/\
   ∃ A B,runG X acc.length A B (codeOf fn) (init fn.ntmps hc.args hc.heap acc.length) (endK X.G.E.T fn.results.toList λS v=>RPost acc.length ts hc.P q val (look S.H 0) v)) []):RConOk P f (rconR ι ne C):=by
 refine rcon_gen hX hf hb hnm λargs=>?_
 have mono:∀ {Q Q':List (Nm×Ob)->RHC ι->Prop} (hq:∀ acc hc,Q acc hc->Q' acc hc) {m:RRd ι} {acc:List (Nm×Ob)},m.All Q acc->m.All Q' acc:=by
  intro Q Q' hq m
  induction m with
  | fail=>intro acc h;trivial
  | ret hc=>intro acc h;exact hq _ _ h
  | read n k ih=>intro acc h o;exact ih o (h o)
 refine mono (λacc hc hh ho=>?_) (h args);obtain⟨h1,h0,ts,q,val,ho1,hu,A,B,h2⟩:=hh ho;refine⟨h1,Wp.mono (runG_sound hX _ h2) λe S' hk'=>endK_mono (λS v hq=>?_) hk'⟩;obtain⟨i,hi,hl,hv⟩:=hq;refine⟨i,hi,[],?_⟩;rw[ho1 i];exact PostOk.one (n:=0) (o:=rwO ts (q i)) (o':=rwO ts (q i)) h0 rfl rfl hl trivial obR_raw hv (hu i hi)
end Go.Sx

namespace Go.Proofs.Try.Sx
open Go Go.Sx Go.Proofs
set_option maxRecDepth 100000
def ty2:TI:=⟨.int .i64,1,8, .cells [.int .i64 0],[]⟩
theorem ok2:TOk Try.prog 2 ty2:=by refine TOk.mk' ?_ ?_ ?_ ?_ ?_ no_ms ?_<;>kernel_rfl
def ty3:TI:=⟨.int .i64,1,8, .cells [.int .i64 0],[]⟩
theorem ok3:TOk Try.prog 3 ty3:=by refine TOk.mk' ?_ ?_ ?_ ?_ ?_ no_ms ?_<;>kernel_rfl
def ty4:TI:=⟨.bool,1,1, .cells [.ff],[]⟩
theorem ok4:TOk Try.prog 4 ty4:=by refine TOk.mk' ?_ ?_ ?_ ?_ ?_ no_ms ?_<;>kernel_rfl
def ty5:TI:=⟨.int .u8,1,1, .cells [.int .u8 0],[]⟩
theorem ok5:TOk Try.prog 5 ty5:=by refine TOk.mk' ?_ ?_ ?_ ?_ ?_ no_ms ?_<;>kernel_rfl
def ty6:TI:=⟨.int .u8,1,1, .cells [.int .u8 0],[]⟩
theorem ok6:TOk Try.prog 6 ty6:=by refine TOk.mk' ?_ ?_ ?_ ?_ ?_ no_ms ?_<;>kernel_rfl
def ty7:TI:=⟨.struct [(0,2),(1,3),(2,4),(3,6)],4,24, .cells [.int .i64 0, .int .i64 0, .ff, .int .u8 0],[]⟩
theorem ok7:TOk Try.prog 7 ty7:=by refine TOk.mk' ?_ ?_ ?_ ?_ ?_ no_ms ?_<;>kernel_rfl
def ty8:TI:=⟨.struct [(0,2),(1,3),(2,4),(3,6)],4,24, .cells [.int .i64 0, .int .i64 0, .ff, .int .u8 0],[]⟩
theorem ok8:TOk Try.prog 8 ty8:=by refine TOk.mk' ?_ ?_ ?_ ?_ ?_ no_ms ?_<;>kernel_rfl
def ty9:TI:=⟨.str,1,16, .cells [.str ⟨#[]⟩],[]⟩
theorem ok9:TOk Try.prog 9 ty9:=by refine TOk.mk' ?_ ?_ ?_ ?_ ?_ no_ms ?_<;>kernel_rfl
def ty10:TI:=⟨.str,1,16, .cells [.str ⟨#[]⟩],[]⟩
theorem ok10:TOk Try.prog 10 ty10:=by refine TOk.mk' ?_ ?_ ?_ ?_ ?_ no_ms ?_<;>kernel_rfl
def ty11:TI:=⟨.str,1,16, .cells [.str ⟨#[]⟩],[]⟩
theorem ok11:TOk Try.prog 11 ty11:=by refine TOk.mk' ?_ ?_ ?_ ?_ ?_ no_ms ?_<;>kernel_rfl
def ty12:TI:=⟨.int .u64,1,8, .cells [.int .u64 0],[]⟩
theorem ok12:TOk Try.prog 12 ty12:=by refine TOk.mk' ?_ ?_ ?_ ?_ ?_ no_ms ?_<;>kernel_rfl
def ty13:TI:=⟨.struct [(0,9),(1,12)],2,24, .cells [.str ⟨#[]⟩, .int .u64 0],[]⟩
theorem ok13:TOk Try.prog 13 ty13:=by refine TOk.mk' ?_ ?_ ?_ ?_ ?_ no_ms ?_<;>kernel_rfl
def ty14:TI:=⟨.struct [(0,9),(1,12)],2,24, .cells [.str ⟨#[]⟩, .int .u64 0],[]⟩
theorem ok14:TOk Try.prog 14 ty14:=by refine TOk.mk' ?_ ?_ ?_ ?_ ?_ no_ms ?_<;>kernel_rfl
def ty15:TI:=⟨.ptr 152,1,8, .cells [.nilp],[]⟩
theorem ok15:TOk Try.prog 15 ty15:=by refine TOk.mk' ?_ ?_ ?_ ?_ ?_ no_ms ?_<;>kernel_rfl
def ty16:TI:=⟨.ptr 155,1,8, .cells [.nilp],[]⟩
theorem ok16:TOk Try.prog 16 ty16:=by refine TOk.mk' ?_ ?_ ?_ ?_ ?_ no_ms ?_<;>kernel_rfl
def ty17:TI:=⟨.ptr 163,1,8, .cells [.nilp],[]⟩
theorem ok17:TOk Try.prog 17 ty17:=by refine TOk.mk' ?_ ?_ ?_ ?_ ?_ no_ms ?_<;>kernel_rfl
def ty18:TI:=⟨.struct [(0,17)],1,8, .cells [.nilp],[]⟩
theorem ok18:TOk Try.prog 18 ty18:=by refine TOk.mk' ?_ ?_ ?_ ?_ ?_ no_ms ?_<;>kernel_rfl
def ty19:TI:=⟨.struct [(0,17)],1,8, .cells [.nilp],[]⟩
theorem ok19:TOk Try.prog 19 ty19:=by refine TOk.mk' ?_ ?_ ?_ ?_ ?_ no_ms ?_<;>kernel_rfl
def ty20:TI:=⟨.iface,1,16, .cells [.nili],[]⟩
theorem ok20:TOk Try.prog 20 ty20:=by refine TOk.mk' ?_ ?_ ?_ ?_ ?_ no_ms ?_<;>kernel_rfl
def ty21:TI:=⟨.int .i32,1,4, .cells [.int .i32 0],[]⟩
theorem ok21:TOk Try.prog 21 ty21:=by refine TOk.mk' ?_ ?_ ?_ ?_ ?_ no_ms ?_<;>kernel_rfl
def ty22:TI:=⟨.slice 29,1,24, .cells [.nils],[]⟩
theorem ok22:TOk Try.prog 22 ty22:=by refine TOk.mk' ?_ ?_ ?_ ?_ ?_ no_ms ?_<;>kernel_rfl
def ty23:TI:=⟨.slice 41,1,24, .cells [.nils],[]⟩
theorem ok23:TOk Try.prog 23 ty23:=by refine TOk.mk' ?_ ?_ ?_ ?_ ?_ no_ms ?_<;>kernel_rfl
def ty27:TI:=⟨.slice 30,1,24, .cells [.nils],[]⟩
theorem ok27:TOk Try.prog 27 ty27:=by refine TOk.mk' ?_ ?_ ?_ ?_ ?_ no_ms ?_<;>kernel_rfl
def ty28:TI:=⟨.struct [(0,2),(1,2)],2,16, .cells [.int .i64 0, .int .i64 0],[]⟩
theorem ok28:TOk Try.prog 28 ty28:=by refine TOk.mk' ?_ ?_ ?_ ?_ ?_ no_ms ?_<;>kernel_rfl
def ty29:TI:=⟨.struct [(0,2),(1,2)],2,16, .cells [.int .i64 0, .int .i64 0],[]⟩
theorem ok29:TOk Try.prog 29 ty29:=by refine TOk.mk' ?_ ?_ ?_ ?_ ?_ no_ms ?_<;>kernel_rfl
def ty30:TI:=⟨.array 2 29,4,32, .cells [.int .i64 0, .int .i64 0, .int .i64 0, .int .i64 0],[]⟩
theorem ok30:TOk Try.prog 30 ty30:=by refine TOk.mk' ?_ ?_ ?_ ?_ ?_ no_ms ?_<;>kernel_rfl
def ty31:TI:=⟨.struct [(0,2),(1,2),(2,22),(3,27),(4,30),(8,4),(9,4),(10,4),(11,4),(12,4)],13,104, .cells [.int .i64 0, .int .i64 0, .nils, .nils, .int .i64 0, .int .i64 0, .int .i64 0, .int .i64 0, .ff, .ff, .ff, .ff, .ff],[]⟩
theorem ok31:TOk Try.prog 31 ty31:=by refine TOk.mk' ?_ ?_ ?_ ?_ ?_ no_ms ?_<;>kernel_rfl
def ty32:TI:=⟨.struct [(0,2),(1,2),(2,22),(3,27),(4,30),(8,4),(9,4),(10,4),(11,4),(12,4)],13,104, .cells [.int .i64 0, .int .i64 0, .nils, .nils, .int .i64 0, .int .i64 0, .int .i64 0, .int .i64 0, .ff, .ff, .ff, .ff, .ff],[]⟩
theorem ok32:TOk Try.prog 32 ty32:=by refine TOk.mk' ?_ ?_ ?_ ?_ ?_ no_ms ?_<;>kernel_rfl
def ty35:TI:=⟨.slice 42,1,24, .cells [.nils],[]⟩
theorem ok35:TOk Try.prog 35 ty35:=by refine TOk.mk' ?_ ?_ ?_ ?_ ?_ no_ms ?_<;>kernel_rfl
def ty41:TI:=⟨.struct [(0,2),(1,2)],2,16, .cells [.int .i64 0, .int .i64 0],[]⟩
theorem ok41:TOk Try.prog 41 ty41:=by refine TOk.mk' ?_ ?_ ?_ ?_ ?_ no_ms ?_<;>kernel_rfl
def ty42:TI:=⟨.array 2 41,4,32, .cells [.int .i64 0, .int .i64 0, .int .i64 0, .int .i64 0],[]⟩
theorem ok42:TOk Try.prog 42 ty42:=by refine TOk.mk' ?_ ?_ ?_ ?_ ?_ no_ms ?_<;>kernel_rfl
def ty48:TI:=⟨.iface,1,16, .cells [.nili],[]⟩
theorem ok48:TOk Try.prog 48 ty48:=by refine TOk.mk' ?_ ?_ ?_ ?_ ?_ no_ms ?_<;>kernel_rfl
def ty49:TI:=⟨.iface,1,16, .cells [.nili],[]⟩
theorem ok49:TOk Try.prog 49 ty49:=by refine TOk.mk' ?_ ?_ ?_ ?_ ?_ no_ms ?_<;>kernel_rfl
def ty53:TI:=⟨.flt .f64,1,8, .cells [.flt .f64 0],[]⟩
theorem ok53:TOk Try.prog 53 ty53:=by refine TOk.mk' ?_ ?_ ?_ ?_ ?_ no_ms ?_<;>kernel_rfl
def ty54:TI:=⟨.struct [(0,53),(1,53)],2,16, .cells [.flt .f64 0, .flt .f64 0],[]⟩
theorem ok54:TOk Try.prog 54 ty54:=by refine TOk.mk' ?_ ?_ ?_ ?_ ?_ no_ms ?_<;>kernel_rfl
def ty55:TI:=⟨.struct [(0,53),(1,53)],2,16, .cells [.flt .f64 0, .flt .f64 0],[⟨ "Empty",83,none⟩,⟨ "Rect",84,none⟩,⟨ "Valid",85,none⟩]⟩
theorem ok55:TOk Try.prog 55 ty55:=by refine TOk.mk' ?_ ?_ ?_ ?_ ?_ (cons_ms (MOk.of_chk ?_) (cons_ms (MOk.of_chk ?_) (cons_ms (MOk.of_chk ?_) no_ms))) ?_<;>kernel_rfl
def ty56:TI:=⟨.struct [(0,55),(2,55)],4,32, .cells [.flt .f64 0, .flt .f64 0, .flt .f64 0, .flt .f64 0],[]⟩
theorem ok56:TOk Try.prog 56 ty56:=by refine TOk.mk' ?_ ?_ ?_ ?_ ?_ no_ms ?_<;>kernel_rfl
def ty57:TI:=⟨.struct [(0,55),(2,55)],4,32, .cells [.flt .f64 0, .flt .f64 0, .flt .f64 0, .flt .f64 0],[⟨ "Area",86,none⟩,⟨ "Clockwise",87,none⟩,⟨ "Convex",88,none⟩,⟨ "Empty",89,none⟩,⟨ "Index",90,none⟩,⟨ "NumPoints",91,none⟩,⟨ "NumSegments",92,none⟩,⟨ "PointAt",93,none⟩,⟨ "Rect",94,none⟩,⟨ "Search",95,none⟩,⟨ "SegmentAt",96,none⟩,⟨ "Valid",97,none⟩]⟩
theorem ok57:TOk Try.prog 57 ty57:=by refine TOk.mk' ?_ ?_ ?_ ?_ ?_ (cons_ms (MOk.of_chk ?_) (cons_ms (MOk.of_chk ?_) (cons_ms (MOk.of_chk ?_) (cons_ms (MOk.of_chk ?_) (cons_ms (MOk.of_chk ?_) (cons_ms (MOk.of_chk ?_) (cons_ms (MOk.of_chk ?_) (cons_ms (MOk.of_chk ?_) (cons_ms (MOk.of_chk ?_) (cons_ms (MOk.of_chk ?_) (cons_ms (MOk.of_chk ?_) (cons_ms (MOk.of_chk ?_) no_ms)))))))))))) ?_<;>kernel_rfl
def ty62:TI:=⟨.struct [(0,55),(2,55)],4,32, .cells [.flt .f64 0, .flt .f64 0, .flt .f64 0, .flt .f64 0],[]⟩
theorem ok62:TOk Try.prog 62 ty62:=by refine TOk.mk' ?_ ?_ ?_ ?_ ?_ no_ms ?_<;>kernel_rfl
def ty63:TI:=⟨.struct [(0,55),(2,55)],4,32, .cells [.flt .f64 0, .flt .f64 0, .flt .f64 0, .flt .f64 0],[]⟩
theorem ok63:TOk Try.prog 63 ty63:=by refine TOk.mk' ?_ ?_ ?_ ?_ ?_ no_ms ?_<;>kernel_rfl
def ty66:TI:=⟨.struct [(0,4),(1,4)],2,2, .cells [.ff, .ff],[]⟩
theorem ok66:TOk Try.prog 66 ty66:=by refine TOk.mk' ?_ ?_ ?_ ?_ ?_ no_ms ?_<;>kernel_rfl
def ty67:TI:=⟨.struct [(0,4),(1,4)],2,2, .cells [.ff, .ff],[]⟩
theorem ok67:TOk Try.prog 67 ty67:=by refine TOk.mk' ?_ ?_ ?_ ?_ ?_ no_ms ?_<;>kernel_rfl
def ty70:TI:=⟨.slice 49,1,24, .cells [.nils],[]⟩
theorem ok70:TOk Try.prog 70 ty70:=by refine TOk.mk' ?_ ?_ ?_ ?_ ?_ no_ms ?_<;>kernel_rfl
def ty71:TI:=⟨.struct [(0,49),(1,70)],2,40, .cells [.nili, .nils],[]⟩
theorem ok71:TOk Try.prog 71 ty71:=by refine TOk.mk' ?_ ?_ ?_ ?_ ?_ no_ms ?_<;>kernel_rfl
def ty72:TI:=⟨.struct [(0,49),(1,70)],2,40, .cells [.nili, .nils],[]⟩
theorem ok72:TOk Try.prog 72 ty72:=by refine TOk.mk' ?_ ?_ ?_ ?_ ?_ no_ms ?_<;>kernel_rfl
def ty73:TI:=⟨.ptr 72,1,8, .cells [.nilp],[⟨ "Clockwise",98,none⟩,⟨ "Empty",99,none⟩,⟨ "Rect",100,none⟩,⟨ "Valid",101,none⟩]⟩
theorem ok73:TOk Try.prog 73 ty73:=by refine TOk.mk' ?_ ?_ ?_ ?_ ?_ (cons_ms (MOk.of_chk ?_) (cons_ms (MOk.of_chk ?_) (cons_ms (MOk.of_chk ?_) (cons_ms (MOk.of_chk ?_) no_ms)))) ?_<;>kernel_rfl
def ty75:TI:=⟨.slice 55,1,24, .cells [.nils],[]⟩
theorem ok75:TOk Try.prog 75 ty75:=by refine TOk.mk' ?_ ?_ ?_ ?_ ?_ no_ms ?_<;>kernel_rfl
def ty77:TI:=⟨.ptr 87,1,8, .cells [.nilp],[]⟩
theorem ok77:TOk Try.prog 77 ty77:=by refine TOk.mk' ?_ ?_ ?_ ?_ ?_ no_ms ?_<;>kernel_rfl
def ty79:TI:=⟨.ptr 91,1,8, .cells [.nilp],[⟨ "Clockwise",102,some 0⟩,⟨ "Convex",103,some 0⟩,⟨ "Empty",104,some 0⟩,⟨ "Index",105,some 0⟩,⟨ "NumPoints",106,some 0⟩,⟨ "NumSegments",42,some 0⟩,⟨ "PointAt",107,some 0⟩,⟨ "Rect",108,some 0⟩,⟨ "Search",109,some 0⟩,⟨ "SegmentAt",43,some 0⟩,⟨ "Valid",110,none⟩]⟩
theorem ok79:TOk Try.prog 79 ty79:=by refine TOk.mk' ?_ ?_ ?_ ?_ ?_ (cons_ms (MOk.of_chkO ?_) (cons_ms (MOk.of_chkO ?_) (cons_ms (MOk.of_chkO ?_) (cons_ms (MOk.of_chkO ?_) (cons_ms (MOk.of_chkO ?_) (cons_ms (MOk.of_chkO ?_) (cons_ms (MOk.of_chkO ?_) (cons_ms (MOk.of_chkO ?_) (cons_ms (MOk.of_chkO ?_) (cons_ms (MOk.of_chkO ?_) (cons_ms (MOk.of_chk ?_) no_ms))))))))))) ?_<;>kernel_rfl
def ty83:TI:=⟨.slice 75,1,24, .cells [.nils],[]⟩
theorem ok83:TOk Try.prog 83 ty83:=by refine TOk.mk' ?_ ?_ ?_ ?_ ?_ no_ms ?_<;>kernel_rfl
def ty85:TI:=⟨.int .u8,1,1, .cells [.int .u8 0],[]⟩
theorem ok85:TOk Try.prog 85 ty85:=by refine TOk.mk' ?_ ?_ ?_ ?_ ?_ no_ms ?_<;>kernel_rfl
def ty86:TI:=⟨.struct [(0,85),(1,3)],2,16, .cells [.int .u8 0, .int .i64 0],[]⟩
theorem ok86:TOk Try.prog 86 ty86:=by refine TOk.mk' ?_ ?_ ?_ ?_ ?_ no_ms ?_<;>kernel_rfl
def ty87:TI:=⟨.struct [(0,85),(1,3)],2,16, .cells [.int .u8 0, .int .i64 0],[]⟩
theorem ok87:TOk Try.prog 87 ty87:=by refine TOk.mk' ?_ ?_ ?_ ?_ ?_ no_ms ?_<;>kernel_rfl
def ty88:TI:=⟨.struct [(0,4),(1,4),(2,4),(3,85),(4,20),(5,57),(9,75)],10,80, .cells [.ff, .ff, .ff, .int .u8 0, .nili, .flt .f64 0, .flt .f64 0, .flt .f64 0, .flt .f64 0, .nils],[]⟩
theorem ok88:TOk Try.prog 88 ty88:=by refine TOk.mk' ?_ ?_ ?_ ?_ ?_ no_ms ?_<;>kernel_rfl
def ty89:TI:=⟨.struct [(0,4),(1,4),(2,4),(3,85),(4,20),(5,57),(9,75)],10,80, .cells [.ff, .ff, .ff, .int .u8 0, .nili, .flt .f64 0, .flt .f64 0, .flt .f64 0, .flt .f64 0, .nils],[]⟩
theorem ok89:TOk Try.prog 89 ty89:=by refine TOk.mk' ?_ ?_ ?_ ?_ ?_ no_ms ?_<;>kernel_rfl
def ty90:TI:=⟨.struct [(0,89)],10,80, .cells [.ff, .ff, .ff, .int .u8 0, .nili, .flt .f64 0, .flt .f64 0, .flt .f64 0, .flt .f64 0, .nils],[]⟩
theorem ok90:TOk Try.prog 90 ty90:=by refine TOk.mk' ?_ ?_ ?_ ?_ ?_ no_ms ?_<;>kernel_rfl
def ty91:TI:=⟨.struct [(0,89)],10,80, .cells [.ff, .ff, .ff, .int .u8 0, .nili, .flt .f64 0, .flt .f64 0, .flt .f64 0, .flt .f64 0, .nils],[]⟩
theorem ok91:TOk Try.prog 91 ty91:=by refine TOk.mk' ?_ ?_ ?_ ?_ ?_ no_ms ?_<;>kernel_rfl
def ty96:TI:=⟨.int .u64,1,8, .cells [.int .u64 0],[]⟩
theorem ok96:TOk Try.prog 96 ty96:=by refine TOk.mk' ?_ ?_ ?_ ?_ ?_ no_ms ?_<;>kernel_rfl
def ty98:TI:=⟨.ptr 89,1,8, .cells [.nilp],[⟨ "Clockwise",102,none⟩,⟨ "Convex",103,none⟩,⟨ "Empty",104,none⟩,⟨ "Index",105,none⟩,⟨ "NumPoints",106,none⟩,⟨ "NumSegments",42,none⟩,⟨ "PointAt",107,none⟩,⟨ "Rect",108,none⟩,⟨ "Search",109,none⟩,⟨ "SegmentAt",43,none⟩,⟨ "Valid",111,none⟩]⟩
theorem ok98:TOk Try.prog 98 ty98:=by refine TOk.mk' ?_ ?_ ?_ ?_ ?_ (cons_ms (MOk.of_chk ?_) (cons_ms (MOk.of_chk ?_) (cons_ms (MOk.of_chk ?_) (cons_ms (MOk.of_chk ?_) (cons_ms (MOk.of_chk ?_) (cons_ms (MOk.of_chk ?_) (cons_ms (MOk.of_chk ?_) (cons_ms (MOk.of_chk ?_) (cons_ms (MOk.of_chk ?_) (cons_ms (MOk.of_chk ?_) (cons_ms (MOk.of_chk ?_) no_ms))))))))))) ?_<;>kernel_rfl
def ty102:TI:=⟨.ptr 108,1,8, .cells [.nilp],[]⟩
theorem ok102:TOk Try.prog 102 ty102:=by refine TOk.mk' ?_ ?_ ?_ ?_ ?_ no_ms ?_<;>kernel_rfl
def ty103:TI:=⟨.array 2 53,2,16, .cells [.flt .f64 0, .flt .f64 0],[]⟩
theorem ok103:TOk Try.prog 103 ty103:=by refine TOk.mk' ?_ ?_ ?_ ?_ ?_ no_ms ?_<;>kernel_rfl
def ty104:TI:=⟨.struct [(0,20),(1,103),(3,103)],5,48, .cells [.nili, .flt .f64 0, .flt .f64 0, .flt .f64 0, .flt .f64 0],[]⟩
theorem ok104:TOk Try.prog 104 ty104:=by refine TOk.mk' ?_ ?_ ?_ ?_ ?_ no_ms ?_<;>kernel_rfl
def ty105:TI:=⟨.struct [(0,20),(1,103),(3,103)],5,48, .cells [.nili, .flt .f64 0, .flt .f64 0, .flt .f64 0, .flt .f64 0],[]⟩
theorem ok105:TOk Try.prog 105 ty105:=by refine TOk.mk' ?_ ?_ ?_ ?_ ?_ no_ms ?_<;>kernel_rfl
def ty106:TI:=⟨.slice 105,1,24, .cells [.nils],[]⟩
theorem ok106:TOk Try.prog 106 ty106:=by refine TOk.mk' ?_ ?_ ?_ ?_ ?_ no_ms ?_<;>kernel_rfl
def ty107:TI:=⟨.struct [(0,3),(1,105),(6,3),(7,106)],8,88, .cells [.int .i64 0, .nili, .flt .f64 0, .flt .f64 0, .flt .f64 0, .flt .f64 0, .int .i64 0, .nils],[]⟩
theorem ok107:TOk Try.prog 107 ty107:=by refine TOk.mk' ?_ ?_ ?_ ?_ ?_ no_ms ?_<;>kernel_rfl
def ty108:TI:=⟨.struct [(0,3),(1,105),(6,3),(7,106)],8,88, .cells [.int .i64 0, .nili, .flt .f64 0, .flt .f64 0, .flt .f64 0, .flt .f64 0, .int .i64 0, .nils],[]⟩
theorem ok108:TOk Try.prog 108 ty108:=by refine TOk.mk' ?_ ?_ ?_ ?_ ?_ no_ms ?_<;>kernel_rfl
def ty110:TI:=⟨.slice 53,1,24, .cells [.nils],[]⟩
theorem ok110:TOk Try.prog 110 ty110:=by refine TOk.mk' ?_ ?_ ?_ ?_ ?_ no_ms ?_<;>kernel_rfl
def ty112:TI:=⟨.slice 5,1,24, .cells [.nils],[]⟩
theorem ok112:TOk Try.prog 112 ty112:=by refine TOk.mk' ?_ ?_ ?_ ?_ ?_ no_ms ?_<;>kernel_rfl
def ty114:TI:=⟨.ptr 118,1,8, .cells [.nilp],[]⟩
theorem ok114:TOk Try.prog 114 ty114:=by refine TOk.mk' ?_ ?_ ?_ ?_ ?_ no_ms ?_<;>kernel_rfl
def ty115:TI:=⟨.slice 127,1,24, .cells [.nils],[]⟩
theorem ok115:TOk Try.prog 115 ty115:=by refine TOk.mk' ?_ ?_ ?_ ?_ ?_ no_ms ?_<;>kernel_rfl
def ty116:TI:=⟨.array 4 114,4,32, .cells [.nilp, .nilp, .nilp, .nilp],[]⟩
theorem ok116:TOk Try.prog 116 ty116:=by refine TOk.mk' ?_ ?_ ?_ ?_ ?_ no_ms ?_<;>kernel_rfl
def ty117:TI:=⟨.struct [(0,4),(1,115),(2,116)],6,64, .cells [.ff, .nils, .nilp, .nilp, .nilp, .nilp],[]⟩
theorem ok117:TOk Try.prog 117 ty117:=by refine TOk.mk' ?_ ?_ ?_ ?_ ?_ no_ms ?_<;>kernel_rfl
def ty118:TI:=⟨.struct [(0,4),(1,115),(2,116)],6,64, .cells [.ff, .nils, .nilp, .nilp, .nilp, .nilp],[]⟩
theorem ok118:TOk Try.prog 118 ty118:=by refine TOk.mk' ?_ ?_ ?_ ?_ ?_ no_ms ?_<;>kernel_rfl
def ty122:TI:=⟨.ptr 105,1,8, .cells [.nilp],[]⟩
theorem ok122:TOk Try.prog 122 ty122:=by refine TOk.mk' ?_ ?_ ?_ ?_ ?_ no_ms ?_<;>kernel_rfl
def ty124:TI:=⟨.struct [],0,0, .cells [],[]⟩
theorem ok124:TOk Try.prog 124 ty124:=by refine TOk.mk' ?_ ?_ ?_ ?_ ?_ no_ms ?_<;>kernel_rfl
def ty125:TI:=⟨.struct [],0,0, .cells [],[]⟩
theorem ok125:TOk Try.prog 125 ty125:=by refine TOk.mk' ?_ ?_ ?_ ?_ ?_ no_ms ?_<;>kernel_rfl
def ty127:TI:=⟨.int .u32,1,4, .cells [.int .u32 0],[]⟩
theorem ok127:TOk Try.prog 127 ty127:=by refine TOk.mk' ?_ ?_ ?_ ?_ ?_ no_ms ?_<;>kernel_rfl
def ty133:TI:=⟨.array 4 3,4,32, .cells [.int .i64 0, .int .i64 0, .int .i64 0, .int .i64 0],[]⟩
theorem ok133:TOk Try.prog 133 ty133:=by refine TOk.mk' ?_ ?_ ?_ ?_ ?_ no_ms ?_<;>kernel_rfl
def ty134:TI:=⟨.ptr 137,1,8, .cells [.nilp],[]⟩
theorem ok134:TOk Try.prog 134 ty134:=by refine TOk.mk' ?_ ?_ ?_ ?_ ?_ no_ms ?_<;>kernel_rfl
def ty135:TI:=⟨.array 17 105,85,816, .cells [.nili, .flt .f64 0, .flt .f64 0, .flt .f64 0, .flt .f64 0, .nili, .flt .f64 0, .flt .f64 0, .flt .f64 0, .flt .f64 0, .nili, .flt .f64 0, .flt .f64 0, .flt .f64 0, .flt .f64 0, .nili, .flt .f64 0, .flt .f64 0, .flt .f64 0, .flt .f64 0, .nili, .flt .f64 0, .flt .f64 0, .flt .f64 0, .flt .f64 0, .nili, .flt .f64 0, .flt .f64 0, .flt .f64 0, .flt .f64 0, .nili, .flt .f64 0, .flt .f64 0, .flt .f64 0, .flt .f64 0, .nili, .flt .f64 0, .flt .f64 0, .flt .f64 0, .flt .f64 0, .nili, .flt .f64 0, .flt .f64 0, .flt .f64 0, .flt .f64 0, .nili, .flt .f64 0, .flt .f64 0, .flt .f64 0, .flt .f64 0, .nili, .flt .f64 0, .flt .f64 0, .flt .f64 0, .flt .f64 0, .nili, .flt .f64 0, .flt .f64 0, .flt .f64 0, .flt .f64 0, .nili, .flt .f64 0, .flt .f64 0, .flt .f64 0, .flt .f64 0, .nili, .flt .f64 0, .flt .f64 0, .flt .f64 0, .flt .f64 0, .nili, .flt .f64 0, .flt .f64 0, .flt .f64 0, .flt .f64 0, .nili, .flt .f64 0, .flt .f64 0, .flt .f64 0, .flt .f64 0, .nili, .flt .f64 0, .flt .f64 0, .flt .f64 0, .flt .f64 0],[]⟩
theorem ok135:TOk Try.prog 135 ty135:=by refine TOk.mk' ?_ ?_ ?_ ?_ ?_ no_ms ?_<;>kernel_rfl
def ty136:TI:=⟨.struct [(0,3),(1,135)],86,824, .cells [.int .i64 0, .nili, .flt .f64 0, .flt .f64 0, .flt .f64 0, .flt .f64 0, .nili, .flt .f64 0, .flt .f64 0, .flt .f64 0, .flt .f64 0, .nili, .flt .f64 0, .flt .f64 0, .flt .f64 0, .flt .f64 0, .nili, .flt .f64 0, .flt .f64 0, .flt .f64 0, .flt .f64 0, .nili, .flt .f64 0, .flt .f64 0, .flt .f64 0, .flt .f64 0, .nili, .flt .f64 0, .flt .f64 0, .flt .f64 0, .flt .f64 0, .nili, .flt .f64 0, .flt .f64 0, .flt .f64 0, .flt .f64 0, .nili, .flt .f64 0, .flt .f64 0, .flt .f64 0, .flt .f64 0, .nili, .flt .f64 0, .flt .f64 0, .flt .f64 0, .flt .f64 0, .nili, .flt .f64 0, .flt .f64 0, .flt .f64 0, .flt .f64 0, .nili, .flt .f64 0, .flt .f64 0, .flt .f64 0, .flt .f64 0, .nili, .flt .f64 0, .flt .f64 0, .flt .f64 0, .flt .f64 0, .nili, .flt .f64 0, .flt .f64 0, .flt .f64 0, .flt .f64 0, .nili, .flt .f64 0, .flt .f64 0, .flt .f64 0, .flt .f64 0, .nili, .flt .f64 0, .flt .f64 0, .flt .f64 0, .flt .f64 0, .nili, .flt .f64 0, .flt .f64 0, .flt .f64 0, .flt .f64 0, .nili, .flt .f64 0, .flt .f64 0, .flt .f64 0, .flt .f64 0],[]⟩
theorem ok136:TOk Try.prog 136 ty136:=by refine TOk.mk' ?_ ?_ ?_ ?_ ?_ no_ms ?_<;>kernel_rfl
def ty137:TI:=⟨.struct [(0,3),(1,135)],86,824, .cells [.int .i64 0, .nili, .flt .f64 0, .flt .f64 0, .flt .f64 0, .flt .f64 0, .nili, .flt .f64 0, .flt .f64 0, .flt .f64 0, .flt .f64 0, .nili, .flt .f64 0, .flt .f64 0, .flt .f64 0, .flt .f64 0, .nili, .flt .f64 0, .flt .f64 0, .flt .f64 0, .flt .f64 0, .nili, .flt .f64 0, .flt .f64 0, .flt .f64 0, .flt .f64 0, .nili, .flt .f64 0, .flt .f64 0, .flt .f64 0, .flt .f64 0, .nili, .flt .f64 0, .flt .f64 0, .flt .f64 0, .flt .f64 0, .nili, .flt .f64 0, .flt .f64 0, .flt .f64 0, .flt .f64 0, .nili, .flt .f64 0, .flt .f64 0, .flt .f64 0, .flt .f64 0, .nili, .flt .f64 0, .flt .f64 0, .flt .f64 0, .flt .f64 0, .nili, .flt .f64 0, .flt .f64 0, .flt .f64 0, .flt .f64 0, .nili, .flt .f64 0, .flt .f64 0, .flt .f64 0, .flt .f64 0, .nili, .flt .f64 0, .flt .f64 0, .flt .f64 0, .flt .f64 0, .nili, .flt .f64 0, .flt .f64 0, .flt .f64 0, .flt .f64 0, .nili, .flt .f64 0, .flt .f64 0, .flt .f64 0, .flt .f64 0, .nili, .flt .f64 0, .flt .f64 0, .flt .f64 0, .flt .f64 0, .nili, .flt .f64 0, .flt .f64 0, .flt .f64 0, .flt .f64 0],[]⟩
theorem ok137:TOk Try.prog 137 ty137:=by refine TOk.mk' ?_ ?_ ?_ ?_ ?_ no_ms ?_<;>kernel_rfl
def ty139:TI:=⟨.int .u64,1,8, .cells [.int .u64 0],[]⟩
theorem ok139:TOk Try.prog 139 ty139:=by refine TOk.mk' ?_ ?_ ?_ ?_ ?_ no_ms ?_<;>kernel_rfl
def ty141:TI:=⟨.slice 3,1,24, .cells [.nils],[]⟩
theorem ok141:TOk Try.prog 141 ty141:=by refine TOk.mk' ?_ ?_ ?_ ?_ ?_ no_ms ?_<;>kernel_rfl
def ty143:TI:=⟨.int .u16,1,2, .cells [.int .u16 0],[]⟩
theorem ok143:TOk Try.prog 143 ty143:=by refine TOk.mk' ?_ ?_ ?_ ?_ ?_ no_ms ?_<;>kernel_rfl
def ty148:TI:=⟨.array 8 5,8,8, .cells [.int .u8 0, .int .u8 0, .int .u8 0, .int .u8 0, .int .u8 0, .int .u8 0, .int .u8 0, .int .u8 0],[]⟩
theorem ok148:TOk Try.prog 148 ty148:=by refine TOk.mk' ?_ ?_ ?_ ?_ ?_ no_ms ?_<;>kernel_rfl
def ty151:TI:=⟨.struct [(0,17),(1,17),(2,17),(3,9)],4,40, .cells [.nilp, .nilp, .nilp, .str ⟨#[]⟩],[]⟩
theorem ok151:TOk Try.prog 151 ty151:=by refine TOk.mk' ?_ ?_ ?_ ?_ ?_ no_ms ?_<;>kernel_rfl
def ty152:TI:=⟨.struct [(0,17),(1,17),(2,17),(3,9)],4,40, .cells [.nilp, .nilp, .nilp, .str ⟨#[]⟩],[]⟩
theorem ok152:TOk Try.prog 152 ty152:=by refine TOk.mk' ?_ ?_ ?_ ?_ ?_ no_ms ?_<;>kernel_rfl
def ty153:TI:=⟨.array 0 16,0,0, .cells [],[]⟩
theorem ok153:TOk Try.prog 153 ty153:=by refine TOk.mk' ?_ ?_ ?_ ?_ ?_ no_ms ?_<;>kernel_rfl
def ty154:TI:=⟨.struct [(0,153)],0,0, .cells [],[]⟩
theorem ok154:TOk Try.prog 154 ty154:=by refine TOk.mk' ?_ ?_ ?_ ?_ ?_ no_ms ?_<;>kernel_rfl
def ty155:TI:=⟨.struct [(0,153)],0,0, .cells [],[]⟩
theorem ok155:TOk Try.prog 155 ty155:=by refine TOk.mk' ?_ ?_ ?_ ?_ ?_ no_ms ?_<;>kernel_rfl
def ty156:TI:=⟨.int .u8,1,1, .cells [.int .u8 0],[]⟩
theorem ok156:TOk Try.prog 156 ty156:=by refine TOk.mk' ?_ ?_ ?_ ?_ ?_ no_ms ?_<;>kernel_rfl
def ty157:TI:=⟨.int .u8,1,1, .cells [.int .u8 0],[]⟩
theorem ok157:TOk Try.prog 157 ty157:=by refine TOk.mk' ?_ ?_ ?_ ?_ ?_ no_ms ?_<;>kernel_rfl
def ty159:TI:=⟨.ptr 5,1,8, .cells [.nilp],[]⟩
theorem ok159:TOk Try.prog 159 ty159:=by refine TOk.mk' ?_ ?_ ?_ ?_ ?_ no_ms ?_<;>kernel_rfl
def ty160:TI:=⟨.int .i32,1,4, .cells [.int .i32 0],[]⟩
theorem ok160:TOk Try.prog 160 ty160:=by refine TOk.mk' ?_ ?_ ?_ ?_ ?_ no_ms ?_<;>kernel_rfl
def ty161:TI:=⟨.int .i32,1,4, .cells [.int .i32 0],[]⟩
theorem ok161:TOk Try.prog 161 ty161:=by refine TOk.mk' ?_ ?_ ?_ ?_ ?_ no_ms ?_<;>kernel_rfl
def ty162:TI:=⟨.struct [(0,12),(1,12),(2,127),(3,156),(4,5),(5,5),(6,157),(7,158),(8,159),(9,160),(10,161)],11,48, .cells [.int .u64 0, .int .u64 0, .int .u32 0, .int .u8 0, .int .u8 0, .int .u8 0, .int .u8 0, .nilf, .nilp, .int .i32 0, .int .i32 0],[]⟩
theorem ok162:TOk Try.prog 162 ty162:=by refine TOk.mk' ?_ ?_ ?_ ?_ ?_ no_ms ?_<;>kernel_rfl
def ty163:TI:=⟨.struct [(0,12),(1,12),(2,127),(3,156),(4,5),(5,5),(6,157),(7,158),(8,159),(9,160),(10,161)],11,48, .cells [.int .u64 0, .int .u64 0, .int .u32 0, .int .u8 0, .int .u8 0, .int .u8 0, .int .u8 0, .nilf, .nilp, .int .i32 0, .int .i32 0],[]⟩
theorem ok163:TOk Try.prog 163 ty163:=by refine TOk.mk' ?_ ?_ ?_ ?_ ?_ no_ms ?_<;>kernel_rfl
def ty165:TI:=⟨.slice 63,1,24, .cells [.nils],[]⟩
theorem ok165:TOk Try.prog 165 ty165:=by refine TOk.mk' ?_ ?_ ?_ ?_ ?_ no_ms ?_<;>kernel_rfl
def tys:Tys:=[(2,ty2),(3,ty3),(4,ty4),(5,ty5),(6,ty6),(7,ty7),(8,ty8),(9,ty9),(10,ty10),(11,ty11),(12,ty12),(13,ty13),(14,ty14),(15,ty15),(16,ty16),(17,ty17),(18,ty18),(19,ty19),(20,ty20),(21,ty21),(22,ty22),(23,ty23),(27,ty27),(28,ty28),(29,ty29),(30,ty30),(31,ty31),(32,ty32),(35,ty35),(41,ty41),(42,ty42),(48,ty48),(49,ty49),(53,ty53),(54,ty54),(55,ty55),(56,ty56),(57,ty57),(62,ty62),(63,ty63),(66,ty66),(67,ty67),(70,ty70),(71,ty71),(72,ty72),(73,ty73),(75,ty75),(77,ty77),(79,ty79),(83,ty83),(85,ty85),(86,ty86),(87,ty87),(88,ty88),(89,ty89),(90,ty90),(91,ty91),(96,ty96),(98,ty98),(102,ty102),(103,ty103),(104,ty104),(105,ty105),(106,ty106),(107,ty107),(108,ty108),(110,ty110),(112,ty112),(114,ty114),(115,ty115),(116,ty116),(117,ty117),(118,ty118),(122,ty122),(124,ty124),(125,ty125),(127,ty127),(133,ty133),(134,ty134),(135,ty135),(136,ty136),(137,ty137),(139,ty139),(141,ty141),(143,ty143),(148,ty148),(151,ty151),(152,ty152),(153,ty153),(154,ty154),(155,ty155),(156,ty156),(157,ty157),(159,ty159),(160,ty160),(161,ty161),(162,ty162),(163,ty163),(165,ty165)]
theorem tysOk:TysOk Try.prog tys:=by
 unfold tys;refine TysOk.cons ok2 ?_;refine TysOk.cons ok3 ?_;refine TysOk.cons ok4 ?_;refine TysOk.cons ok5 ?_;refine TysOk.cons ok6 ?_;refine TysOk.cons ok7 ?_;refine TysOk.cons ok8 ?_;refine TysOk.cons ok9 ?_;refine TysOk.cons ok10 ?_;refine TysOk.cons ok11 ?_;refine TysOk.cons ok12 ?_;refine TysOk.cons ok13 ?_;refine TysOk.cons ok14 ?_;refine TysOk.cons ok15 ?_;refine TysOk.cons ok16 ?_;refine TysOk.cons ok17 ?_;refine TysOk.cons ok18 ?_;refine TysOk.cons ok19 ?_;refine TysOk.cons ok20 ?_;refine TysOk.cons ok21 ?_;refine TysOk.cons ok22 ?_;refine TysOk.cons ok23 ?_;refine TysOk.cons ok27 ?_
 refine TysOk.cons ok28 ?_;refine TysOk.cons ok29 ?_;refine TysOk.cons ok30 ?_;refine TysOk.cons ok31 ?_;refine TysOk.cons ok32 ?_;refine TysOk.cons ok35 ?_;refine TysOk.cons ok41 ?_;refine TysOk.cons ok42 ?_;refine TysOk.cons ok48 ?_;refine TysOk.cons ok49 ?_;refine TysOk.cons ok53 ?_;refine TysOk.cons ok54 ?_;refine TysOk.cons ok55 ?_;refine TysOk.cons ok56 ?_;refine TysOk.cons ok57 ?_;refine TysOk.cons ok62 ?_;refine TysOk.cons ok63 ?_;refine TysOk.cons ok66 ?_;refine TysOk.cons ok67 ?_;refine TysOk.cons ok70 ?_;refine TysOk.cons ok71 ?_;refine TysOk.cons ok72 ?_;refine TysOk.cons ok73 ?_
 refine TysOk.cons ok75 ?_;refine TysOk.cons ok77 ?_;refine TysOk.cons ok79 ?_;refine TysOk.cons ok83 ?_;refine TysOk.cons ok85 ?_;refine TysOk.cons ok86 ?_;refine TysOk.cons ok87 ?_;refine TysOk.cons ok88 ?_;refine TysOk.cons ok89 ?_;refine TysOk.cons ok90 ?_;refine TysOk.cons ok91 ?_;refine TysOk.cons ok96 ?_;refine TysOk.cons ok98 ?_;refine TysOk.cons ok102 ?_;refine TysOk.cons ok103 ?_;refine TysOk.cons ok104 ?_;refine TysOk.cons ok105 ?_;refine TysOk.cons ok106 ?_;refine TysOk.cons ok107 ?_;refine TysOk.cons ok108 ?_;refine TysOk.cons ok110 ?_;refine TysOk.cons ok112 ?_
 refine TysOk.cons ok114 ?_;refine TysOk.cons ok115 ?_;refine TysOk.cons ok116 ?_;refine TysOk.cons ok117 ?_;refine TysOk.cons ok118 ?_;refine TysOk.cons ok122 ?_;refine TysOk.cons ok124 ?_;refine TysOk.cons ok125 ?_;refine TysOk.cons ok127 ?_;refine TysOk.cons ok133 ?_;refine TysOk.cons ok134 ?_;refine TysOk.cons ok135 ?_;refine TysOk.cons ok136 ?_;refine TysOk.cons ok137 ?_;refine TysOk.cons ok139 ?_;refine TysOk.cons ok141 ?_;refine TysOk.cons ok143 ?_;refine TysOk.cons ok148 ?_;refine TysOk.cons ok151 ?_;refine TysOk.cons ok152 ?_;refine TysOk.cons ok153 ?_;refine TysOk.cons ok154 ?_
 refine TysOk.cons ok155 ?_;refine TysOk.cons ok156 ?_;refine TysOk.cons ok157 ?_;refine TysOk.cons ok159 ?_;refine TysOk.cons ok160 ?_;refine TysOk.cons ok161 ?_;refine TysOk.cons ok162 ?_;refine TysOk.cons ok163 ?_;refine TysOk.cons ok165 ?_;exact TysOk.nil
end Go.Proofs.Try.Sx
