/- FnPolyFar: shapes whose rectangles do not meet neither contain nor intersect one another: the law returns true at every input and leaves its input as it was; no conditions. -/
import Derived.Test.YtfhkmkhcofodmaaGreatRows
import Derived.Test.YtfhkmkhcofodmaaGreatFM8
namespace Go.Proofs.YtfhkmkhcofodmaaGreat
open Go Go.Sx Go.RowKit Go.ChangeShapes Go.WideShapes Go.ChangeAt Go.Joins
set_option maxRecDepth 100000
theorem Tryz.own : ownKnob Tryz.prog.godebug = none := by kernel_rfl
theorem Tryz.laidOut : laidOutB Tryz.prog = true := by kernel_rfl
theorem open_u8 {P : Program} {W : World} {r : Reach} {b0 t : Nat} {v : Value} (ht : P.underlying t = some (.int .u8)) (hv : Value.okWide P W r b0 t v) : ∃ n : Int, v = .int .u8 n ∧ 0 ≤ n ∧ n ≤ 255 := by
 unfold Value.okWide at hv
 rw [ht] at hv
 simp only at hv
 unfold Cell.okWide at hv
 rw [ht] at hv
 simp only at hv
 unfold Cell.ok at hv
 rw [ht] at hv
 cases v <;> simp only at hv
 obtain ⟨rfl, h1, h2⟩ := hv
 exact ⟨_, rfl, h1, h2⟩
theorem hab_hL {k : Nat} {hl : Nat → Nat} (hk : k ≤ 4) : Tryz.Sx.hab k (hL k hl 0) (hL k hl 1) (hL k hl 2) (hL k hl 3) := by
 unfold Tryz.Sx.hab hL
 refine ⟨hk, fun h => if_neg (by omega), fun h => if_neg (by omega), fun h => if_neg (by omega), fun h => if_neg (by omega)⟩
theorem poly_bd {K a b : Nat} (ha : a < K) (hb : b < K) {l k : Nat} : (SV.agg [.slcc a l, .slcc b k]).bd (· < K) := ⟨ha, hb, trivial⟩
theorem slcc_bd {K a l : Nat} (h : a < K) : (SV.slcc a l).bd (· < K) := h
theorem row_bd {K k a b c d : Nat} {w x y z : Nat} (ha : a < K) (hb : b < K) (hc : c < K) (hd : d < K) : (Cont.upto k [.slcc a w, .slcc b x, .slcc c y, .slcc d z]).bd (· < K) := by
 intro i _
 match i with
 | 0 => exact ha
 | 1 => exact hb
 | 2 => exact hc
 | 3 => exact hd
 | i + 4 => trivial
theorem far_lifted (os : Os) (started : os.Started) (H : Type) (enc : TypeId × Value → H) :
   ReturnsInHanded {} Tryz.checked os 9 .any (Rows.fnPolyFarSpec.pre6 enc Tryz.prog Tryz.f9 Rows.fnPolyFarRow.domain false) (Rows.fnPolyFarSpec.post enc Tryz.prog Tryz.f9 false true false false) := by
 refine returnsInHanded_of_change (C := Tryz.checked) Tryz.own started (by kernel_rfl) Tryz.func9
   (ChangeSpec.witness6 (enc := enc) (C := Tryz.checked) false ⟨#[], #[.agg #[.slice none 0 0, .slice none 0 0], .agg #[.slice none 0 0, .slice none 0 0], .slice none 0 0, .int .u8 0], []⟩ 8 (by kernel_rfl) (by kernel_rfl) (by kernel_rfl) (by kernel_rfl)) ?_
 intro W base args ds gs before hval0 hW hcnd _
 have hval : ∀ (j : Nat) t v, Tryz.f9.params[j]? = some t → args[j]? = some v → Value.okWide Tryz.prog W .any base t v := hval0
 have hW' := hW
 obtain ⟨p, q, hA0, hV, rfl, hfz, hnd⟩ := hW
 have hA : DataW.TrodAll enc Tryz.prog W 0 (fun _ => true) true Tryz.f9.params.toList args.toList ds p := hA0
 rw [Tryz.params9] at hA hval
 obtain ⟨v0, v1, v2, v3, d0, d1, d2, d3, p0, p1, p2, p3, rfl, rfl, rfl, h0, h1, h2, h3⟩ := trodAll_four hA
 obtain ⟨rfl, rfl⟩ := trodVars_none hV
 obtain ⟨ad, len, cap, g, ah, k, kcap, ha, hl, hc, hg, rfl, hI, hH⟩ := open_poly Tryz.underlying70 (by kernel_rfl) (by kernel_rfl) rfl rfl rfl rfl Tryz.underlying68 (by kernel_rfl) (by kernel_rfl) Tryz.underlying26 Tryz.underlying28 (by kernel_rfl) rfl rfl (by kernel_rfl) (by kernel_rfl) Tryz.underlying2 Tryz.underlying2 (hval 0 70 v0 rfl rfl) h0
 obtain ⟨adb, lenb, capb, gb, ahb, kb, kcapb, hab', hlb, hcb, hgb, rfl, hIb, hHb⟩ := open_poly Tryz.underlying70 (by kernel_rfl) (by kernel_rfl) rfl rfl rfl rfl Tryz.underlying68 (by kernel_rfl) (by kernel_rfl) Tryz.underlying26 Tryz.underlying28 (by kernel_rfl) rfl rfl (by kernel_rfl) (by kernel_rfl) Tryz.underlying2 Tryz.underlying2 (hval 1 70 v1 rfl rfl) h1
 obtain ⟨al, ll, capl, gl, rfl, _, hIl⟩ := open_pts Tryz.underlying26 Tryz.underlying28 (by kernel_rfl) rfl rfl (by kernel_rfl) (by kernel_rfl) Tryz.underlying2 Tryz.underlying2 (hval 2 26 v2 rfl rfl) h2
 obtain ⟨byI, rfl, hb0, hb1⟩ := open_u8 Tryz.underlying5 (hval 3 5 v3 rfl rfl)
 have main : Calls Tryz.prog 9 #[.agg #[.slice ad len cap, .slice ah k kcap], .agg #[.slice adb lenb capb, .slice ahb kb kcapb], .slice al ll capl, .int .u8 byI] W fun en w' => en = .returned (.bool true) ∧ Below W.heap.size W w' := by
   have dens : ∀ (ρ : Rho) (a b c d m : Nm), ρ a = rhoOf ad cap → ρ b = rhoOf ah kcap → ρ c = rhoOf adb capb → ρ d = rhoOf ahb kcapb → ρ m = rhoOf al capl →
       (denL ρ [.agg [.slcc a len, .slcc b k], .agg [.slcc c lenb, .slcc d kb], .slcc m ll, .int .u8 byI]).toArray = #[.agg #[.slice ad len cap, .slice ah k kcap], .agg #[.slice adb lenb capb, .slice ahb kb kcapb], .slice al ll capl, .int .u8 byI] := by
     intro ρ a b c d m ea eb ec ed em
     show #[Value.agg #[_, _], Value.agg #[_, _], _, _] = _
     rw [← den_slcc (len := len) ea hI, ← hH.den eb, ← den_slcc (len := lenb) ec hIb, ← hHb.den ed, ← den_slcc (len := ll) em hIl]
     rfl
   by_cases hk : 4 < k
   · rw [← dens (rhoL [rhoOf ad cap, rhoOf ah kcap, rhoOf adb capb, rhoOf ahb kcapb, rhoOf al capl]) 0 1 2 3 4 rfl rfl rfl rfl rfl]
     exact calls_of_con (k := 5) (H := [(0, ⟨false, 28, .ints .i64 (2 * len) g, 0⟩), (1, ⟨false, 26, .gen k fun i => .sla (ha i) (hl i) (hc i), 0⟩), (2, ⟨false, 28, .ints .i64 (2 * lenb) gb, 0⟩), (3, ⟨false, 26, .gen kb fun i => .sla (hab' i) (hlb i) (hcb i), 0⟩), (4, ⟨false, 28, .ints .i64 (2 * ll) gl, 0⟩)])
       Tryz.Sx.lawFarGG Tryz.func9 (by kernel_rfl) (by kernel_rfl)
       (HK.cons (by decide) rfl (fun _ _ => trivial) (osat_ints hI) (HK.cons (by decide) rfl (fun _ _ => trivial) hH.gen (HK.cons (by decide) rfl (fun _ _ => trivial) (osat_ints hIb) (HK.cons (by decide) rfl (fun _ _ => trivial) hHb.gen (HK.cons (by decide) rfl (fun _ _ => trivial) (osat_ints hIl) HK.nil)))))
       ⟨poly_bd (by decide) (by decide), poly_bd (by decide) (by decide), slcc_bd (by decide), trivial, trivial⟩ rfl ⟨rfl, rfl, rfl, ⟨hk, rfl, rfl⟩, fun _ _ => rfl, fun _ _ => rfl⟩ rfl
   have hk4 : k ≤ 4 := by omega
   by_cases hkb : 4 < kb
   · let ρ := rhoL [rhoOf ad cap, rhoOf ah kcap, hR k ha hc 0, hR k ha hc 1, hR k ha hc 2, hR k ha hc 3, rhoOf adb capb, rhoOf ahb kcapb, rhoOf al capl]
     have hr : ∀ i : Nat, i < 4 → ρ (1 + 1 + i) = hR k ha hc i := by
       intro i hi
       have : i = 0 ∨ i = 1 ∨ i = 2 ∨ i = 3 := by omega
       rcases this with rfl | rfl | rfl | rfl <;> rfl
     rw [← dens ρ 0 1 6 7 8 rfl rfl rfl rfl rfl]
     exact calls_of_con (k := 9) (H := [(0, ⟨false, 28, .ints .i64 (2 * len) g, 0⟩), (1, ⟨false, 26, .upto k [.slcc 2 (hL k hl 0), .slcc 3 (hL k hl 1), .slcc 4 (hL k hl 2), .slcc 5 (hL k hl 3)], 0⟩), (2, ⟨false, 28, .ints .i64 (2 * hL k hl 0) (hg 0), 0⟩), (3, ⟨false, 28, .ints .i64 (2 * hL k hl 1) (hg 1), 0⟩), (4, ⟨false, 28, .ints .i64 (2 * hL k hl 2) (hg 2), 0⟩), (5, ⟨false, 28, .ints .i64 (2 * hL k hl 3) (hg 3), 0⟩),
         (6, ⟨false, 28, .ints .i64 (2 * lenb) gb, 0⟩), (7, ⟨false, 26, .gen kb fun i => .sla (hab' i) (hlb i) (hcb i), 0⟩), (8, ⟨false, 28, .ints .i64 (2 * ll) gl, 0⟩)])
       Tryz.Sx.lawFarUG Tryz.func9 (by kernel_rfl) (by kernel_rfl)
       (HK.cons (by decide) rfl (fun _ _ => trivial) (osat_ints hI) (HK.cons (by decide) rfl (row_bd (by decide) (by decide) (by decide) (by decide)) (hH.upto (b := 1) hk4 hr)
         (HK.cons (by decide) rfl (fun _ _ => trivial) (hH.hole4 0) (HK.cons (by decide) rfl (fun _ _ => trivial) (hH.hole4 1) (HK.cons (by decide) rfl (fun _ _ => trivial) (hH.hole4 2) (HK.cons (by decide) rfl (fun _ _ => trivial) (hH.hole4 3)
         (HK.cons (by decide) rfl (fun _ _ => trivial) (osat_ints hIb) (HK.cons (by decide) rfl (fun _ _ => trivial) hHb.gen (HK.cons (by decide) rfl (fun _ _ => trivial) (osat_ints hIl) HK.nil)))))))))
       ⟨poly_bd (by decide) (by decide), poly_bd (by decide) (by decide), slcc_bd (by decide), trivial, trivial⟩ rfl ⟨rfl, rfl, rfl, rfl, rfl, rfl, rfl, rfl, ⟨hab_hL hk4, hkb, rfl⟩, fun _ _ => rfl⟩ rfl
   have hkb4 : kb ≤ 4 := by omega
   let ρ := rhoL [rhoOf ad cap, rhoOf ah kcap, hR k ha hc 0, hR k ha hc 1, hR k ha hc 2, hR k ha hc 3, rhoOf adb capb, rhoOf ahb kcapb, hR kb hab' hcb 0, hR kb hab' hcb 1, hR kb hab' hcb 2, hR kb hab' hcb 3, rhoOf al capl]
   have hr : ∀ i : Nat, i < 4 → ρ (1 + 1 + i) = hR k ha hc i := by
     intro i hi
     have : i = 0 ∨ i = 1 ∨ i = 2 ∨ i = 3 := by omega
     rcases this with rfl | rfl | rfl | rfl <;> rfl
   have hrb : ∀ i : Nat, i < 4 → ρ (7 + 1 + i) = hR kb hab' hcb i := by
     intro i hi
     have : i = 0 ∨ i = 1 ∨ i = 2 ∨ i = 3 := by omega
     rcases this with rfl | rfl | rfl | rfl <;> rfl
   rw [← dens ρ 0 1 6 7 12 rfl rfl rfl rfl rfl]
   exact calls_of_con (k := 13) (H := [(0, ⟨false, 28, .ints .i64 (2 * len) g, 0⟩), (1, ⟨false, 26, .upto k [.slcc 2 (hL k hl 0), .slcc 3 (hL k hl 1), .slcc 4 (hL k hl 2), .slcc 5 (hL k hl 3)], 0⟩), (2, ⟨false, 28, .ints .i64 (2 * hL k hl 0) (hg 0), 0⟩), (3, ⟨false, 28, .ints .i64 (2 * hL k hl 1) (hg 1), 0⟩), (4, ⟨false, 28, .ints .i64 (2 * hL k hl 2) (hg 2), 0⟩), (5, ⟨false, 28, .ints .i64 (2 * hL k hl 3) (hg 3), 0⟩),
       (6, ⟨false, 28, .ints .i64 (2 * lenb) gb, 0⟩), (7, ⟨false, 26, .upto kb [.slcc 8 (hL kb hlb 0), .slcc 9 (hL kb hlb 1), .slcc 10 (hL kb hlb 2), .slcc 11 (hL kb hlb 3)], 0⟩), (8, ⟨false, 28, .ints .i64 (2 * hL kb hlb 0) (hgb 0), 0⟩), (9, ⟨false, 28, .ints .i64 (2 * hL kb hlb 1) (hgb 1), 0⟩), (10, ⟨false, 28, .ints .i64 (2 * hL kb hlb 2) (hgb 2), 0⟩), (11, ⟨false, 28, .ints .i64 (2 * hL kb hlb 3) (hgb 3), 0⟩), (12, ⟨false, 28, .ints .i64 (2 * ll) gl, 0⟩)])
     Tryz.Sx.lawFar Tryz.func9 (by kernel_rfl) (by kernel_rfl)
     (HK.cons (by decide) rfl (fun _ _ => trivial) (osat_ints hI) (HK.cons (by decide) rfl (row_bd (by decide) (by decide) (by decide) (by decide)) (hH.upto (b := 1) hk4 hr)
       (HK.cons (by decide) rfl (fun _ _ => trivial) (hH.hole4 0) (HK.cons (by decide) rfl (fun _ _ => trivial) (hH.hole4 1) (HK.cons (by decide) rfl (fun _ _ => trivial) (hH.hole4 2) (HK.cons (by decide) rfl (fun _ _ => trivial) (hH.hole4 3)
       (HK.cons (by decide) rfl (fun _ _ => trivial) (osat_ints hIb) (HK.cons (by decide) rfl (row_bd (by decide) (by decide) (by decide) (by decide)) (hHb.upto (b := 7) hkb4 hrb)
       (HK.cons (by decide) rfl (fun _ _ => trivial) (hHb.hole4 0) (HK.cons (by decide) rfl (fun _ _ => trivial) (hHb.hole4 1) (HK.cons (by decide) rfl (fun _ _ => trivial) (hHb.hole4 2) (HK.cons (by decide) rfl (fun _ _ => trivial) (hHb.hole4 3) (HK.cons (by decide) rfl (fun _ _ => trivial) (osat_ints hIl) HK.nil)))))))))))))
     ⟨poly_bd (by decide) (by decide), poly_bd (by decide) (by decide), slcc_bd (by decide), trivial, trivial⟩ rfl ⟨rfl, rfl, rfl, rfl, rfl, rfl, rfl, rfl, rfl, rfl, rfl, rfl, rfl, hab_hL hk4, hab_hL hkb4, hb0, hb1⟩ rfl
 refine main.mono fun e W' ⟨he, hw⟩ => ?_
 subst he
 exact ⟨_, rfl, post_true Tryz.laidOut hW' hw (bt := 4) Tryz.underlying4 rfl rfl rfl rfl rfl (by kernel_rfl)⟩
theorem far_holds : Rows.FnPolyFarSaid :=
 OpenClaim.holds_of_wide 9 Tryz.f9 rfl rfl rfl rfl rfl rfl rfl ⟨rfl, rfl, rfl, rfl, rfl⟩ rfl rfl rfl rfl rfl (by kernel_rfl) Tryz.func9 (by kernel_rfl)
   (of_decide_eq_true (by kernel_rfl)) (by unfold Func.isWrapper; first | (rw [if_pos (by decide +kernel)]; kernel_rfl) | (rw [if_neg (by decide +kernel)]; exact ⟨rfl, rfl⟩))
   (fun os started H enc _ => far_lifted os started H enc)
#print axioms far_holds
end Go.Proofs.YtfhkmkhcofodmaaGreat
