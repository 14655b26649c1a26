/- FnPolyTurned: which points are in a polygon does not depend on where its ring begins, or which way round it goes: the law returns true at every input and leaves its input as it was; no conditions. -/
import Derived.Test.YtfhkmkhcofodmaaGreatRows
import Derived.Test.YtfhkmkhcofodmaaGreatTM9
namespace Go.Proofs.YtfhkmkhcofodmaaGreat
open Go Go.Sx Go.RowKit Go.ChangeShapes Go.WideShapes Go.ChangeAt Go.Joins
set_option maxRecDepth 100000
theorem Tryz.own : ownKnob Tryz.prog.godebug = none := by kernel_rfl
theorem Tryz.laidOut : laidOutB Tryz.prog = true := by kernel_rfl
theorem open_r28 {W : World} {r : Reach} {b0 : Nat} {v : Value} (hv : Value.okWide Tryz.prog W r b0 28 v) : ∃ a b : Int, v = .agg #[.int .i64 a, .int .i64 b] := by
 obtain ⟨l, h1, rfl⟩ := open_ints (n := 2) (.inl ⟨_, Tryz.underlying28⟩) (show Tryz.prog.cellTypes Tryz.prog.depth 28 = some [2, 2] by kernel_rfl) (by intro u hu; simp at hu; subst hu; exact Tryz.underlying2) (by kernel_rfl) hv
 obtain ⟨a, b, rfl⟩ := list2 h1
 exact ⟨a, b, rfl⟩
theorem open_u8 {P : Program} {W : World} {r : Reach} {b0 t : Nat} {v : Value} (ht : P.underlying t = some (.int .u8)) (hv : Value.okWide P W r b0 t v) : ∃ n : Int, v = .int .u8 n ∧ 0 ≤ n ∧ n ≤ 255 := by
 unfold Value.okWide at hv
 rw [ht] at hv
 simp only at hv
 unfold Cell.okWide at hv
 rw [ht] at hv
 simp only at hv
 unfold Cell.ok at hv
 rw [ht] at hv
 cases v <;> simp only at hv
 obtain ⟨rfl, h1, h2⟩ := hv
 exact ⟨_, rfl, h1, h2⟩
theorem open_bool {P : Program} {W : World} {r : Reach} {b0 t : Nat} {v : Value} (ht : P.underlying t = some .bool) (hv : Value.okWide P W r b0 t v) : ∃ b : Bool, v = .bool b := by
 unfold Value.okWide at hv
 rw [ht] at hv
 simp only at hv
 unfold Cell.okWide at hv
 rw [ht] at hv
 simp only at hv
 unfold Cell.ok at hv
 rw [ht] at hv
 cases v <;> simp only at hv
 exact ⟨_, rfl⟩
def rhoP (ad : Option Addr) (cap : Nat) (ah : Option Addr) (kcap : Nat) (ha : Nat → Option Addr) (hc : Nat → Nat) : Rho := fun (n : Nat) => if n = 0 then rhoOf ad cap else if n = 1 then rhoOf ah kcap else rhoOf (ha (n - 2)) (hc (n - 2))
theorem rhoP_hole {ad : Option Addr} {cap : Nat} {ah : Option Addr} {kcap : Nat} {ha : Nat → Option Addr} {hc : Nat → Nat} (i : Nat) : rhoP ad cap ah kcap ha hc (1 + 1 + i) = rhoOf (ha i) (hc i) := by
 have h0 : ¬ (1 + 1 + i = 0) := by omega
 have h1 : ¬ (1 + 1 + i = 1) := by omega
 have h2 : 1 + 1 + i - 2 = i := by omega
 show (if 1 + 1 + i = 0 then rhoOf ad cap else if 1 + 1 + i = 1 then rhoOf ah kcap else rhoOf (ha (1 + 1 + i - 2)) (hc (1 + 1 + i - 2))) = _
 rw [if_neg h0, if_neg h1, h2]
theorem turned_lifted (os : Os) (started : os.Started) (H : Type) (enc : TypeId × Value → H) :
   ReturnsInHanded {} Tryz.checked os 8 .any (Rows.fnPolyTurnedSpec.pre6 enc Tryz.prog Tryz.f8 Rows.fnPolyTurnedRow.domain false) (Rows.fnPolyTurnedSpec.post enc Tryz.prog Tryz.f8 false true false false) := by
 refine returnsInHanded_of_change (C := Tryz.checked) Tryz.own started (by kernel_rfl) Tryz.func8
   (ChangeSpec.witness6 (enc := enc) (C := Tryz.checked) false ⟨#[], #[.agg #[.slice none 0 0, .slice none 0 0], .int .u8 0, .bool false, .agg #[.int .i64 0, .int .i64 0]], []⟩ 8 (by kernel_rfl) (by kernel_rfl) (by kernel_rfl) (by kernel_rfl)) ?_
 intro W base args ds gs before hval0 hW hcnd _
 have hval : ∀ (j : Nat) t v, Tryz.f8.params[j]? = some t → args[j]? = some v → Value.okWide Tryz.prog W .any base t v := hval0
 have hW' := hW
 obtain ⟨p, q, hA0, hV, rfl, hfz, hnd⟩ := hW
 have hA : DataW.TrodAll enc Tryz.prog W 0 (fun _ => true) true Tryz.f8.params.toList args.toList ds p := hA0
 rw [Tryz.params8] at hA hval
 obtain ⟨v0, v1, v2, v3, d0, d1, d2, d3, p0, p1, p2, p3, rfl, rfl, rfl, h0, h1, h2, h3⟩ := trodAll_four hA
 obtain ⟨rfl, rfl⟩ := trodVars_none hV
 obtain ⟨ad, len, cap, g, ah, k, kcap, ha, hl, hc, hg, rfl, hI, hH⟩ := open_poly Tryz.underlying70 (by kernel_rfl) (by kernel_rfl) rfl rfl rfl rfl Tryz.underlying68 (by kernel_rfl) (by kernel_rfl) Tryz.underlying26 Tryz.underlying28 (by kernel_rfl) rfl rfl (by kernel_rfl) (by kernel_rfl) Tryz.underlying2 Tryz.underlying2 (hval 0 70 v0 rfl rfl) h0
 obtain ⟨byI, rfl, hb0, hb1⟩ := open_u8 Tryz.underlying5 (hval 1 5 v1 rfl rfl)
 obtain ⟨bk, rfl⟩ := open_bool Tryz.underlying4 (hval 2 4 v2 rfl rfl)
 obtain ⟨x, y, rfl⟩ := open_r28 (hval 3 28 v3 rfl rfl)
 have main : Calls Tryz.prog 8 #[.agg #[.slice ad len cap, .slice ah k kcap], .int .u8 byI, .bool bk, .agg #[.int .i64 x, .int .i64 y]] W fun en w' => en = .returned (.bool true) ∧ Below W.heap.size W w' := by
   have e : (denL (rhoP ad cap ah kcap ha hc) [.agg [.slcc 0 len, .slcc 1 k], .int .u8 byI, .bool bk, .agg [.int .i64 x, .int .i64 y]]).toArray = #[.agg #[.slice ad len cap, .slice ah k kcap], .int .u8 byI, .bool bk, .agg #[.int .i64 x, .int .i64 y]] := by
     have e0 := den_slcc (len := len) (n := 0) (ρ := rhoP ad cap ah kcap ha hc) rfl hI
     have e1 := hH.den (n := 1) (ρ := rhoP ad cap ah kcap ha hc) rfl
     show #[Value.agg #[_, _], _, _, _] = _
     rw [← e0, ← e1]
     rfl
   by_cases hk : 4 < k
   · have key := calls_of_con (k := 2) (args := [.agg [.slcc 0 len, .slcc 1 k], .int .u8 byI, .bool bk, .agg [.int .i64 x, .int .i64 y]])
       (H := [(0, ⟨false, 28, .ints .i64 (2 * len) g, 0⟩), (1, ⟨false, 26, .gen k fun i => .sla (ha i) (hl i) (hc i), 0⟩)]) (ρ := rhoP ad cap ah kcap ha hc) (W := W)
       Tryz.Sx.lawTuG Tryz.func8 (by kernel_rfl) (by kernel_rfl) (HK.cons (by decide) rfl (fun _ _ => trivial) (osat_ints hI) (HK.cons (by decide) rfl (fun _ _ => trivial) hH.gen HK.nil)) (by simp [bdL, SV.bd]) rfl ⟨rfl, hk, rfl, fun _ _ => rfl⟩ rfl
     rw [e] at key
     exact key
   · have lay : ∀ K, K = k → HK W (rhoP ad cap ah kcap ha hc) (2 + K) ((0, ⟨false, 28, .ints .i64 (2 * len) g, 0⟩) :: (1, ⟨false, 26, .cells (holeS 1 0 hl K), 0⟩) :: holeL 1 0 hl hg K) := by
       rintro K rfl
       exact HK.cons (by omega) rfl (fun _ _ => trivial) (osat_ints hI) (HK.cons (by omega) rfl (cells_bd (holeS_bd K 0 (by omega))) (hH.row fun i _ => rhoP_hole i) (hH.hk (by omega) (fun i _ => rhoP_hole i) K 0 (by omega)))
     rw [← e]
     have hbd : ∀ K, bdL (· < 2 + K) [.agg [.slcc 0 len, .slcc 1 k], .int .u8 byI, .bool bk, .agg [.int .i64 x, .int .i64 y]] := fun K =>
       ⟨⟨Nat.lt_of_lt_of_le (by decide) (Nat.le_add_right 2 K), Nat.lt_of_lt_of_le (by decide) (Nat.le_add_right 2 K), trivial⟩, trivial, trivial, ⟨trivial, trivial, trivial⟩, trivial⟩
     have hk' : k = 0 ∨ k = 1 ∨ k = 2 ∨ k = 3 ∨ k = 4 := by omega
     clear e
     rcases hk' with rfl | rfl | rfl | rfl | rfl
     · exact calls_of_con (k := 2 + 0) Tryz.Sx.lawTu0 Tryz.func8 (by kernel_rfl) (by kernel_rfl) (lay 0 rfl) (hbd 0) rfl ⟨rfl, hb0, hb1⟩ rfl
     · exact calls_of_con (k := 2 + 1) Tryz.Sx.lawTu1 Tryz.func8 (by kernel_rfl) (by kernel_rfl) (lay 1 rfl) (hbd 1) rfl ⟨rfl, rfl, hb0, hb1⟩ rfl
     · exact calls_of_con (k := 2 + 2) Tryz.Sx.lawTu2 Tryz.func8 (by kernel_rfl) (by kernel_rfl) (lay 2 rfl) (hbd 2) rfl ⟨rfl, rfl, rfl, hb0, hb1⟩ rfl
     · exact calls_of_con (k := 2 + 3) Tryz.Sx.lawTu3 Tryz.func8 (by kernel_rfl) (by kernel_rfl) (lay 3 rfl) (hbd 3) rfl ⟨rfl, rfl, rfl, rfl, hb0, hb1⟩ rfl
     · exact calls_of_con (k := 2 + 4) Tryz.Sx.lawTu4 Tryz.func8 (by kernel_rfl) (by kernel_rfl) (lay 4 rfl) (hbd 4) rfl ⟨rfl, rfl, rfl, rfl, rfl, hb0, hb1⟩ rfl
 refine main.mono fun e W' ⟨he, hw⟩ => ?_
 subst he
 exact ⟨_, rfl, post_true Tryz.laidOut hW' hw (bt := 4) Tryz.underlying4 rfl rfl rfl rfl rfl (by kernel_rfl)⟩
theorem turned_holds : Rows.FnPolyTurnedSaid :=
 OpenClaim.holds_of_wide 8 Tryz.f8 rfl rfl rfl rfl rfl rfl rfl ⟨rfl, rfl, rfl, rfl, rfl⟩ rfl rfl rfl rfl rfl (by kernel_rfl) Tryz.func8 (by kernel_rfl)
   (of_decide_eq_true (by kernel_rfl)) (by unfold Func.isWrapper; first | (rw [if_pos (by decide +kernel)]; kernel_rfl) | (rw [if_neg (by decide +kernel)]; exact ⟨rfl, rfl⟩))
   (fun os started H enc _ => turned_lifted os started H enc)
#print axioms turned_holds
end Go.Proofs.YtfhkmkhcofodmaaGreat
