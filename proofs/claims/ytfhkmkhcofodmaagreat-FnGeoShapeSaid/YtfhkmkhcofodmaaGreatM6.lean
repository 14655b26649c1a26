/- Parts of a proof, in order: what each says stands at its head. No conditions. -/
import Derived.Test.YtfhkmkhcofodmaaGreatM5
/- processPoints: the convexity, the rectangle, the direction of points. -/
namespace Go.Proofs.Tryz.Sx
open Go Go.Sx Go.Proofs Go.Fl Go.Geo
set_option maxRecDepth 100000

/-- The points after, and after that one. -/
def nx (len i : Nat) : Nat := if i + 1 = len then 0 else i + 1
def nx2 (len i : Nat) : Nat := if i + 1 = len then 1 else if i + 2 = len then 0 else i + 2
def la (g : Nat → Nat) (k : Nat) : Nat → Nat
  | 0 => 0
  | i + 1 => g (2 * i + k)
def lb (g : Nat → Nat) (len k : Nat) : Nat → Nat
  | 0 => 0
  | i + 1 => g (2 * nx len i + k)
def lc (g : Nat → Nat) (len k : Nat) : Nat → Nat
  | 0 => 0
  | i + 1 => g (2 * nx2 len i + k)
def loStep (i x y : Nat) : Nat := if i = 0 ∨ fLt .f64 x y = true then x else y
def hiStep (i x lo hi : Nat) : Nat := if i = 0 then x else if fLt .f64 x lo = true then hi else if fGt .f64 x hi = true then x else hi
def rlo (g : Nat → Nat) (k : Nat) : Nat → Nat
  | 0 => 0
  | i + 1 => loStep i (g (2 * i + k)) (rlo g k i)
def rhi (g : Nat → Nat) (k : Nat) : Nat → Nat
  | 0 => 0
  | i + 1 => hiStep i (g (2 * i + k)) (rlo g k i) (rhi g k i)
def cwStep (s ax ay bx by' : Nat) : Nat := fop .add .f64 s (fop .mul .f64 (fop .sub .f64 bx ax) (fop .add .f64 by' ay))
def cwF (g : Nat → Nat) (len : Nat) : Nat → Nat
  | 0 => 0
  | i + 1 => cwStep (cwF g len i) (g (2 * i)) (g (2 * i + 1)) (g (2 * nx len i)) (g (2 * nx len i + 1))
def zcF (g : Nat → Nat) (len i : Nat) : Nat :=
  fop .sub .f64 (fop .mul .f64 (fop .sub .f64 (g (2 * nx len i)) (g (2 * i))) (fop .sub .f64 (g (2 * nx2 len i + 1)) (g (2 * nx len i + 1))))
    (fop .mul .f64 (fop .sub .f64 (g (2 * nx len i + 1)) (g (2 * i + 1))) (fop .sub .f64 (g (2 * nx2 len i)) (g (2 * nx len i))))
def dStep (d : Int) (c : Bool) (z : Nat) : Int × Bool :=
  if c = true then (d, c) else if d = 0 then (if fLt .f64 z 0 = true then (-1, c) else if fGt .f64 z 0 = true then (1, c) else (d, c))
  else if fLt .f64 z 0 = true then (d, decide (d = 1)) else if fGt .f64 z 0 = true then (d, decide (d = -1)) else (d, c)
def dcF (g : Nat → Nat) (len : Nat) : Nat → Int × Bool
  | 0 => (0, false)
  | i + 1 => dStep (dcF g len i).1 (dcF g len i).2 (zcF g len i)

def ppBig (len : Nat) (cl : Bool) : Bool := decide (2 ≤ len ∧ (cl = true → 3 ≤ len))
def pick (b : Bool) (x : Nat) : Nat := if b = true then x else 0
def cwOk (s ax ay bx by' : Nat) : Prop := fok .sub .f64 bx ax ∧ fok .add .f64 by' ay ∧ fok .mul .f64 (fop .sub .f64 bx ax) (fop .add .f64 by' ay) ∧ fok .add .f64 s (fop .mul .f64 (fop .sub .f64 bx ax) (fop .add .f64 by' ay))
def zcOk (ax ay bx by' cx cy : Nat) : Prop := fok .sub .f64 bx ax ∧ fok .sub .f64 cy by' ∧ fok .mul .f64 (fop .sub .f64 bx ax) (fop .sub .f64 cy by') ∧ fok .sub .f64 by' ay ∧ fok .sub .f64 cx bx ∧ fok .mul .f64 (fop .sub .f64 by' ay) (fop .sub .f64 cx bx) ∧
  fok .sub .f64 (fop .mul .f64 (fop .sub .f64 bx ax) (fop .sub .f64 cy by')) (fop .mul .f64 (fop .sub .f64 by' ay) (fop .sub .f64 cx bx))
/-- Every operation on the way has a value. -/
def ppOk (g : Nat → Nat) (len : Nat) : Prop := ∀ i, i < len → cwOk (cwF g len i) (g (2 * i)) (g (2 * i + 1)) (g (2 * nx len i)) (g (2 * nx len i + 1)) ∧
  zcOk (g (2 * i)) (g (2 * i + 1)) (g (2 * nx len i)) (g (2 * nx len i + 1)) (g (2 * nx2 len i)) (g (2 * nx2 len i + 1))

def ppH (len : Nat) (g : Nat → Nat) (r a b c : List SV) : Heap := [(0, ⟨false, 100, .flts .f64 (2 * len) g, 0⟩), (1, ⟨true, 102, .cells r, 0⟩), (2, ⟨true, 100, .cells a, 0⟩), (3, ⟨true, 100, .cells b, 0⟩), (4, ⟨true, 100, .cells c, 0⟩)]
def pf (x : Nat) : SV := .flt .f64 x
def ppS (len i : Nat) (cl : Bool) (cw : Nat) (d : Int) (cc : Bool) : Slots :=
  [(0, .slcc 0 len), (1, .bool cl), (5, .ptr 1 0), (7, .bool cc), (8, .int .i64 d), (9, .ptr 2 0), (10, .ptr 3 0), (11, .ptr 4 0), (12, .flt .f64 cw), (13, .int .i64 i)]
/-- At a round's begin. -/
def ppSt (len i : Nat) (cl : Bool) (g : Nat → Nat) (rx ry : Nat) (ai bi : Nat) (cwi : Nat) (di : Nat) : St :=
  ⟨201, ppS len i cl (cwF g len cwi) (dcF g len di).1 (dcF g len di).2,
    ppH len g [pf (rlo g 0 rx), pf (rlo g 1 ry), pf (rhi g 0 rx), pf (rhi g 1 ry)] [pf (la g 0 ai), pf (la g 1 ai)] [pf (lb g len 0 bi), pf (lb g len 1 bi)] [pf (lc g len 0 bi), pf (lc g len 1 bi)], 5⟩
def one (len i : Nat) (cl : Bool) (g : Nat → Nat) (rx ry ai bi cwi di : Nat) (p : Prop) : Fam := ⟨Nat, fun _ => ppSt len i cl g rx ry ai bi cwi di, fun _ => p, fun _ => 0⟩
def ppL (len : Nat) (cl : Bool) (g : Nat → Nat) : LFam :=
  ⟨⟨Nat, fun i => ppSt len i cl g i i i i i i, fun i => i ≤ len ∧ ppBig len cl = true, fun i => len - i⟩, fun i => [
    (19, one len i cl g (i + 1) (i + 1) i i i i (i < len ∧ ppBig len cl = true)),
    (20, one len i cl g (i + 1) (i + 1) (i + 1) i i i (i < len ∧ ppBig len cl = true)),
    (28, one len i cl g (i + 1) (i + 1) (i + 1) (i + 1) i i (i < len ∧ ppBig len cl = true)),
    (29, one len i cl g (i + 1) (i + 1) (i + 1) (i + 1) (i + 1) i (i < len ∧ ppBig len cl = true))]⟩

def ppK (len : Nat) (cl : Bool) (g : Nat → Nat) : Fam := ⟨Nat, fun _ => ⟨201, [(0, .slcc 0 len), (1, .bool cl), (5, .ptr 1 0)], [(0, ⟨false, 100, .flts .f64 (2 * len) g, 0⟩), (1, ⟨true, 102, .cells [pf 0, pf 0, pf 0, pf 0], 0⟩)], 2⟩, fun _ => ppBig len cl = true, fun _ => 0⟩

noncomputable def procPC : List SV → RdM
  | [.slcc n len, v] => .read n fun o0 => (match fltsFrom .f64 o0.c with
    | some (m0, g) => (match v.toB with
    | some cl => .ret ⟨[.slcc 0 len, .bool cl], [(0, ⟨false, 100, .flts .f64 m0 g, 0⟩)], .tup [.bool (ppBig len cl && !(dcF g len len).2), .agg [.flt .f64 (pick (ppBig len cl) (rlo g 0 len)), .flt .f64 (pick (ppBig len cl) (rlo g 1 len)), .flt .f64 (pick (ppBig len cl) (rhi g 0 len)), .flt .f64 (pick (ppBig len cl) (rhi g 1 len))], .bool (ppBig len cl && fGt .f64 (cwF g len len) 0)], [], [], some (m0 = 2 * len ∧ len ≤ 1000000 ∧ (ppBig len cl = true → ppOk g len))⟩
    | none => .fail)
    | none => .fail)
  | _ => .fail
theorem vc_procP (len : Nat) (cl : Bool)  (g : Nat → Nat) : runA G0 1 [(7, ppL len cl g)] [(2, ppK len cl g)] (codeOf Tryz.f102) (init Tryz.f102.ntmps [.slcc 0 len, .bool cl] [(0, ⟨false, 100, .flts .f64 (2 * len) g, 0⟩)] 1) (endK G0.E.T Tryz.f102.results.toList fun S v => postP 1 ⟨[.slcc 0 len, .bool cl], [(0, ⟨false, 100, .flts .f64 (2 * len) g, 0⟩)], .tup [.bool (ppBig len cl && !(dcF g len len).2), .agg [.flt .f64 (pick (ppBig len cl) (rlo g 0 len)), .flt .f64 (pick (ppBig len cl) (rlo g 1 len)), .flt .f64 (pick (ppBig len cl) (rhi g 0 len)), .flt .f64 (pick (ppBig len cl) (rhi g 1 len))], .bool (ppBig len cl && fGt .f64 (cwF g len len) 0)], [], [], some (2 * len = 2 * len ∧ len ≤ 1000000 ∧ (ppBig len cl = true → ppOk g len))⟩ S v) = (
((cl = true → (decide ((↑len : Int) < (3 : Int)) = true → ((Go.Proofs.Tryz.Sx.ppBig len cl && !Prod.snd (Go.Proofs.Tryz.Sx.dcF g len len)) = false ∧ ((0 : Nat) = Go.Proofs.Tryz.Sx.pick (Go.Proofs.Tryz.Sx.ppBig len cl) (Go.Proofs.Tryz.Sx.rlo g (0 :
Nat) len) ∧ (0 : Nat) = Go.Proofs.Tryz.Sx.pick (Go.Proofs.Tryz.Sx.ppBig len cl) (Go.Proofs.Tryz.Sx.rlo g (1 : Nat) len) ∧ (0 : Nat) = Go.Proofs.Tryz.Sx.pick (Go.Proofs.Tryz.Sx.ppBig len cl) (Go.Proofs.Tryz.Sx.rhi g (0 : Nat) len) ∧ (0 : Nat) =
Go.Proofs.Tryz.Sx.pick (Go.Proofs.Tryz.Sx.ppBig len cl) (Go.Proofs.Tryz.Sx.rhi g (1 : Nat) len) ∧ True) ∧ (Go.Proofs.Tryz.Sx.ppBig len cl && Go.Sx.fGt .f64 (Go.Proofs.Tryz.Sx.cwF g len len) (0 : Nat)) = false ∧ True) ∧ True) ∧ (decide ((↑len : Int) <
(3 : Int)) = false → (decide ((↑len : Int) < (2 : Int)) = true → ((Go.Proofs.Tryz.Sx.ppBig len cl && !Prod.snd (Go.Proofs.Tryz.Sx.dcF g len len)) = false ∧ ((0 : Nat) = Go.Proofs.Tryz.Sx.pick (Go.Proofs.Tryz.Sx.ppBig len cl) (Go.Proofs.Tryz.Sx.rlo g
(0 : Nat) len) ∧ (0 : Nat) = Go.Proofs.Tryz.Sx.pick (Go.Proofs.Tryz.Sx.ppBig len cl) (Go.Proofs.Tryz.Sx.rlo g (1 : Nat) len) ∧ (0 : Nat) = Go.Proofs.Tryz.Sx.pick (Go.Proofs.Tryz.Sx.ppBig len cl) (Go.Proofs.Tryz.Sx.rhi g (0 : Nat) len) ∧ (0 : Nat) =
Go.Proofs.Tryz.Sx.pick (Go.Proofs.Tryz.Sx.ppBig len cl) (Go.Proofs.Tryz.Sx.rhi g (1 : Nat) len) ∧ True) ∧ (Go.Proofs.Tryz.Sx.ppBig len cl && Go.Sx.fGt .f64 (Go.Proofs.Tryz.Sx.cwF g len len) (0 : Nat)) = false ∧ True) ∧ True) ∧ (decide ((↑len : Int) <
(2 : Int)) = false → ∃ (j : Nat), Go.Proofs.Tryz.Sx.ppBig len cl = true ∧ ((True ∧ len = len) ∧ cl = cl ∧ (True ∧ (0 : Nat) = (0 : Nat)) ∧ True) ∧ True ∧ ((2 : Nat) * len ≤ (2 : Nat) * len ∧ ∀ (i : Nat), i < (2 : Nat) * len → g i = g i) ∧ True ∧
((102 : Nat) = (102 : Nat) ∧ (0 : Nat) = (0 : Nat) ∧ (0 : Nat) = (0 : Nat) ∧ (0 : Nat) = (0 : Nat) ∧ (0 : Nat) = (0 : Nat) ∧ (0 : Nat) = (0 : Nat) ∧ True) ∧ True))) ∧ (cl = false → (decide ((↑len : Int) < (2 : Int)) = true → ((Go.Proofs.Tryz.Sx.ppBig
len cl && !Prod.snd (Go.Proofs.Tryz.Sx.dcF g len len)) = false ∧ ((0 : Nat) = Go.Proofs.Tryz.Sx.pick (Go.Proofs.Tryz.Sx.ppBig len cl) (Go.Proofs.Tryz.Sx.rlo g (0 : Nat) len) ∧ (0 : Nat) = Go.Proofs.Tryz.Sx.pick (Go.Proofs.Tryz.Sx.ppBig len cl)
(Go.Proofs.Tryz.Sx.rlo g (1 : Nat) len) ∧ (0 : Nat) = Go.Proofs.Tryz.Sx.pick (Go.Proofs.Tryz.Sx.ppBig len cl) (Go.Proofs.Tryz.Sx.rhi g (0 : Nat) len) ∧ (0 : Nat) = Go.Proofs.Tryz.Sx.pick (Go.Proofs.Tryz.Sx.ppBig len cl) (Go.Proofs.Tryz.Sx.rhi g (1 :
Nat) len) ∧ True) ∧ (Go.Proofs.Tryz.Sx.ppBig len cl && Go.Sx.fGt .f64 (Go.Proofs.Tryz.Sx.cwF g len len) (0 : Nat)) = false ∧ True) ∧ True) ∧ (decide ((↑len : Int) < (2 : Int)) = false → ∃ (j : Nat), Go.Proofs.Tryz.Sx.ppBig len cl = true ∧ ((True ∧
len = len) ∧ cl = cl ∧ (True ∧ (0 : Nat) = (0 : Nat)) ∧ True) ∧ True ∧ ((2 : Nat) * len ≤ (2 : Nat) * len ∧ ∀ (i : Nat), i < (2 : Nat) * len → g i = g i) ∧ True ∧ ((102 : Nat) = (102 : Nat) ∧ (0 : Nat) = (0 : Nat) ∧ (0 : Nat) = (0 : Nat) ∧ (0 : Nat)
= (0 : Nat) ∧ (0 : Nat) = (0 : Nat) ∧ (0 : Nat) = (0 : Nat) ∧ True) ∧ True))) ∧ ∀ (j : Nat), Go.Proofs.Tryz.Sx.ppBig len cl = true → (∃ (i : Nat), (i ≤ len ∧ Go.Proofs.Tryz.Sx.ppBig len cl = true) ∧ ((True ∧ len = len) ∧ cl = cl ∧ (True ∧ (0 : Nat) =
(0 : Nat)) ∧ Prod.snd (Go.Proofs.Tryz.Sx.dcF g len i) = false ∧ (0 : Int) = Prod.fst (Go.Proofs.Tryz.Sx.dcF g len i) ∧ (True ∧ (0 : Nat) = (0 : Nat)) ∧ (True ∧ (0 : Nat) = (0 : Nat)) ∧ (True ∧ (0 : Nat) = (0 : Nat)) ∧ (0 : Nat) =
Go.Proofs.Tryz.Sx.cwF g len i ∧ (0 : Int) = (↑i : Int) ∧ True) ∧ True ∧ ((2 : Nat) * len ≤ (2 : Nat) * len ∧ ∀ (i : Nat), i < (2 : Nat) * len → g i = g i) ∧ True ∧ ((102 : Nat) = (102 : Nat) ∧ (0 : Nat) = (0 : Nat) ∧ (0 : Nat) = Go.Proofs.Tryz.Sx.rlo
g (0 : Nat) i ∧ (0 : Nat) = Go.Proofs.Tryz.Sx.rlo g (1 : Nat) i ∧ (0 : Nat) = Go.Proofs.Tryz.Sx.rhi g (0 : Nat) i ∧ (0 : Nat) = Go.Proofs.Tryz.Sx.rhi g (1 : Nat) i ∧ True) ∧ True ∧ ((100 : Nat) = (100 : Nat) ∧ (0 : Nat) = (0 : Nat) ∧ (0 : Nat) =
Go.Proofs.Tryz.Sx.la g (0 : Nat) i ∧ (0 : Nat) = Go.Proofs.Tryz.Sx.la g (1 : Nat) i ∧ True) ∧ True ∧ ((100 : Nat) = (100 : Nat) ∧ (0 : Nat) = (0 : Nat) ∧ (0 : Nat) = Go.Proofs.Tryz.Sx.lb g len (0 : Nat) i ∧ (0 : Nat) = Go.Proofs.Tryz.Sx.lb g len (1 :
Nat) i ∧ True) ∧ True ∧ ((100 : Nat) = (100 : Nat) ∧ (0 : Nat) = (0 : Nat) ∧ (0 : Nat) = Go.Proofs.Tryz.Sx.lc g len (0 : Nat) i ∧ (0 : Nat) = Go.Proofs.Tryz.Sx.lc g len (1 : Nat) i ∧ True) ∧ True) ∧ ∀ (i : Nat), i ≤ len ∧ Go.Proofs.Tryz.Sx.ppBig len
cl = true → (decide ((↑i : Int) < (↑len : Int)) = true → ((((↑i : Int) == (0 : Int)) = true → (((0 : Int) ≤ (↑i : Int) ∧ (↑i : Int) < (↑len : Int)) ∧ (1 : Nat) ≤ (2 : Nat) * len) ∧ (0 : Nat) + Int.toNat (↑i : Int) * (2 : Nat) + (2 : Nat) ≤ (2 : Nat)
* len ∧ (((0 : Int) ≤ (↑i : Int) ∧ (↑i : Int) < (↑len : Int)) ∧ (1 : Nat) ≤ (2 : Nat) * len) ∧ (0 : Nat) + Int.toNat (↑i : Int) * (2 : Nat) + (2 : Nat) ≤ (2 : Nat) * len ∧ true = true ∧ ∃ (j : Nat), (i < len ∧ Go.Proofs.Tryz.Sx.ppBig len cl = true) ∧
((True ∧ len = len) ∧ cl = cl ∧ (True ∧ (0 : Nat) = (0 : Nat)) ∧ Prod.snd (Go.Proofs.Tryz.Sx.dcF g len i) = Prod.snd (Go.Proofs.Tryz.Sx.dcF g len i) ∧ Prod.fst (Go.Proofs.Tryz.Sx.dcF g len i) = Prod.fst (Go.Proofs.Tryz.Sx.dcF g len i) ∧ (True ∧ (0 :
Nat) = (0 : Nat)) ∧ (True ∧ (0 : Nat) = (0 : Nat)) ∧ (True ∧ (0 : Nat) = (0 : Nat)) ∧ Go.Proofs.Tryz.Sx.cwF g len i = Go.Proofs.Tryz.Sx.cwF g len i ∧ (↑i : Int) = (↑i : Int) ∧ True) ∧ True ∧ ((2 : Nat) * len ≤ (2 : Nat) * len ∧ ∀ (i : Nat), i < (2 :
Nat) * len → g i = g i) ∧ True ∧ ((102 : Nat) = (102 : Nat) ∧ (0 : Nat) = (0 : Nat) ∧ g ((0 : Nat) + Int.toNat (↑i : Int) * (2 : Nat)) = Go.Proofs.Tryz.Sx.rlo g (0 : Nat) (i + (1 : Nat)) ∧ g ((0 : Nat) + Int.toNat (↑i : Int) * (2 : Nat) + (1 : Nat))
= Go.Proofs.Tryz.Sx.rlo g (1 : Nat) (i + (1 : Nat)) ∧ g ((0 : Nat) + Int.toNat (↑i : Int) * (2 : Nat)) = Go.Proofs.Tryz.Sx.rhi g (0 : Nat) (i + (1 : Nat)) ∧ g ((0 : Nat) + Int.toNat (↑i : Int) * (2 : Nat) + (1 : Nat)) = Go.Proofs.Tryz.Sx.rhi g (1 :
Nat) (i + (1 : Nat)) ∧ True) ∧ True ∧ ((100 : Nat) = (100 : Nat) ∧ (0 : Nat) = (0 : Nat) ∧ Go.Proofs.Tryz.Sx.la g (0 : Nat) i = Go.Proofs.Tryz.Sx.la g (0 : Nat) i ∧ Go.Proofs.Tryz.Sx.la g (1 : Nat) i = Go.Proofs.Tryz.Sx.la g (1 : Nat) i ∧ True) ∧
True ∧ ((100 : Nat) = (100 : Nat) ∧ (0 : Nat) = (0 : Nat) ∧ Go.Proofs.Tryz.Sx.lb g len (0 : Nat) i = Go.Proofs.Tryz.Sx.lb g len (0 : Nat) i ∧ Go.Proofs.Tryz.Sx.lb g len (1 : Nat) i = Go.Proofs.Tryz.Sx.lb g len (1 : Nat) i ∧ True) ∧ True ∧ ((100 :
Nat) = (100 : Nat) ∧ (0 : Nat) = (0 : Nat) ∧ Go.Proofs.Tryz.Sx.lc g len (0 : Nat) i = Go.Proofs.Tryz.Sx.lc g len (0 : Nat) i ∧ Go.Proofs.Tryz.Sx.lc g len (1 : Nat) i = Go.Proofs.Tryz.Sx.lc g len (1 : Nat) i ∧ True) ∧ True) ∧ (((↑i : Int) == (0 :
Int)) = false → (((0 : Int) ≤ (↑i : Int) ∧ (↑i : Int) < (↑len : Int)) ∧ (1 : Nat) ≤ (2 : Nat) * len) ∧ (0 : Nat) < (2 : Nat) * len ∧ (0 : Nat) + Int.toNat (↑i : Int) * (2 : Nat) + (0 : Nat) + (1 : Nat) ≤ (2 : Nat) * len ∧ true = true ∧ (Go.Sx.fLt
.f64 (g ((0 : Nat) + Int.toNat (↑i : Int) * (2 : Nat) + (0 : Nat))) (Go.Proofs.Tryz.Sx.rlo g (0 : Nat) i) = true → (((0 : Int) ≤ (↑i : Int) ∧ (↑i : Int) < (↑len : Int)) ∧ (1 : Nat) ≤ (2 : Nat) * len) ∧ (0 : Nat) < (2 : Nat) * len ∧ (0 : Nat) +
Int.toNat (↑i : Int) * (2 : Nat) + (0 : Nat) + (1 : Nat) ≤ (2 : Nat) * len ∧ (((0 : Int) ≤ (↑i : Int) ∧ (↑i : Int) < (↑len : Int)) ∧ (1 : Nat) ≤ (2 : Nat) * len) ∧ (0 : Nat) < (2 : Nat) * len ∧ (0 : Nat) + Int.toNat (↑i : Int) * (2 : Nat) + (1 : Nat)
+ (1 : Nat) ≤ (2 : Nat) * len ∧ true = true ∧ (Go.Sx.fLt .f64 (g ((0 : Nat) + Int.toNat (↑i : Int) * (2 : Nat) + (1 : Nat))) (Go.Proofs.Tryz.Sx.rlo g (1 : Nat) i) = true → (((0 : Int) ≤ (↑i : Int) ∧ (↑i : Int) < (↑len : Int)) ∧ (1 : Nat) ≤ (2 : Nat)
* len) ∧ (0 : Nat) < (2 : Nat) * len ∧ (0 : Nat) + Int.toNat (↑i : Int) * (2 : Nat) + (1 : Nat) + (1 : Nat) ≤ (2 : Nat) * len ∧ ∃ (j : Nat), (i < len ∧ Go.Proofs.Tryz.Sx.ppBig len cl = true) ∧ ((True ∧ len = len) ∧ cl = cl ∧ (True ∧ (0 : Nat) = (0 :
Nat)) ∧ Prod.snd (Go.Proofs.Tryz.Sx.dcF g len i) = Prod.snd (Go.Proofs.Tryz.Sx.dcF g len i) ∧ Prod.fst (Go.Proofs.Tryz.Sx.dcF g len i) = Prod.fst (Go.Proofs.Tryz.Sx.dcF g len i) ∧ (True ∧ (0 : Nat) = (0 : Nat)) ∧ (True ∧ (0 : Nat) = (0 : Nat)) ∧
(True ∧ (0 : Nat) = (0 : Nat)) ∧ Go.Proofs.Tryz.Sx.cwF g len i = Go.Proofs.Tryz.Sx.cwF g len i ∧ (↑i : Int) = (↑i : Int) ∧ True) ∧ True ∧ ((2 : Nat) * len ≤ (2 : Nat) * len ∧ ∀ (i : Nat), i < (2 : Nat) * len → g i = g i) ∧ True ∧ ((102 : Nat) = (102
: Nat) ∧ (0 : Nat) = (0 : Nat) ∧ g ((0 : Nat) + Int.toNat (↑i : Int) * (2 : Nat) + (0 : Nat)) = Go.Proofs.Tryz.Sx.rlo g (0 : Nat) (i + (1 : Nat)) ∧ g ((0 : Nat) + Int.toNat (↑i : Int) * (2 : Nat) + (1 : Nat)) = Go.Proofs.Tryz.Sx.rlo g (1 : Nat) (i +
(1 : Nat)) ∧ Go.Proofs.Tryz.Sx.rhi g (0 : Nat) i = Go.Proofs.Tryz.Sx.rhi g (0 : Nat) (i + (1 : Nat)) ∧ Go.Proofs.Tryz.Sx.rhi g (1 : Nat) i = Go.Proofs.Tryz.Sx.rhi g (1 : Nat) (i + (1 : Nat)) ∧ True) ∧ True ∧ ((100 : Nat) = (100 : Nat) ∧ (0 : Nat) =
(0 : Nat) ∧ Go.Proofs.Tryz.Sx.la g (0 : Nat) i = Go.Proofs.Tryz.Sx.la g (0 : Nat) i ∧ Go.Proofs.Tryz.Sx.la g (1 : Nat) i = Go.Proofs.Tryz.Sx.la g (1 : Nat) i ∧ True) ∧ True ∧ ((100 : Nat) = (100 : Nat) ∧ (0 : Nat) = (0 : Nat) ∧ Go.Proofs.Tryz.Sx.lb g
len (0 : Nat) i = Go.Proofs.Tryz.Sx.lb g len (0 : Nat) i ∧ Go.Proofs.Tryz.Sx.lb g len (1 : Nat) i = Go.Proofs.Tryz.Sx.lb g len (1 : Nat) i ∧ True) ∧ True ∧ ((100 : Nat) = (100 : Nat) ∧ (0 : Nat) = (0 : Nat) ∧ Go.Proofs.Tryz.Sx.lc g len (0 : Nat) i =
Go.Proofs.Tryz.Sx.lc g len (0 : Nat) i ∧ Go.Proofs.Tryz.Sx.lc g len (1 : Nat) i = Go.Proofs.Tryz.Sx.lc g len (1 : Nat) i ∧ True) ∧ True) ∧ (Go.Sx.fLt .f64 (g ((0 : Nat) + Int.toNat (↑i : Int) * (2 : Nat) + (1 : Nat))) (Go.Proofs.Tryz.Sx.rlo g (1 :
Nat) i) = false → (((0 : Int) ≤ (↑i : Int) ∧ (↑i : Int) < (↑len : Int)) ∧ (1 : Nat) ≤ (2 : Nat) * len) ∧ (0 : Nat) < (2 : Nat) * len ∧ (0 : Nat) + Int.toNat (↑i : Int) * (2 : Nat) + (1 : Nat) + (1 : Nat) ≤ (2 : Nat) * len ∧ true = true ∧ (Go.Sx.fGt
.f64 (g ((0 : Nat) + Int.toNat (↑i : Int) * (2 : Nat) + (1 : Nat))) (Go.Proofs.Tryz.Sx.rhi g (1 : Nat) i) = true → (((0 : Int) ≤ (↑i : Int) ∧ (↑i : Int) < (↑len : Int)) ∧ (1 : Nat) ≤ (2 : Nat) * len) ∧ (0 : Nat) < (2 : Nat) * len ∧ (0 : Nat) +
Int.toNat (↑i : Int) * (2 : Nat) + (1 : Nat) + (1 : Nat) ≤ (2 : Nat) * len ∧ ∃ (j : Nat), (i < len ∧ Go.Proofs.Tryz.Sx.ppBig len cl = true) ∧ ((True ∧ len = len) ∧ cl = cl ∧ (True ∧ (0 : Nat) = (0 : Nat)) ∧ Prod.snd (Go.Proofs.Tryz.Sx.dcF g len i) =
Prod.snd (Go.Proofs.Tryz.Sx.dcF g len i) ∧ Prod.fst (Go.Proofs.Tryz.Sx.dcF g len i) = Prod.fst (Go.Proofs.Tryz.Sx.dcF g len i) ∧ (True ∧ (0 : Nat) = (0 : Nat)) ∧ (True ∧ (0 : Nat) = (0 : Nat)) ∧ (True ∧ (0 : Nat) = (0 : Nat)) ∧ Go.Proofs.Tryz.Sx.cwF
g len i = Go.Proofs.Tryz.Sx.cwF g len i ∧ (↑i : Int) = (↑i : Int) ∧ True) ∧ True ∧ ((2 : Nat) * len ≤ (2 : Nat) * len ∧ ∀ (i : Nat), i < (2 : Nat) * len → g i = g i) ∧ True ∧ ((102 : Nat) = (102 : Nat) ∧ (0 : Nat) = (0 : Nat) ∧ g ((0 : Nat) +
Int.toNat (↑i : Int) * (2 : Nat) + (0 : Nat)) = Go.Proofs.Tryz.Sx.rlo g (0 : Nat) (i + (1 : Nat)) ∧ Go.Proofs.Tryz.Sx.rlo g (1 : Nat) i = Go.Proofs.Tryz.Sx.rlo g (1 : Nat) (i + (1 : Nat)) ∧ Go.Proofs.Tryz.Sx.rhi g (0 : Nat) i = Go.Proofs.Tryz.Sx.rhi
g (0 : Nat) (i + (1 : Nat)) ∧ g ((0 : Nat) + Int.toNat (↑i : Int) * (2 : Nat) + (1 : Nat)) = Go.Proofs.Tryz.Sx.rhi g (1 : Nat) (i + (1 : Nat)) ∧ True) ∧ True ∧ ((100 : Nat) = (100 : Nat) ∧ (0 : Nat) = (0 : Nat) ∧ Go.Proofs.Tryz.Sx.la g (0 : Nat) i =
Go.Proofs.Tryz.Sx.la g (0 : Nat) i ∧ Go.Proofs.Tryz.Sx.la g (1 : Nat) i = Go.Proofs.Tryz.Sx.la g (1 : Nat) i ∧ True) ∧ True ∧ ((100 : Nat) = (100 : Nat) ∧ (0 : Nat) = (0 : Nat) ∧ Go.Proofs.Tryz.Sx.lb g len (0 : Nat) i = Go.Proofs.Tryz.Sx.lb g len (0
: Nat) i ∧ Go.Proofs.Tryz.Sx.lb g len (1 : Nat) i = Go.Proofs.Tryz.Sx.lb g len (1 : Nat) i ∧ True) ∧ True ∧ ((100 : Nat) = (100 : Nat) ∧ (0 : Nat) = (0 : Nat) ∧ Go.Proofs.Tryz.Sx.lc g len (0 : Nat) i = Go.Proofs.Tryz.Sx.lc g len (0 : Nat) i ∧
Go.Proofs.Tryz.Sx.lc g len (1 : Nat) i = Go.Proofs.Tryz.Sx.lc g len (1 : Nat) i ∧ True) ∧ True) ∧ (Go.Sx.fGt .f64 (g ((0 : Nat) + Int.toNat (↑i : Int) * (2 : Nat) + (1 : Nat))) (Go.Proofs.Tryz.Sx.rhi g (1 : Nat) i) = false → ∃ (j : Nat), (i < len ∧
Go.Proofs.Tryz.Sx.ppBig len cl = true) ∧ ((True ∧ len = len) ∧ cl = cl ∧ (True ∧ (0 : Nat) = (0 : Nat)) ∧ Prod.snd (Go.Proofs.Tryz.Sx.dcF g len i) = Prod.snd (Go.Proofs.Tryz.Sx.dcF g len i) ∧ Prod.fst (Go.Proofs.Tryz.Sx.dcF g len i) = Prod.fst
(Go.Proofs.Tryz.Sx.dcF g len i) ∧ (True ∧ (0 : Nat) = (0 : Nat)) ∧ (True ∧ (0 : Nat) = (0 : Nat)) ∧ (True ∧ (0 : Nat) = (0 : Nat)) ∧ Go.Proofs.Tryz.Sx.cwF g len i = Go.Proofs.Tryz.Sx.cwF g len i ∧ (↑i : Int) = (↑i : Int) ∧ True) ∧ True ∧ ((2 : Nat) *
len ≤ (2 : Nat) * len ∧ ∀ (i : Nat), i < (2 : Nat) * len → g i = g i) ∧ True ∧ ((102 : Nat) = (102 : Nat) ∧ (0 : Nat) = (0 : Nat) ∧ g ((0 : Nat) + Int.toNat (↑i : Int) * (2 : Nat) + (0 : Nat)) = Go.Proofs.Tryz.Sx.rlo g (0 : Nat) (i + (1 : Nat)) ∧
Go.Proofs.Tryz.Sx.rlo g (1 : Nat) i = Go.Proofs.Tryz.Sx.rlo g (1 : Nat) (i + (1 : Nat)) ∧ Go.Proofs.Tryz.Sx.rhi g (0 : Nat) i = Go.Proofs.Tryz.Sx.rhi g (0 : Nat) (i + (1 : Nat)) ∧ Go.Proofs.Tryz.Sx.rhi g (1 : Nat) i = Go.Proofs.Tryz.Sx.rhi g (1 :
Nat) (i + (1 : Nat)) ∧ True) ∧ True ∧ ((100 : Nat) = (100 : Nat) ∧ (0 : Nat) = (0 : Nat) ∧ Go.Proofs.Tryz.Sx.la g (0 : Nat) i = Go.Proofs.Tryz.Sx.la g (0 : Nat) i ∧ Go.Proofs.Tryz.Sx.la g (1 : Nat) i = Go.Proofs.Tryz.Sx.la g (1 : Nat) i ∧ True) ∧
True ∧ ((100 : Nat) = (100 : Nat) ∧ (0 : Nat) = (0 : Nat) ∧ Go.Proofs.Tryz.Sx.lb g len (0 : Nat) i = Go.Proofs.Tryz.Sx.lb g len (0 : Nat) i ∧ Go.Proofs.Tryz.Sx.lb g len (1 : Nat) i = Go.Proofs.Tryz.Sx.lb g len (1 : Nat) i ∧ True) ∧ True ∧ ((100 :
Nat) = (100 : Nat) ∧ (0 : Nat) = (0 : Nat) ∧ Go.Proofs.Tryz.Sx.lc g len (0 : Nat) i = Go.Proofs.Tryz.Sx.lc g len (0 : Nat) i ∧ Go.Proofs.Tryz.Sx.lc g len (1 : Nat) i = Go.Proofs.Tryz.Sx.lc g len (1 : Nat) i ∧ True) ∧ True))) ∧ (Go.Sx.fLt .f64 (g ((0
: Nat) + Int.toNat (↑i : Int) * (2 : Nat) + (0 : Nat))) (Go.Proofs.Tryz.Sx.rlo g (0 : Nat) i) = false → (((0 : Int) ≤ (↑i : Int) ∧ (↑i : Int) < (↑len : Int)) ∧ (1 : Nat) ≤ (2 : Nat) * len) ∧ (0 : Nat) < (2 : Nat) * len ∧ (0 : Nat) + Int.toNat (↑i :
Int) * (2 : Nat) + (0 : Nat) + (1 : Nat) ≤ (2 : Nat) * len ∧ true = true ∧ (Go.Sx.fGt .f64 (g ((0 : Nat) + Int.toNat (↑i : Int) * (2 : Nat) + (0 : Nat))) (Go.Proofs.Tryz.Sx.rhi g (0 : Nat) i) = true → (((0 : Int) ≤ (↑i : Int) ∧ (↑i : Int) < (↑len :
Int)) ∧ (1 : Nat) ≤ (2 : Nat) * len) ∧ (0 : Nat) < (2 : Nat) * len ∧ (0 : Nat) + Int.toNat (↑i : Int) * (2 : Nat) + (0 : Nat) + (1 : Nat) ≤ (2 : Nat) * len ∧ (((0 : Int) ≤ (↑i : Int) ∧ (↑i : Int) < (↑len : Int)) ∧ (1 : Nat) ≤ (2 : Nat) * len) ∧ (0 :
Nat) < (2 : Nat) * len ∧ (0 : Nat) + Int.toNat (↑i : Int) * (2 : Nat) + (1 : Nat) + (1 : Nat) ≤ (2 : Nat) * len ∧ true = true ∧ (Go.Sx.fLt .f64 (g ((0 : Nat) + Int.toNat (↑i : Int) * (2 : Nat) + (1 : Nat))) (Go.Proofs.Tryz.Sx.rlo g (1 : Nat) i) =
true → (((0 : Int) ≤ (↑i : Int) ∧ (↑i : Int) < (↑len : Int)) ∧ (1 : Nat) ≤ (2 : Nat) * len) ∧ (0 : Nat) < (2 : Nat) * len ∧ (0 : Nat) + Int.toNat (↑i : Int) * (2 : Nat) + (1 : Nat) + (1 : Nat) ≤ (2 : Nat) * len ∧ ∃ (j : Nat), (i < len ∧
Go.Proofs.Tryz.Sx.ppBig len cl = true) ∧ ((True ∧ len = len) ∧ cl = cl ∧ (True ∧ (0 : Nat) = (0 : Nat)) ∧ Prod.snd (Go.Proofs.Tryz.Sx.dcF g len i) = Prod.snd (Go.Proofs.Tryz.Sx.dcF g len i) ∧ Prod.fst (Go.Proofs.Tryz.Sx.dcF g len i) = Prod.fst
(Go.Proofs.Tryz.Sx.dcF g len i) ∧ (True ∧ (0 : Nat) = (0 : Nat)) ∧ (True ∧ (0 : Nat) = (0 : Nat)) ∧ (True ∧ (0 : Nat) = (0 : Nat)) ∧ Go.Proofs.Tryz.Sx.cwF g len i = Go.Proofs.Tryz.Sx.cwF g len i ∧ (↑i : Int) = (↑i : Int) ∧ True) ∧ True ∧ ((2 : Nat) *
len ≤ (2 : Nat) * len ∧ ∀ (i : Nat), i < (2 : Nat) * len → g i = g i) ∧ True ∧ ((102 : Nat) = (102 : Nat) ∧ (0 : Nat) = (0 : Nat) ∧ Go.Proofs.Tryz.Sx.rlo g (0 : Nat) i = Go.Proofs.Tryz.Sx.rlo g (0 : Nat) (i + (1 : Nat)) ∧ g ((0 : Nat) + Int.toNat (↑i
: Int) * (2 : Nat) + (1 : Nat)) = Go.Proofs.Tryz.Sx.rlo g (1 : Nat) (i + (1 : Nat)) ∧ g ((0 : Nat) + Int.toNat (↑i : Int) * (2 : Nat) + (0 : Nat)) = Go.Proofs.Tryz.Sx.rhi g (0 : Nat) (i + (1 : Nat)) ∧ Go.Proofs.Tryz.Sx.rhi g (1 : Nat) i =
Go.Proofs.Tryz.Sx.rhi g (1 : Nat) (i + (1 : Nat)) ∧ True) ∧ True ∧ ((100 : Nat) = (100 : Nat) ∧ (0 : Nat) = (0 : Nat) ∧ Go.Proofs.Tryz.Sx.la g (0 : Nat) i = Go.Proofs.Tryz.Sx.la g (0 : Nat) i ∧ Go.Proofs.Tryz.Sx.la g (1 : Nat) i =
Go.Proofs.Tryz.Sx.la g (1 : Nat) i ∧ True) ∧ True ∧ ((100 : Nat) = (100 : Nat) ∧ (0 : Nat) = (0 : Nat) ∧ Go.Proofs.Tryz.Sx.lb g len (0 : Nat) i = Go.Proofs.Tryz.Sx.lb g len (0 : Nat) i ∧ Go.Proofs.Tryz.Sx.lb g len (1 : Nat) i = Go.Proofs.Tryz.Sx.lb g
len (1 : Nat) i ∧ True) ∧ True ∧ ((100 : Nat) = (100 : Nat) ∧ (0 : Nat) = (0 : Nat) ∧ Go.Proofs.Tryz.Sx.lc g len (0 : Nat) i = Go.Proofs.Tryz.Sx.lc g len (0 : Nat) i ∧ Go.Proofs.Tryz.Sx.lc g len (1 : Nat) i = Go.Proofs.Tryz.Sx.lc g len (1 : Nat) i ∧
True) ∧ True) ∧ (Go.Sx.fLt .f64 (g ((0 : Nat) + Int.toNat (↑i : Int) * (2 : Nat) + (1 : Nat))) (Go.Proofs.Tryz.Sx.rlo g (1 : Nat) i) = false → (((0 : Int) ≤ (↑i : Int) ∧ (↑i : Int) < (↑len : Int)) ∧ (1 : Nat) ≤ (2 : Nat) * len) ∧ (0 : Nat) < (2 :
Nat) * len ∧ (0 : Nat) + Int.toNat (↑i : Int) * (2 : Nat) + (1 : Nat) + (1 : Nat) ≤ (2 : Nat) * len ∧ true = true ∧ (Go.Sx.fGt .f64 (g ((0 : Nat) + Int.toNat (↑i : Int) * (2 : Nat) + (1 : Nat))) (Go.Proofs.Tryz.Sx.rhi g (1 : Nat) i) = true → (((0 :
Int) ≤ (↑i : Int) ∧ (↑i : Int) < (↑len : Int)) ∧ (1 : Nat) ≤ (2 : Nat) * len) ∧ (0 : Nat) < (2 : Nat) * len ∧ (0 : Nat) + Int.toNat (↑i : Int) * (2 : Nat) + (1 : Nat) + (1 : Nat) ≤ (2 : Nat) * len ∧ ∃ (j : Nat), (i < len ∧ Go.Proofs.Tryz.Sx.ppBig len
cl = true) ∧ ((True ∧ len = len) ∧ cl = cl ∧ (True ∧ (0 : Nat) = (0 : Nat)) ∧ Prod.snd (Go.Proofs.Tryz.Sx.dcF g len i) = Prod.snd (Go.Proofs.Tryz.Sx.dcF g len i) ∧ Prod.fst (Go.Proofs.Tryz.Sx.dcF g len i) = Prod.fst (Go.Proofs.Tryz.Sx.dcF g len i) ∧
(True ∧ (0 : Nat) = (0 : Nat)) ∧ (True ∧ (0 : Nat) = (0 : Nat)) ∧ (True ∧ (0 : Nat) = (0 : Nat)) ∧ Go.Proofs.Tryz.Sx.cwF g len i = Go.Proofs.Tryz.Sx.cwF g len i ∧ (↑i : Int) = (↑i : Int) ∧ True) ∧ True ∧ ((2 : Nat) * len ≤ (2 : Nat) * len ∧ ∀ (i :
Nat), i < (2 : Nat) * len → g i = g i) ∧ True ∧ ((102 : Nat) = (102 : Nat) ∧ (0 : Nat) = (0 : Nat) ∧ Go.Proofs.Tryz.Sx.rlo g (0 : Nat) i = Go.Proofs.Tryz.Sx.rlo g (0 : Nat) (i + (1 : Nat)) ∧ Go.Proofs.Tryz.Sx.rlo g (1 : Nat) i = Go.Proofs.Tryz.Sx.rlo
g (1 : Nat) (i + (1 : Nat)) ∧ g ((0 : Nat) + Int.toNat (↑i : Int) * (2 : Nat) + (0 : Nat)) = Go.Proofs.Tryz.Sx.rhi g (0 : Nat) (i + (1 : Nat)) ∧ g ((0 : Nat) + Int.toNat (↑i : Int) * (2 : Nat) + (1 : Nat)) = Go.Proofs.Tryz.Sx.rhi g (1 : Nat) (i + (1
: Nat)) ∧ True) ∧ True ∧ ((100 : Nat) = (100 : Nat) ∧ (0 : Nat) = (0 : Nat) ∧ Go.Proofs.Tryz.Sx.la g (0 : Nat) i = Go.Proofs.Tryz.Sx.la g (0 : Nat) i ∧ Go.Proofs.Tryz.Sx.la g (1 : Nat) i = Go.Proofs.Tryz.Sx.la g (1 : Nat) i ∧ True) ∧ True ∧ ((100 :
Nat) = (100 : Nat) ∧ (0 : Nat) = (0 : Nat) ∧ Go.Proofs.Tryz.Sx.lb g len (0 : Nat) i = Go.Proofs.Tryz.Sx.lb g len (0 : Nat) i ∧ Go.Proofs.Tryz.Sx.lb g len (1 : Nat) i = Go.Proofs.Tryz.Sx.lb g len (1 : Nat) i ∧ True) ∧ True ∧ ((100 : Nat) = (100 : Nat)
∧ (0 : Nat) = (0 : Nat) ∧ Go.Proofs.Tryz.Sx.lc g len (0 : Nat) i = Go.Proofs.Tryz.Sx.lc g len (0 : Nat) i ∧ Go.Proofs.Tryz.Sx.lc g len (1 : Nat) i = Go.Proofs.Tryz.Sx.lc g len (1 : Nat) i ∧ True) ∧ True) ∧ (Go.Sx.fGt .f64 (g ((0 : Nat) + Int.toNat
(↑i : Int) * (2 : Nat) + (1 : Nat))) (Go.Proofs.Tryz.Sx.rhi g (1 : Nat) i) = false → ∃ (j : Nat), (i < len ∧ Go.Proofs.Tryz.Sx.ppBig len cl = true) ∧ ((True ∧ len = len) ∧ cl = cl ∧ (True ∧ (0 : Nat) = (0 : Nat)) ∧ Prod.snd (Go.Proofs.Tryz.Sx.dcF g
len i) = Prod.snd (Go.Proofs.Tryz.Sx.dcF g len i) ∧ Prod.fst (Go.Proofs.Tryz.Sx.dcF g len i) = Prod.fst (Go.Proofs.Tryz.Sx.dcF g len i) ∧ (True ∧ (0 : Nat) = (0 : Nat)) ∧ (True ∧ (0 : Nat) = (0 : Nat)) ∧ (True ∧ (0 : Nat) = (0 : Nat)) ∧
Go.Proofs.Tryz.Sx.cwF g len i = Go.Proofs.Tryz.Sx.cwF g len i ∧ (↑i : Int) = (↑i : Int) ∧ True) ∧ True ∧ ((2 : Nat) * len ≤ (2 : Nat) * len ∧ ∀ (i : Nat), i < (2 : Nat) * len → g i = g i) ∧ True ∧ ((102 : Nat) = (102 : Nat) ∧ (0 : Nat) = (0 : Nat) ∧
Go.Proofs.Tryz.Sx.rlo g (0 : Nat) i = Go.Proofs.Tryz.Sx.rlo g (0 : Nat) (i + (1 : Nat)) ∧ Go.Proofs.Tryz.Sx.rlo g (1 : Nat) i = Go.Proofs.Tryz.Sx.rlo g (1 : Nat) (i + (1 : Nat)) ∧ g ((0 : Nat) + Int.toNat (↑i : Int) * (2 : Nat) + (0 : Nat)) =
Go.Proofs.Tryz.Sx.rhi g (0 : Nat) (i + (1 : Nat)) ∧ Go.Proofs.Tryz.Sx.rhi g (1 : Nat) i = Go.Proofs.Tryz.Sx.rhi g (1 : Nat) (i + (1 : Nat)) ∧ True) ∧ True ∧ ((100 : Nat) = (100 : Nat) ∧ (0 : Nat) = (0 : Nat) ∧ Go.Proofs.Tryz.Sx.la g (0 : Nat) i =
Go.Proofs.Tryz.Sx.la g (0 : Nat) i ∧ Go.Proofs.Tryz.Sx.la g (1 : Nat) i = Go.Proofs.Tryz.Sx.la g (1 : Nat) i ∧ True) ∧ True ∧ ((100 : Nat) = (100 : Nat) ∧ (0 : Nat) = (0 : Nat) ∧ Go.Proofs.Tryz.Sx.lb g len (0 : Nat) i = Go.Proofs.Tryz.Sx.lb g len (0
: Nat) i ∧ Go.Proofs.Tryz.Sx.lb g len (1 : Nat) i = Go.Proofs.Tryz.Sx.lb g len (1 : Nat) i ∧ True) ∧ True ∧ ((100 : Nat) = (100 : Nat) ∧ (0 : Nat) = (0 : Nat) ∧ Go.Proofs.Tryz.Sx.lc g len (0 : Nat) i = Go.Proofs.Tryz.Sx.lc g len (0 : Nat) i ∧
Go.Proofs.Tryz.Sx.lc g len (1 : Nat) i = Go.Proofs.Tryz.Sx.lc g len (1 : Nat) i ∧ True) ∧ True))) ∧ (Go.Sx.fGt .f64 (g ((0 : Nat) + Int.toNat (↑i : Int) * (2 : Nat) + (0 : Nat))) (Go.Proofs.Tryz.Sx.rhi g (0 : Nat) i) = false → (((0 : Int) ≤ (↑i :
Int) ∧ (↑i : Int) < (↑len : Int)) ∧ (1 : Nat) ≤ (2 : Nat) * len) ∧ (0 : Nat) < (2 : Nat) * len ∧ (0 : Nat) + Int.toNat (↑i : Int) * (2 : Nat) + (1 : Nat) + (1 : Nat) ≤ (2 : Nat) * len ∧ true = true ∧ (Go.Sx.fLt .f64 (g ((0 : Nat) + Int.toNat (↑i :
Int) * (2 : Nat) + (1 : Nat))) (Go.Proofs.Tryz.Sx.rlo g (1 : Nat) i) = true → (((0 : Int) ≤ (↑i : Int) ∧ (↑i : Int) < (↑len : Int)) ∧ (1 : Nat) ≤ (2 : Nat) * len) ∧ (0 : Nat) < (2 : Nat) * len ∧ (0 : Nat) + Int.toNat (↑i : Int) * (2 : Nat) + (1 :
Nat) + (1 : Nat) ≤ (2 : Nat) * len ∧ ∃ (j : Nat), (i < len ∧ Go.Proofs.Tryz.Sx.ppBig len cl = true) ∧ ((True ∧ len = len) ∧ cl = cl ∧ (True ∧ (0 : Nat) = (0 : Nat)) ∧ Prod.snd (Go.Proofs.Tryz.Sx.dcF g len i) = Prod.snd (Go.Proofs.Tryz.Sx.dcF g len i)
∧ Prod.fst (Go.Proofs.Tryz.Sx.dcF g len i) = Prod.fst (Go.Proofs.Tryz.Sx.dcF g len i) ∧ (True ∧ (0 : Nat) = (0 : Nat)) ∧ (True ∧ (0 : Nat) = (0 : Nat)) ∧ (True ∧ (0 : Nat) = (0 : Nat)) ∧ Go.Proofs.Tryz.Sx.cwF g len i = Go.Proofs.Tryz.Sx.cwF g len i ∧
(↑i : Int) = (↑i : Int) ∧ True) ∧ True ∧ ((2 : Nat) * len ≤ (2 : Nat) * len ∧ ∀ (i : Nat), i < (2 : Nat) * len → g i = g i) ∧ True ∧ ((102 : Nat) = (102 : Nat) ∧ (0 : Nat) = (0 : Nat) ∧ Go.Proofs.Tryz.Sx.rlo g (0 : Nat) i = Go.Proofs.Tryz.Sx.rlo g (0
: Nat) (i + (1 : Nat)) ∧ g ((0 : Nat) + Int.toNat (↑i : Int) * (2 : Nat) + (1 : Nat)) = Go.Proofs.Tryz.Sx.rlo g (1 : Nat) (i + (1 : Nat)) ∧ Go.Proofs.Tryz.Sx.rhi g (0 : Nat) i = Go.Proofs.Tryz.Sx.rhi g (0 : Nat) (i + (1 : Nat)) ∧
Go.Proofs.Tryz.Sx.rhi g (1 : Nat) i = Go.Proofs.Tryz.Sx.rhi g (1 : Nat) (i + (1 : Nat)) ∧ True) ∧ True ∧ ((100 : Nat) = (100 : Nat) ∧ (0 : Nat) = (0 : Nat) ∧ Go.Proofs.Tryz.Sx.la g (0 : Nat) i = Go.Proofs.Tryz.Sx.la g (0 : Nat) i ∧
Go.Proofs.Tryz.Sx.la g (1 : Nat) i = Go.Proofs.Tryz.Sx.la g (1 : Nat) i ∧ True) ∧ True ∧ ((100 : Nat) = (100 : Nat) ∧ (0 : Nat) = (0 : Nat) ∧ Go.Proofs.Tryz.Sx.lb g len (0 : Nat) i = Go.Proofs.Tryz.Sx.lb g len (0 : Nat) i ∧ Go.Proofs.Tryz.Sx.lb g len
(1 : Nat) i = Go.Proofs.Tryz.Sx.lb g len (1 : Nat) i ∧ True) ∧ True ∧ ((100 : Nat) = (100 : Nat) ∧ (0 : Nat) = (0 : Nat) ∧ Go.Proofs.Tryz.Sx.lc g len (0 : Nat) i = Go.Proofs.Tryz.Sx.lc g len (0 : Nat) i ∧ Go.Proofs.Tryz.Sx.lc g len (1 : Nat) i =
Go.Proofs.Tryz.Sx.lc g len (1 : Nat) i ∧ True) ∧ True) ∧ (Go.Sx.fLt .f64 (g ((0 : Nat) + Int.toNat (↑i : Int) * (2 : Nat) + (1 : Nat))) (Go.Proofs.Tryz.Sx.rlo g (1 : Nat) i) = false → (((0 : Int) ≤ (↑i : Int) ∧ (↑i : Int) < (↑len : Int)) ∧ (1 : Nat)
≤ (2 : Nat) * len) ∧ (0 : Nat) < (2 : Nat) * len ∧ (0 : Nat) + Int.toNat (↑i : Int) * (2 : Nat) + (1 : Nat) + (1 : Nat) ≤ (2 : Nat) * len ∧ true = true ∧ (Go.Sx.fGt .f64 (g ((0 : Nat) + Int.toNat (↑i : Int) * (2 : Nat) + (1 : Nat)))
(Go.Proofs.Tryz.Sx.rhi g (1 : Nat) i) = true → (((0 : Int) ≤ (↑i : Int) ∧ (↑i : Int) < (↑len : Int)) ∧ (1 : Nat) ≤ (2 : Nat) * len) ∧ (0 : Nat) < (2 : Nat) * len ∧ (0 : Nat) + Int.toNat (↑i : Int) * (2 : Nat) + (1 : Nat) + (1 : Nat) ≤ (2 : Nat) * len
∧ ∃ (j : Nat), (i < len ∧ Go.Proofs.Tryz.Sx.ppBig len cl = true) ∧ ((True ∧ len = len) ∧ cl = cl ∧ (True ∧ (0 : Nat) = (0 : Nat)) ∧ Prod.snd (Go.Proofs.Tryz.Sx.dcF g len i) = Prod.snd (Go.Proofs.Tryz.Sx.dcF g len i) ∧ Prod.fst (Go.Proofs.Tryz.Sx.dcF
g len i) = Prod.fst (Go.Proofs.Tryz.Sx.dcF g len i) ∧ (True ∧ (0 : Nat) = (0 : Nat)) ∧ (True ∧ (0 : Nat) = (0 : Nat)) ∧ (True ∧ (0 : Nat) = (0 : Nat)) ∧ Go.Proofs.Tryz.Sx.cwF g len i = Go.Proofs.Tryz.Sx.cwF g len i ∧ (↑i : Int) = (↑i : Int) ∧ True) ∧
True ∧ ((2 : Nat) * len ≤ (2 : Nat) * len ∧ ∀ (i : Nat), i < (2 : Nat) * len → g i = g i) ∧ True ∧ ((102 : Nat) = (102 : Nat) ∧ (0 : Nat) = (0 : Nat) ∧ Go.Proofs.Tryz.Sx.rlo g (0 : Nat) i = Go.Proofs.Tryz.Sx.rlo g (0 : Nat) (i + (1 : Nat)) ∧
Go.Proofs.Tryz.Sx.rlo g (1 : Nat) i = Go.Proofs.Tryz.Sx.rlo g (1 : Nat) (i + (1 : Nat)) ∧ Go.Proofs.Tryz.Sx.rhi g (0 : Nat) i = Go.Proofs.Tryz.Sx.rhi g (0 : Nat) (i + (1 : Nat)) ∧ g ((0 : Nat) + Int.toNat (↑i : Int) * (2 : Nat) + (1 : Nat)) =
Go.Proofs.Tryz.Sx.rhi g (1 : Nat) (i + (1 : Nat)) ∧ True) ∧ True ∧ ((100 : Nat) = (100 : Nat) ∧ (0 : Nat) = (0 : Nat) ∧ Go.Proofs.Tryz.Sx.la g (0 : Nat) i = Go.Proofs.Tryz.Sx.la g (0 : Nat) i ∧ Go.Proofs.Tryz.Sx.la g (1 : Nat) i =
Go.Proofs.Tryz.Sx.la g (1 : Nat) i ∧ True) ∧ True ∧ ((100 : Nat) = (100 : Nat) ∧ (0 : Nat) = (0 : Nat) ∧ Go.Proofs.Tryz.Sx.lb g len (0 : Nat) i = Go.Proofs.Tryz.Sx.lb g len (0 : Nat) i ∧ Go.Proofs.Tryz.Sx.lb g len (1 : Nat) i = Go.Proofs.Tryz.Sx.lb g
len (1 : Nat) i ∧ True) ∧ True ∧ ((100 : Nat) = (100 : Nat) ∧ (0 : Nat) = (0 : Nat) ∧ Go.Proofs.Tryz.Sx.lc g len (0 : Nat) i = Go.Proofs.Tryz.Sx.lc g len (0 : Nat) i ∧ Go.Proofs.Tryz.Sx.lc g len (1 : Nat) i = Go.Proofs.Tryz.Sx.lc g len (1 : Nat) i ∧
True) ∧ True) ∧ (Go.Sx.fGt .f64 (g ((0 : Nat) + Int.toNat (↑i : Int) * (2 : Nat) + (1 : Nat))) (Go.Proofs.Tryz.Sx.rhi g (1 : Nat) i) = false → ∃ (j : Nat), (i < len ∧ Go.Proofs.Tryz.Sx.ppBig len cl = true) ∧ ((True ∧ len = len) ∧ cl = cl ∧ (True ∧ (0
: Nat) = (0 : Nat)) ∧ Prod.snd (Go.Proofs.Tryz.Sx.dcF g len i) = Prod.snd (Go.Proofs.Tryz.Sx.dcF g len i) ∧ Prod.fst (Go.Proofs.Tryz.Sx.dcF g len i) = Prod.fst (Go.Proofs.Tryz.Sx.dcF g len i) ∧ (True ∧ (0 : Nat) = (0 : Nat)) ∧ (True ∧ (0 : Nat) = (0
: Nat)) ∧ (True ∧ (0 : Nat) = (0 : Nat)) ∧ Go.Proofs.Tryz.Sx.cwF g len i = Go.Proofs.Tryz.Sx.cwF g len i ∧ (↑i : Int) = (↑i : Int) ∧ True) ∧ True ∧ ((2 : Nat) * len ≤ (2 : Nat) * len ∧ ∀ (i : Nat), i < (2 : Nat) * len → g i = g i) ∧ True ∧ ((102 :
Nat) = (102 : Nat) ∧ (0 : Nat) = (0 : Nat) ∧ Go.Proofs.Tryz.Sx.rlo g (0 : Nat) i = Go.Proofs.Tryz.Sx.rlo g (0 : Nat) (i + (1 : Nat)) ∧ Go.Proofs.Tryz.Sx.rlo g (1 : Nat) i = Go.Proofs.Tryz.Sx.rlo g (1 : Nat) (i + (1 : Nat)) ∧ Go.Proofs.Tryz.Sx.rhi g
(0 : Nat) i = Go.Proofs.Tryz.Sx.rhi g (0 : Nat) (i + (1 : Nat)) ∧ Go.Proofs.Tryz.Sx.rhi g (1 : Nat) i = Go.Proofs.Tryz.Sx.rhi g (1 : Nat) (i + (1 : Nat)) ∧ True) ∧ True ∧ ((100 : Nat) = (100 : Nat) ∧ (0 : Nat) = (0 : Nat) ∧ Go.Proofs.Tryz.Sx.la g (0
: Nat) i = Go.Proofs.Tryz.Sx.la g (0 : Nat) i ∧ Go.Proofs.Tryz.Sx.la g (1 : Nat) i = Go.Proofs.Tryz.Sx.la g (1 : Nat) i ∧ True) ∧ True ∧ ((100 : Nat) = (100 : Nat) ∧ (0 : Nat) = (0 : Nat) ∧ Go.Proofs.Tryz.Sx.lb g len (0 : Nat) i =
Go.Proofs.Tryz.Sx.lb g len (0 : Nat) i ∧ Go.Proofs.Tryz.Sx.lb g len (1 : Nat) i = Go.Proofs.Tryz.Sx.lb g len (1 : Nat) i ∧ True) ∧ True ∧ ((100 : Nat) = (100 : Nat) ∧ (0 : Nat) = (0 : Nat) ∧ Go.Proofs.Tryz.Sx.lc g len (0 : Nat) i =
Go.Proofs.Tryz.Sx.lc g len (0 : Nat) i ∧ Go.Proofs.Tryz.Sx.lc g len (1 : Nat) i = Go.Proofs.Tryz.Sx.lc g len (1 : Nat) i ∧ True) ∧ True)))))) ∧ ∀ (j : Nat), i < len ∧ Go.Proofs.Tryz.Sx.ppBig len cl = true → ((((0 : Int) ≤ (↑i : Int) ∧ (↑i : Int) <
(↑len : Int)) ∧ (1 : Nat) ≤ (2 : Nat) * len) ∧ (0 : Nat) + Int.toNat (↑i : Int) * (2 : Nat) + (2 : Nat) ≤ (2 : Nat) * len ∧ ∃ (j : Nat), (i < len ∧ Go.Proofs.Tryz.Sx.ppBig len cl = true) ∧ ((True ∧ len = len) ∧ cl = cl ∧ (True ∧ (0 : Nat) = (0 :
Nat)) ∧ Prod.snd (Go.Proofs.Tryz.Sx.dcF g len i) = Prod.snd (Go.Proofs.Tryz.Sx.dcF g len i) ∧ Prod.fst (Go.Proofs.Tryz.Sx.dcF g len i) = Prod.fst (Go.Proofs.Tryz.Sx.dcF g len i) ∧ (True ∧ (0 : Nat) = (0 : Nat)) ∧ (True ∧ (0 : Nat) = (0 : Nat)) ∧
(True ∧ (0 : Nat) = (0 : Nat)) ∧ Go.Proofs.Tryz.Sx.cwF g len i = Go.Proofs.Tryz.Sx.cwF g len i ∧ (↑i : Int) = (↑i : Int) ∧ True) ∧ True ∧ ((2 : Nat) * len ≤ (2 : Nat) * len ∧ ∀ (i : Nat), i < (2 : Nat) * len → g i = g i) ∧ True ∧ ((102 : Nat) = (102
: Nat) ∧ (0 : Nat) = (0 : Nat) ∧ Go.Proofs.Tryz.Sx.rlo g (0 : Nat) (i + (1 : Nat)) = Go.Proofs.Tryz.Sx.rlo g (0 : Nat) (i + (1 : Nat)) ∧ Go.Proofs.Tryz.Sx.rlo g (1 : Nat) (i + (1 : Nat)) = Go.Proofs.Tryz.Sx.rlo g (1 : Nat) (i + (1 : Nat)) ∧
Go.Proofs.Tryz.Sx.rhi g (0 : Nat) (i + (1 : Nat)) = Go.Proofs.Tryz.Sx.rhi g (0 : Nat) (i + (1 : Nat)) ∧ Go.Proofs.Tryz.Sx.rhi g (1 : Nat) (i + (1 : Nat)) = Go.Proofs.Tryz.Sx.rhi g (1 : Nat) (i + (1 : Nat)) ∧ True) ∧ True ∧ ((100 : Nat) = (100 : Nat)
∧ (0 : Nat) = (0 : Nat) ∧ g ((0 : Nat) + Int.toNat (↑i : Int) * (2 : Nat)) = Go.Proofs.Tryz.Sx.la g (0 : Nat) (i + (1 : Nat)) ∧ g ((0 : Nat) + Int.toNat (↑i : Int) * (2 : Nat) + (1 : Nat)) = Go.Proofs.Tryz.Sx.la g (1 : Nat) (i + (1 : Nat)) ∧ True) ∧
True ∧ ((100 : Nat) = (100 : Nat) ∧ (0 : Nat) = (0 : Nat) ∧ Go.Proofs.Tryz.Sx.lb g len (0 : Nat) i = Go.Proofs.Tryz.Sx.lb g len (0 : Nat) i ∧ Go.Proofs.Tryz.Sx.lb g len (1 : Nat) i = Go.Proofs.Tryz.Sx.lb g len (1 : Nat) i ∧ True) ∧ True ∧ ((100 :
Nat) = (100 : Nat) ∧ (0 : Nat) = (0 : Nat) ∧ Go.Proofs.Tryz.Sx.lc g len (0 : Nat) i = Go.Proofs.Tryz.Sx.lc g len (0 : Nat) i ∧ Go.Proofs.Tryz.Sx.lc g len (1 : Nat) i = Go.Proofs.Tryz.Sx.lc g len (1 : Nat) i ∧ True) ∧ True) ∧ ∀ (j : Nat), i < len ∧
Go.Proofs.Tryz.Sx.ppBig len cl = true → ((((↑i : Int) == Go.IntKind.wrap .i64 ((↑len : Int) - (1 : Int))) = true → (((0 : Int) ≤ (0 : Int) ∧ (0 : Int) < (↑len : Int)) ∧ (1 : Nat) ≤ (2 : Nat) * len) ∧ (2 : Nat) ≤ (2 : Nat) * len ∧ (((0 : Int) ≤ (1 :
Int) ∧ (1 : Int) < (↑len : Int)) ∧ (1 : Nat) ≤ (2 : Nat) * len) ∧ (4 : Nat) ≤ (2 : Nat) * len ∧ ∃ (j : Nat), (i < len ∧ Go.Proofs.Tryz.Sx.ppBig len cl = true) ∧ ((True ∧ len = len) ∧ cl = cl ∧ (True ∧ (0 : Nat) = (0 : Nat)) ∧ Prod.snd
(Go.Proofs.Tryz.Sx.dcF g len i) = Prod.snd (Go.Proofs.Tryz.Sx.dcF g len i) ∧ Prod.fst (Go.Proofs.Tryz.Sx.dcF g len i) = Prod.fst (Go.Proofs.Tryz.Sx.dcF g len i) ∧ (True ∧ (0 : Nat) = (0 : Nat)) ∧ (True ∧ (0 : Nat) = (0 : Nat)) ∧ (True ∧ (0 : Nat) =
(0 : Nat)) ∧ Go.Proofs.Tryz.Sx.cwF g len i = Go.Proofs.Tryz.Sx.cwF g len i ∧ (↑i : Int) = (↑i : Int) ∧ True) ∧ True ∧ ((2 : Nat) * len ≤ (2 : Nat) * len ∧ ∀ (i : Nat), i < (2 : Nat) * len → g i = g i) ∧ True ∧ ((102 : Nat) = (102 : Nat) ∧ (0 : Nat) =
(0 : Nat) ∧ Go.Proofs.Tryz.Sx.rlo g (0 : Nat) (i + (1 : Nat)) = Go.Proofs.Tryz.Sx.rlo g (0 : Nat) (i + (1 : Nat)) ∧ Go.Proofs.Tryz.Sx.rlo g (1 : Nat) (i + (1 : Nat)) = Go.Proofs.Tryz.Sx.rlo g (1 : Nat) (i + (1 : Nat)) ∧ Go.Proofs.Tryz.Sx.rhi g (0 :
Nat) (i + (1 : Nat)) = Go.Proofs.Tryz.Sx.rhi g (0 : Nat) (i + (1 : Nat)) ∧ Go.Proofs.Tryz.Sx.rhi g (1 : Nat) (i + (1 : Nat)) = Go.Proofs.Tryz.Sx.rhi g (1 : Nat) (i + (1 : Nat)) ∧ True) ∧ True ∧ ((100 : Nat) = (100 : Nat) ∧ (0 : Nat) = (0 : Nat) ∧
Go.Proofs.Tryz.Sx.la g (0 : Nat) (i + (1 : Nat)) = Go.Proofs.Tryz.Sx.la g (0 : Nat) (i + (1 : Nat)) ∧ Go.Proofs.Tryz.Sx.la g (1 : Nat) (i + (1 : Nat)) = Go.Proofs.Tryz.Sx.la g (1 : Nat) (i + (1 : Nat)) ∧ True) ∧ True ∧ ((100 : Nat) = (100 : Nat) ∧ (0
: Nat) = (0 : Nat) ∧ g (0 : Nat) = Go.Proofs.Tryz.Sx.lb g len (0 : Nat) (i + (1 : Nat)) ∧ g (1 : Nat) = Go.Proofs.Tryz.Sx.lb g len (1 : Nat) (i + (1 : Nat)) ∧ True) ∧ True ∧ ((100 : Nat) = (100 : Nat) ∧ (0 : Nat) = (0 : Nat) ∧ g (2 : Nat) =
Go.Proofs.Tryz.Sx.lc g len (0 : Nat) (i + (1 : Nat)) ∧ g (3 : Nat) = Go.Proofs.Tryz.Sx.lc g len (1 : Nat) (i + (1 : Nat)) ∧ True) ∧ True) ∧ (((↑i : Int) == Go.IntKind.wrap .i64 ((↑len : Int) - (1 : Int))) = false → (((↑i : Int) == Go.IntKind.wrap
.i64 ((↑len : Int) - (2 : Int))) = true → (((0 : Int) ≤ Go.IntKind.wrap .i64 ((↑i : Int) + (1 : Int)) ∧ Go.IntKind.wrap .i64 ((↑i : Int) + (1 : Int)) < (↑len : Int)) ∧ (1 : Nat) ≤ (2 : Nat) * len) ∧ (0 : Nat) + Int.toNat (Go.IntKind.wrap .i64 ((↑i :
Int) + (1 : Int))) * (2 : Nat) + (2 : Nat) ≤ (2 : Nat) * len ∧ (((0 : Int) ≤ (0 : Int) ∧ (0 : Int) < (↑len : Int)) ∧ (1 : Nat) ≤ (2 : Nat) * len) ∧ (2 : Nat) ≤ (2 : Nat) * len ∧ ∃ (j : Nat), (i < len ∧ Go.Proofs.Tryz.Sx.ppBig len cl = true) ∧ ((True
∧ len = len) ∧ cl = cl ∧ (True ∧ (0 : Nat) = (0 : Nat)) ∧ Prod.snd (Go.Proofs.Tryz.Sx.dcF g len i) = Prod.snd (Go.Proofs.Tryz.Sx.dcF g len i) ∧ Prod.fst (Go.Proofs.Tryz.Sx.dcF g len i) = Prod.fst (Go.Proofs.Tryz.Sx.dcF g len i) ∧ (True ∧ (0 : Nat) =
(0 : Nat)) ∧ (True ∧ (0 : Nat) = (0 : Nat)) ∧ (True ∧ (0 : Nat) = (0 : Nat)) ∧ Go.Proofs.Tryz.Sx.cwF g len i = Go.Proofs.Tryz.Sx.cwF g len i ∧ (↑i : Int) = (↑i : Int) ∧ True) ∧ True ∧ ((2 : Nat) * len ≤ (2 : Nat) * len ∧ ∀ (i : Nat), i < (2 : Nat) *
len → g i = g i) ∧ True ∧ ((102 : Nat) = (102 : Nat) ∧ (0 : Nat) = (0 : Nat) ∧ Go.Proofs.Tryz.Sx.rlo g (0 : Nat) (i + (1 : Nat)) = Go.Proofs.Tryz.Sx.rlo g (0 : Nat) (i + (1 : Nat)) ∧ Go.Proofs.Tryz.Sx.rlo g (1 : Nat) (i + (1 : Nat)) =
Go.Proofs.Tryz.Sx.rlo g (1 : Nat) (i + (1 : Nat)) ∧ Go.Proofs.Tryz.Sx.rhi g (0 : Nat) (i + (1 : Nat)) = Go.Proofs.Tryz.Sx.rhi g (0 : Nat) (i + (1 : Nat)) ∧ Go.Proofs.Tryz.Sx.rhi g (1 : Nat) (i + (1 : Nat)) = Go.Proofs.Tryz.Sx.rhi g (1 : Nat) (i + (1
: Nat)) ∧ True) ∧ True ∧ ((100 : Nat) = (100 : Nat) ∧ (0 : Nat) = (0 : Nat) ∧ Go.Proofs.Tryz.Sx.la g (0 : Nat) (i + (1 : Nat)) = Go.Proofs.Tryz.Sx.la g (0 : Nat) (i + (1 : Nat)) ∧ Go.Proofs.Tryz.Sx.la g (1 : Nat) (i + (1 : Nat)) =
Go.Proofs.Tryz.Sx.la g (1 : Nat) (i + (1 : Nat)) ∧ True) ∧ True ∧ ((100 : Nat) = (100 : Nat) ∧ (0 : Nat) = (0 : Nat) ∧ g ((0 : Nat) + Int.toNat (Go.IntKind.wrap .i64 ((↑i : Int) + (1 : Int))) * (2 : Nat)) = Go.Proofs.Tryz.Sx.lb g len (0 : Nat) (i +
(1 : Nat)) ∧ g ((0 : Nat) + Int.toNat (Go.IntKind.wrap .i64 ((↑i : Int) + (1 : Int))) * (2 : Nat) + (1 : Nat)) = Go.Proofs.Tryz.Sx.lb g len (1 : Nat) (i + (1 : Nat)) ∧ True) ∧ True ∧ ((100 : Nat) = (100 : Nat) ∧ (0 : Nat) = (0 : Nat) ∧ g (0 : Nat) =
Go.Proofs.Tryz.Sx.lc g len (0 : Nat) (i + (1 : Nat)) ∧ g (1 : Nat) = Go.Proofs.Tryz.Sx.lc g len (1 : Nat) (i + (1 : Nat)) ∧ True) ∧ True) ∧ (((↑i : Int) == Go.IntKind.wrap .i64 ((↑len : Int) - (2 : Int))) = false → (((0 : Int) ≤ Go.IntKind.wrap .i64
((↑i : Int) + (1 : Int)) ∧ Go.IntKind.wrap .i64 ((↑i : Int) + (1 : Int)) < (↑len : Int)) ∧ (1 : Nat) ≤ (2 : Nat) * len) ∧ (0 : Nat) + Int.toNat (Go.IntKind.wrap .i64 ((↑i : Int) + (1 : Int))) * (2 : Nat) + (2 : Nat) ≤ (2 : Nat) * len ∧ (((0 : Int) ≤
Go.IntKind.wrap .i64 ((↑i : Int) + (2 : Int)) ∧ Go.IntKind.wrap .i64 ((↑i : Int) + (2 : Int)) < (↑len : Int)) ∧ (1 : Nat) ≤ (2 : Nat) * len) ∧ (0 : Nat) + Int.toNat (Go.IntKind.wrap .i64 ((↑i : Int) + (2 : Int))) * (2 : Nat) + (2 : Nat) ≤ (2 : Nat) *
len ∧ ∃ (j : Nat), (i < len ∧ Go.Proofs.Tryz.Sx.ppBig len cl = true) ∧ ((True ∧ len = len) ∧ cl = cl ∧ (True ∧ (0 : Nat) = (0 : Nat)) ∧ Prod.snd (Go.Proofs.Tryz.Sx.dcF g len i) = Prod.snd (Go.Proofs.Tryz.Sx.dcF g len i) ∧ Prod.fst
(Go.Proofs.Tryz.Sx.dcF g len i) = Prod.fst (Go.Proofs.Tryz.Sx.dcF g len i) ∧ (True ∧ (0 : Nat) = (0 : Nat)) ∧ (True ∧ (0 : Nat) = (0 : Nat)) ∧ (True ∧ (0 : Nat) = (0 : Nat)) ∧ Go.Proofs.Tryz.Sx.cwF g len i = Go.Proofs.Tryz.Sx.cwF g len i ∧ (↑i : Int)
= (↑i : Int) ∧ True) ∧ True ∧ ((2 : Nat) * len ≤ (2 : Nat) * len ∧ ∀ (i : Nat), i < (2 : Nat) * len → g i = g i) ∧ True ∧ ((102 : Nat) = (102 : Nat) ∧ (0 : Nat) = (0 : Nat) ∧ Go.Proofs.Tryz.Sx.rlo g (0 : Nat) (i + (1 : Nat)) = Go.Proofs.Tryz.Sx.rlo g
(0 : Nat) (i + (1 : Nat)) ∧ Go.Proofs.Tryz.Sx.rlo g (1 : Nat) (i + (1 : Nat)) = Go.Proofs.Tryz.Sx.rlo g (1 : Nat) (i + (1 : Nat)) ∧ Go.Proofs.Tryz.Sx.rhi g (0 : Nat) (i + (1 : Nat)) = Go.Proofs.Tryz.Sx.rhi g (0 : Nat) (i + (1 : Nat)) ∧
Go.Proofs.Tryz.Sx.rhi g (1 : Nat) (i + (1 : Nat)) = Go.Proofs.Tryz.Sx.rhi g (1 : Nat) (i + (1 : Nat)) ∧ True) ∧ True ∧ ((100 : Nat) = (100 : Nat) ∧ (0 : Nat) = (0 : Nat) ∧ Go.Proofs.Tryz.Sx.la g (0 : Nat) (i + (1 : Nat)) = Go.Proofs.Tryz.Sx.la g (0 :
Nat) (i + (1 : Nat)) ∧ Go.Proofs.Tryz.Sx.la g (1 : Nat) (i + (1 : Nat)) = Go.Proofs.Tryz.Sx.la g (1 : Nat) (i + (1 : Nat)) ∧ True) ∧ True ∧ ((100 : Nat) = (100 : Nat) ∧ (0 : Nat) = (0 : Nat) ∧ g ((0 : Nat) + Int.toNat (Go.IntKind.wrap .i64 ((↑i :
Int) + (1 : Int))) * (2 : Nat)) = Go.Proofs.Tryz.Sx.lb g len (0 : Nat) (i + (1 : Nat)) ∧ g ((0 : Nat) + Int.toNat (Go.IntKind.wrap .i64 ((↑i : Int) + (1 : Int))) * (2 : Nat) + (1 : Nat)) = Go.Proofs.Tryz.Sx.lb g len (1 : Nat) (i + (1 : Nat)) ∧ True)
∧ True ∧ ((100 : Nat) = (100 : Nat) ∧ (0 : Nat) = (0 : Nat) ∧ g ((0 : Nat) + Int.toNat (Go.IntKind.wrap .i64 ((↑i : Int) + (2 : Int))) * (2 : Nat)) = Go.Proofs.Tryz.Sx.lc g len (0 : Nat) (i + (1 : Nat)) ∧ g ((0 : Nat) + Int.toNat (Go.IntKind.wrap
.i64 ((↑i : Int) + (2 : Int))) * (2 : Nat) + (1 : Nat)) = Go.Proofs.Tryz.Sx.lc g len (1 : Nat) (i + (1 : Nat)) ∧ True) ∧ True))) ∧ ∀ (j : Nat), i < len ∧ Go.Proofs.Tryz.Sx.ppBig len cl = true → (Go.Sx.fok BinOp.sub .f64 (Go.Proofs.Tryz.Sx.lb g len (0
: Nat) (i + (1 : Nat))) (Go.Proofs.Tryz.Sx.la g (0 : Nat) (i + (1 : Nat))) ∧ Go.Sx.fok BinOp.add .f64 (Go.Proofs.Tryz.Sx.lb g len (1 : Nat) (i + (1 : Nat))) (Go.Proofs.Tryz.Sx.la g (1 : Nat) (i + (1 : Nat))) ∧ Go.Sx.fok BinOp.mul .f64 (Go.Sx.fop
BinOp.sub .f64 (Go.Proofs.Tryz.Sx.lb g len (0 : Nat) (i + (1 : Nat))) (Go.Proofs.Tryz.Sx.la g (0 : Nat) (i + (1 : Nat)))) (Go.Sx.fop BinOp.add .f64 (Go.Proofs.Tryz.Sx.lb g len (1 : Nat) (i + (1 : Nat))) (Go.Proofs.Tryz.Sx.la g (1 : Nat) (i + (1 :
Nat)))) ∧ Go.Sx.fok BinOp.add .f64 (Go.Proofs.Tryz.Sx.cwF g len i) (Go.Sx.fop BinOp.mul .f64 (Go.Sx.fop BinOp.sub .f64 (Go.Proofs.Tryz.Sx.lb g len (0 : Nat) (i + (1 : Nat))) (Go.Proofs.Tryz.Sx.la g (0 : Nat) (i + (1 : Nat)))) (Go.Sx.fop BinOp.add
.f64 (Go.Proofs.Tryz.Sx.lb g len (1 : Nat) (i + (1 : Nat))) (Go.Proofs.Tryz.Sx.la g (1 : Nat) (i + (1 : Nat))))) ∧ ∃ (j : Nat), (i < len ∧ Go.Proofs.Tryz.Sx.ppBig len cl = true) ∧ ((True ∧ len = len) ∧ cl = cl ∧ (True ∧ (0 : Nat) = (0 : Nat)) ∧
Prod.snd (Go.Proofs.Tryz.Sx.dcF g len i) = Prod.snd (Go.Proofs.Tryz.Sx.dcF g len i) ∧ Prod.fst (Go.Proofs.Tryz.Sx.dcF g len i) = Prod.fst (Go.Proofs.Tryz.Sx.dcF g len i) ∧ (True ∧ (0 : Nat) = (0 : Nat)) ∧ (True ∧ (0 : Nat) = (0 : Nat)) ∧ (True ∧ (0 :
Nat) = (0 : Nat)) ∧ Go.Sx.fop BinOp.add .f64 (Go.Proofs.Tryz.Sx.cwF g len i) (Go.Sx.fop BinOp.mul .f64 (Go.Sx.fop BinOp.sub .f64 (Go.Proofs.Tryz.Sx.lb g len (0 : Nat) (i + (1 : Nat))) (Go.Proofs.Tryz.Sx.la g (0 : Nat) (i + (1 : Nat)))) (Go.Sx.fop
BinOp.add .f64 (Go.Proofs.Tryz.Sx.lb g len (1 : Nat) (i + (1 : Nat))) (Go.Proofs.Tryz.Sx.la g (1 : Nat) (i + (1 : Nat))))) = Go.Proofs.Tryz.Sx.cwF g len (i + (1 : Nat)) ∧ (↑i : Int) = (↑i : Int) ∧ True) ∧ True ∧ ((2 : Nat) * len ≤ (2 : Nat) * len ∧ ∀
(i : Nat), i < (2 : Nat) * len → g i = g i) ∧ True ∧ ((102 : Nat) = (102 : Nat) ∧ (0 : Nat) = (0 : Nat) ∧ Go.Proofs.Tryz.Sx.rlo g (0 : Nat) (i + (1 : Nat)) = Go.Proofs.Tryz.Sx.rlo g (0 : Nat) (i + (1 : Nat)) ∧ Go.Proofs.Tryz.Sx.rlo g (1 : Nat) (i +
(1 : Nat)) = Go.Proofs.Tryz.Sx.rlo g (1 : Nat) (i + (1 : Nat)) ∧ Go.Proofs.Tryz.Sx.rhi g (0 : Nat) (i + (1 : Nat)) = Go.Proofs.Tryz.Sx.rhi g (0 : Nat) (i + (1 : Nat)) ∧ Go.Proofs.Tryz.Sx.rhi g (1 : Nat) (i + (1 : Nat)) = Go.Proofs.Tryz.Sx.rhi g (1 :
Nat) (i + (1 : Nat)) ∧ True) ∧ True ∧ ((100 : Nat) = (100 : Nat) ∧ (0 : Nat) = (0 : Nat) ∧ Go.Proofs.Tryz.Sx.la g (0 : Nat) (i + (1 : Nat)) = Go.Proofs.Tryz.Sx.la g (0 : Nat) (i + (1 : Nat)) ∧ Go.Proofs.Tryz.Sx.la g (1 : Nat) (i + (1 : Nat)) =
Go.Proofs.Tryz.Sx.la g (1 : Nat) (i + (1 : Nat)) ∧ True) ∧ True ∧ ((100 : Nat) = (100 : Nat) ∧ (0 : Nat) = (0 : Nat) ∧ Go.Proofs.Tryz.Sx.lb g len (0 : Nat) (i + (1 : Nat)) = Go.Proofs.Tryz.Sx.lb g len (0 : Nat) (i + (1 : Nat)) ∧ Go.Proofs.Tryz.Sx.lb
g len (1 : Nat) (i + (1 : Nat)) = Go.Proofs.Tryz.Sx.lb g len (1 : Nat) (i + (1 : Nat)) ∧ True) ∧ True ∧ ((100 : Nat) = (100 : Nat) ∧ (0 : Nat) = (0 : Nat) ∧ Go.Proofs.Tryz.Sx.lc g len (0 : Nat) (i + (1 : Nat)) = Go.Proofs.Tryz.Sx.lc g len (0 : Nat)
(i + (1 : Nat)) ∧ Go.Proofs.Tryz.Sx.lc g len (1 : Nat) (i + (1 : Nat)) = Go.Proofs.Tryz.Sx.lc g len (1 : Nat) (i + (1 : Nat)) ∧ True) ∧ True) ∧ ∀ (j : Nat), i < len ∧ Go.Proofs.Tryz.Sx.ppBig len cl = true → (Prod.snd (Go.Proofs.Tryz.Sx.dcF g len i) =
true → ∃ (i' : Nat), (i' ≤ len ∧ Go.Proofs.Tryz.Sx.ppBig len cl = true) ∧ len - i' < len - i ∧ ((True ∧ len = len) ∧ cl = cl ∧ (True ∧ (0 : Nat) = (0 : Nat)) ∧ Prod.snd (Go.Proofs.Tryz.Sx.dcF g len i) = Prod.snd (Go.Proofs.Tryz.Sx.dcF g len i') ∧
Prod.fst (Go.Proofs.Tryz.Sx.dcF g len i) = Prod.fst (Go.Proofs.Tryz.Sx.dcF g len i') ∧ (True ∧ (0 : Nat) = (0 : Nat)) ∧ (True ∧ (0 : Nat) = (0 : Nat)) ∧ (True ∧ (0 : Nat) = (0 : Nat)) ∧ Go.Proofs.Tryz.Sx.cwF g len (i + (1 : Nat)) =
Go.Proofs.Tryz.Sx.cwF g len i' ∧ Go.IntKind.wrap .i64 ((↑i : Int) + (1 : Int)) = (↑i' : Int) ∧ True) ∧ True ∧ ((2 : Nat) * len ≤ (2 : Nat) * len ∧ ∀ (i : Nat), i < (2 : Nat) * len → g i = g i) ∧ True ∧ ((102 : Nat) = (102 : Nat) ∧ (0 : Nat) = (0 :
Nat) ∧ Go.Proofs.Tryz.Sx.rlo g (0 : Nat) (i + (1 : Nat)) = Go.Proofs.Tryz.Sx.rlo g (0 : Nat) i' ∧ Go.Proofs.Tryz.Sx.rlo g (1 : Nat) (i + (1 : Nat)) = Go.Proofs.Tryz.Sx.rlo g (1 : Nat) i' ∧ Go.Proofs.Tryz.Sx.rhi g (0 : Nat) (i + (1 : Nat)) =
Go.Proofs.Tryz.Sx.rhi g (0 : Nat) i' ∧ Go.Proofs.Tryz.Sx.rhi g (1 : Nat) (i + (1 : Nat)) = Go.Proofs.Tryz.Sx.rhi g (1 : Nat) i' ∧ True) ∧ True ∧ ((100 : Nat) = (100 : Nat) ∧ (0 : Nat) = (0 : Nat) ∧ Go.Proofs.Tryz.Sx.la g (0 : Nat) (i + (1 : Nat)) =
Go.Proofs.Tryz.Sx.la g (0 : Nat) i' ∧ Go.Proofs.Tryz.Sx.la g (1 : Nat) (i + (1 : Nat)) = Go.Proofs.Tryz.Sx.la g (1 : Nat) i' ∧ True) ∧ True ∧ ((100 : Nat) = (100 : Nat) ∧ (0 : Nat) = (0 : Nat) ∧ Go.Proofs.Tryz.Sx.lb g len (0 : Nat) (i + (1 : Nat)) =
Go.Proofs.Tryz.Sx.lb g len (0 : Nat) i' ∧ Go.Proofs.Tryz.Sx.lb g len (1 : Nat) (i + (1 : Nat)) = Go.Proofs.Tryz.Sx.lb g len (1 : Nat) i' ∧ True) ∧ True ∧ ((100 : Nat) = (100 : Nat) ∧ (0 : Nat) = (0 : Nat) ∧ Go.Proofs.Tryz.Sx.lc g len (0 : Nat) (i +
(1 : Nat)) = Go.Proofs.Tryz.Sx.lc g len (0 : Nat) i' ∧ Go.Proofs.Tryz.Sx.lc g len (1 : Nat) (i + (1 : Nat)) = Go.Proofs.Tryz.Sx.lc g len (1 : Nat) i' ∧ True) ∧ True) ∧ (Prod.snd (Go.Proofs.Tryz.Sx.dcF g len i) = false → Go.Sx.fok BinOp.sub .f64
(Go.Proofs.Tryz.Sx.lb g len (0 : Nat) (i + (1 : Nat))) (Go.Proofs.Tryz.Sx.la g (0 : Nat) (i + (1 : Nat))) ∧ Go.Sx.fok BinOp.sub .f64 (Go.Proofs.Tryz.Sx.lc g len (1 : Nat) (i + (1 : Nat))) (Go.Proofs.Tryz.Sx.lb g len (1 : Nat) (i + (1 : Nat))) ∧
Go.Sx.fok BinOp.mul .f64 (Go.Sx.fop BinOp.sub .f64 (Go.Proofs.Tryz.Sx.lb g len (0 : Nat) (i + (1 : Nat))) (Go.Proofs.Tryz.Sx.la g (0 : Nat) (i + (1 : Nat)))) (Go.Sx.fop BinOp.sub .f64 (Go.Proofs.Tryz.Sx.lc g len (1 : Nat) (i + (1 : Nat)))
(Go.Proofs.Tryz.Sx.lb g len (1 : Nat) (i + (1 : Nat)))) ∧ Go.Sx.fok BinOp.sub .f64 (Go.Proofs.Tryz.Sx.lb g len (1 : Nat) (i + (1 : Nat))) (Go.Proofs.Tryz.Sx.la g (1 : Nat) (i + (1 : Nat))) ∧ Go.Sx.fok BinOp.sub .f64 (Go.Proofs.Tryz.Sx.lc g len (0 :
Nat) (i + (1 : Nat))) (Go.Proofs.Tryz.Sx.lb g len (0 : Nat) (i + (1 : Nat))) ∧ Go.Sx.fok BinOp.mul .f64 (Go.Sx.fop BinOp.sub .f64 (Go.Proofs.Tryz.Sx.lb g len (1 : Nat) (i + (1 : Nat))) (Go.Proofs.Tryz.Sx.la g (1 : Nat) (i + (1 : Nat)))) (Go.Sx.fop
BinOp.sub .f64 (Go.Proofs.Tryz.Sx.lc g len (0 : Nat) (i + (1 : Nat))) (Go.Proofs.Tryz.Sx.lb g len (0 : Nat) (i + (1 : Nat)))) ∧ Go.Sx.fok BinOp.sub .f64 (Go.Sx.fop BinOp.mul .f64 (Go.Sx.fop BinOp.sub .f64 (Go.Proofs.Tryz.Sx.lb g len (0 : Nat) (i + (1
: Nat))) (Go.Proofs.Tryz.Sx.la g (0 : Nat) (i + (1 : Nat)))) (Go.Sx.fop BinOp.sub .f64 (Go.Proofs.Tryz.Sx.lc g len (1 : Nat) (i + (1 : Nat))) (Go.Proofs.Tryz.Sx.lb g len (1 : Nat) (i + (1 : Nat))))) (Go.Sx.fop BinOp.mul .f64 (Go.Sx.fop BinOp.sub .f64
(Go.Proofs.Tryz.Sx.lb g len (1 : Nat) (i + (1 : Nat))) (Go.Proofs.Tryz.Sx.la g (1 : Nat) (i + (1 : Nat)))) (Go.Sx.fop BinOp.sub .f64 (Go.Proofs.Tryz.Sx.lc g len (0 : Nat) (i + (1 : Nat))) (Go.Proofs.Tryz.Sx.lb g len (0 : Nat) (i + (1 : Nat))))) ∧
((Prod.fst (Go.Proofs.Tryz.Sx.dcF g len i) == (0 : Int)) = true → (Go.Sx.fLt .f64 (Go.Sx.fop BinOp.sub .f64 (Go.Sx.fop BinOp.mul .f64 (Go.Sx.fop BinOp.sub .f64 (Go.Proofs.Tryz.Sx.lb g len (0 : Nat) (i + (1 : Nat))) (Go.Proofs.Tryz.Sx.la g (0 : Nat)
(i + (1 : Nat)))) (Go.Sx.fop BinOp.sub .f64 (Go.Proofs.Tryz.Sx.lc g len (1 : Nat) (i + (1 : Nat))) (Go.Proofs.Tryz.Sx.lb g len (1 : Nat) (i + (1 : Nat))))) (Go.Sx.fop BinOp.mul .f64 (Go.Sx.fop BinOp.sub .f64 (Go.Proofs.Tryz.Sx.lb g len (1 : Nat) (i +
(1 : Nat))) (Go.Proofs.Tryz.Sx.la g (1 : Nat) (i + (1 : Nat)))) (Go.Sx.fop BinOp.sub .f64 (Go.Proofs.Tryz.Sx.lc g len (0 : Nat) (i + (1 : Nat))) (Go.Proofs.Tryz.Sx.lb g len (0 : Nat) (i + (1 : Nat)))))) (0 : Nat) = true → ∃ (i' : Nat), (i' ≤ len ∧
Go.Proofs.Tryz.Sx.ppBig len cl = true) ∧ len - i' < len - i ∧ ((True ∧ len = len) ∧ cl = cl ∧ (True ∧ (0 : Nat) = (0 : Nat)) ∧ Prod.snd (Go.Proofs.Tryz.Sx.dcF g len i) = Prod.snd (Go.Proofs.Tryz.Sx.dcF g len i') ∧ (-1 : Int) = Prod.fst
(Go.Proofs.Tryz.Sx.dcF g len i') ∧ (True ∧ (0 : Nat) = (0 : Nat)) ∧ (True ∧ (0 : Nat) = (0 : Nat)) ∧ (True ∧ (0 : Nat) = (0 : Nat)) ∧ Go.Proofs.Tryz.Sx.cwF g len (i + (1 : Nat)) = Go.Proofs.Tryz.Sx.cwF g len i' ∧ Go.IntKind.wrap .i64 ((↑i : Int) + (1
: Int)) = (↑i' : Int) ∧ True) ∧ True ∧ ((2 : Nat) * len ≤ (2 : Nat) * len ∧ ∀ (i : Nat), i < (2 : Nat) * len → g i = g i) ∧ True ∧ ((102 : Nat) = (102 : Nat) ∧ (0 : Nat) = (0 : Nat) ∧ Go.Proofs.Tryz.Sx.rlo g (0 : Nat) (i + (1 : Nat)) =
Go.Proofs.Tryz.Sx.rlo g (0 : Nat) i' ∧ Go.Proofs.Tryz.Sx.rlo g (1 : Nat) (i + (1 : Nat)) = Go.Proofs.Tryz.Sx.rlo g (1 : Nat) i' ∧ Go.Proofs.Tryz.Sx.rhi g (0 : Nat) (i + (1 : Nat)) = Go.Proofs.Tryz.Sx.rhi g (0 : Nat) i' ∧ Go.Proofs.Tryz.Sx.rhi g (1 :
Nat) (i + (1 : Nat)) = Go.Proofs.Tryz.Sx.rhi g (1 : Nat) i' ∧ True) ∧ True ∧ ((100 : Nat) = (100 : Nat) ∧ (0 : Nat) = (0 : Nat) ∧ Go.Proofs.Tryz.Sx.la g (0 : Nat) (i + (1 : Nat)) = Go.Proofs.Tryz.Sx.la g (0 : Nat) i' ∧ Go.Proofs.Tryz.Sx.la g (1 :
Nat) (i + (1 : Nat)) = Go.Proofs.Tryz.Sx.la g (1 : Nat) i' ∧ True) ∧ True ∧ ((100 : Nat) = (100 : Nat) ∧ (0 : Nat) = (0 : Nat) ∧ Go.Proofs.Tryz.Sx.lb g len (0 : Nat) (i + (1 : Nat)) = Go.Proofs.Tryz.Sx.lb g len (0 : Nat) i' ∧ Go.Proofs.Tryz.Sx.lb g
len (1 : Nat) (i + (1 : Nat)) = Go.Proofs.Tryz.Sx.lb g len (1 : Nat) i' ∧ True) ∧ True ∧ ((100 : Nat) = (100 : Nat) ∧ (0 : Nat) = (0 : Nat) ∧ Go.Proofs.Tryz.Sx.lc g len (0 : Nat) (i + (1 : Nat)) = Go.Proofs.Tryz.Sx.lc g len (0 : Nat) i' ∧
Go.Proofs.Tryz.Sx.lc g len (1 : Nat) (i + (1 : Nat)) = Go.Proofs.Tryz.Sx.lc g len (1 : Nat) i' ∧ True) ∧ True) ∧ (Go.Sx.fLt .f64 (Go.Sx.fop BinOp.sub .f64 (Go.Sx.fop BinOp.mul .f64 (Go.Sx.fop BinOp.sub .f64 (Go.Proofs.Tryz.Sx.lb g len (0 : Nat) (i +
(1 : Nat))) (Go.Proofs.Tryz.Sx.la g (0 : Nat) (i + (1 : Nat)))) (Go.Sx.fop BinOp.sub .f64 (Go.Proofs.Tryz.Sx.lc g len (1 : Nat) (i + (1 : Nat))) (Go.Proofs.Tryz.Sx.lb g len (1 : Nat) (i + (1 : Nat))))) (Go.Sx.fop BinOp.mul .f64 (Go.Sx.fop BinOp.sub
.f64 (Go.Proofs.Tryz.Sx.lb g len (1 : Nat) (i + (1 : Nat))) (Go.Proofs.Tryz.Sx.la g (1 : Nat) (i + (1 : Nat)))) (Go.Sx.fop BinOp.sub .f64 (Go.Proofs.Tryz.Sx.lc g len (0 : Nat) (i + (1 : Nat))) (Go.Proofs.Tryz.Sx.lb g len (0 : Nat) (i + (1 : Nat))))))
(0 : Nat) = false → (Go.Sx.fGt .f64 (Go.Sx.fop BinOp.sub .f64 (Go.Sx.fop BinOp.mul .f64 (Go.Sx.fop BinOp.sub .f64 (Go.Proofs.Tryz.Sx.lb g len (0 : Nat) (i + (1 : Nat))) (Go.Proofs.Tryz.Sx.la g (0 : Nat) (i + (1 : Nat)))) (Go.Sx.fop BinOp.sub .f64
(Go.Proofs.Tryz.Sx.lc g len (1 : Nat) (i + (1 : Nat))) (Go.Proofs.Tryz.Sx.lb g len (1 : Nat) (i + (1 : Nat))))) (Go.Sx.fop BinOp.mul .f64 (Go.Sx.fop BinOp.sub .f64 (Go.Proofs.Tryz.Sx.lb g len (1 : Nat) (i + (1 : Nat))) (Go.Proofs.Tryz.Sx.la g (1 :
Nat) (i + (1 : Nat)))) (Go.Sx.fop BinOp.sub .f64 (Go.Proofs.Tryz.Sx.lc g len (0 : Nat) (i + (1 : Nat))) (Go.Proofs.Tryz.Sx.lb g len (0 : Nat) (i + (1 : Nat)))))) (0 : Nat) = true → ∃ (i' : Nat), (i' ≤ len ∧ Go.Proofs.Tryz.Sx.ppBig len cl = true) ∧
len - i' < len - i ∧ ((True ∧ len = len) ∧ cl = cl ∧ (True ∧ (0 : Nat) = (0 : Nat)) ∧ Prod.snd (Go.Proofs.Tryz.Sx.dcF g len i) = Prod.snd (Go.Proofs.Tryz.Sx.dcF g len i') ∧ (1 : Int) = Prod.fst (Go.Proofs.Tryz.Sx.dcF g len i') ∧ (True ∧ (0 : Nat) =
(0 : Nat)) ∧ (True ∧ (0 : Nat) = (0 : Nat)) ∧ (True ∧ (0 : Nat) = (0 : Nat)) ∧ Go.Proofs.Tryz.Sx.cwF g len (i + (1 : Nat)) = Go.Proofs.Tryz.Sx.cwF g len i' ∧ Go.IntKind.wrap .i64 ((↑i : Int) + (1 : Int)) = (↑i' : Int) ∧ True) ∧ True ∧ ((2 : Nat) *
len ≤ (2 : Nat) * len ∧ ∀ (i : Nat), i < (2 : Nat) * len → g i = g i) ∧ True ∧ ((102 : Nat) = (102 : Nat) ∧ (0 : Nat) = (0 : Nat) ∧ Go.Proofs.Tryz.Sx.rlo g (0 : Nat) (i + (1 : Nat)) = Go.Proofs.Tryz.Sx.rlo g (0 : Nat) i' ∧ Go.Proofs.Tryz.Sx.rlo g (1
: Nat) (i + (1 : Nat)) = Go.Proofs.Tryz.Sx.rlo g (1 : Nat) i' ∧ Go.Proofs.Tryz.Sx.rhi g (0 : Nat) (i + (1 : Nat)) = Go.Proofs.Tryz.Sx.rhi g (0 : Nat) i' ∧ Go.Proofs.Tryz.Sx.rhi g (1 : Nat) (i + (1 : Nat)) = Go.Proofs.Tryz.Sx.rhi g (1 : Nat) i' ∧
True) ∧ True ∧ ((100 : Nat) = (100 : Nat) ∧ (0 : Nat) = (0 : Nat) ∧ Go.Proofs.Tryz.Sx.la g (0 : Nat) (i + (1 : Nat)) = Go.Proofs.Tryz.Sx.la g (0 : Nat) i' ∧ Go.Proofs.Tryz.Sx.la g (1 : Nat) (i + (1 : Nat)) = Go.Proofs.Tryz.Sx.la g (1 : Nat) i' ∧
True) ∧ True ∧ ((100 : Nat) = (100 : Nat) ∧ (0 : Nat) = (0 : Nat) ∧ Go.Proofs.Tryz.Sx.lb g len (0 : Nat) (i + (1 : Nat)) = Go.Proofs.Tryz.Sx.lb g len (0 : Nat) i' ∧ Go.Proofs.Tryz.Sx.lb g len (1 : Nat) (i + (1 : Nat)) = Go.Proofs.Tryz.Sx.lb g len (1
: Nat) i' ∧ True) ∧ True ∧ ((100 : Nat) = (100 : Nat) ∧ (0 : Nat) = (0 : Nat) ∧ Go.Proofs.Tryz.Sx.lc g len (0 : Nat) (i + (1 : Nat)) = Go.Proofs.Tryz.Sx.lc g len (0 : Nat) i' ∧ Go.Proofs.Tryz.Sx.lc g len (1 : Nat) (i + (1 : Nat)) =
Go.Proofs.Tryz.Sx.lc g len (1 : Nat) i' ∧ True) ∧ True) ∧ (Go.Sx.fGt .f64 (Go.Sx.fop BinOp.sub .f64 (Go.Sx.fop BinOp.mul .f64 (Go.Sx.fop BinOp.sub .f64 (Go.Proofs.Tryz.Sx.lb g len (0 : Nat) (i + (1 : Nat))) (Go.Proofs.Tryz.Sx.la g (0 : Nat) (i + (1 :
Nat)))) (Go.Sx.fop BinOp.sub .f64 (Go.Proofs.Tryz.Sx.lc g len (1 : Nat) (i + (1 : Nat))) (Go.Proofs.Tryz.Sx.lb g len (1 : Nat) (i + (1 : Nat))))) (Go.Sx.fop BinOp.mul .f64 (Go.Sx.fop BinOp.sub .f64 (Go.Proofs.Tryz.Sx.lb g len (1 : Nat) (i + (1 :
Nat))) (Go.Proofs.Tryz.Sx.la g (1 : Nat) (i + (1 : Nat)))) (Go.Sx.fop BinOp.sub .f64 (Go.Proofs.Tryz.Sx.lc g len (0 : Nat) (i + (1 : Nat))) (Go.Proofs.Tryz.Sx.lb g len (0 : Nat) (i + (1 : Nat)))))) (0 : Nat) = false → ∃ (i' : Nat), (i' ≤ len ∧
Go.Proofs.Tryz.Sx.ppBig len cl = true) ∧ len - i' < len - i ∧ ((True ∧ len = len) ∧ cl = cl ∧ (True ∧ (0 : Nat) = (0 : Nat)) ∧ Prod.snd (Go.Proofs.Tryz.Sx.dcF g len i) = Prod.snd (Go.Proofs.Tryz.Sx.dcF g len i') ∧ Prod.fst (Go.Proofs.Tryz.Sx.dcF g
len i) = Prod.fst (Go.Proofs.Tryz.Sx.dcF g len i') ∧ (True ∧ (0 : Nat) = (0 : Nat)) ∧ (True ∧ (0 : Nat) = (0 : Nat)) ∧ (True ∧ (0 : Nat) = (0 : Nat)) ∧ Go.Proofs.Tryz.Sx.cwF g len (i + (1 : Nat)) = Go.Proofs.Tryz.Sx.cwF g len i' ∧ Go.IntKind.wrap
.i64 ((↑i : Int) + (1 : Int)) = (↑i' : Int) ∧ True) ∧ True ∧ ((2 : Nat) * len ≤ (2 : Nat) * len ∧ ∀ (i : Nat), i < (2 : Nat) * len → g i = g i) ∧ True ∧ ((102 : Nat) = (102 : Nat) ∧ (0 : Nat) = (0 : Nat) ∧ Go.Proofs.Tryz.Sx.rlo g (0 : Nat) (i + (1 :
Nat)) = Go.Proofs.Tryz.Sx.rlo g (0 : Nat) i' ∧ Go.Proofs.Tryz.Sx.rlo g (1 : Nat) (i + (1 : Nat)) = Go.Proofs.Tryz.Sx.rlo g (1 : Nat) i' ∧ Go.Proofs.Tryz.Sx.rhi g (0 : Nat) (i + (1 : Nat)) = Go.Proofs.Tryz.Sx.rhi g (0 : Nat) i' ∧ Go.Proofs.Tryz.Sx.rhi
g (1 : Nat) (i + (1 : Nat)) = Go.Proofs.Tryz.Sx.rhi g (1 : Nat) i' ∧ True) ∧ True ∧ ((100 : Nat) = (100 : Nat) ∧ (0 : Nat) = (0 : Nat) ∧ Go.Proofs.Tryz.Sx.la g (0 : Nat) (i + (1 : Nat)) = Go.Proofs.Tryz.Sx.la g (0 : Nat) i' ∧ Go.Proofs.Tryz.Sx.la g
(1 : Nat) (i + (1 : Nat)) = Go.Proofs.Tryz.Sx.la g (1 : Nat) i' ∧ True) ∧ True ∧ ((100 : Nat) = (100 : Nat) ∧ (0 : Nat) = (0 : Nat) ∧ Go.Proofs.Tryz.Sx.lb g len (0 : Nat) (i + (1 : Nat)) = Go.Proofs.Tryz.Sx.lb g len (0 : Nat) i' ∧
Go.Proofs.Tryz.Sx.lb g len (1 : Nat) (i + (1 : Nat)) = Go.Proofs.Tryz.Sx.lb g len (1 : Nat) i' ∧ True) ∧ True ∧ ((100 : Nat) = (100 : Nat) ∧ (0 : Nat) = (0 : Nat) ∧ Go.Proofs.Tryz.Sx.lc g len (0 : Nat) (i + (1 : Nat)) = Go.Proofs.Tryz.Sx.lc g len (0
: Nat) i' ∧ Go.Proofs.Tryz.Sx.lc g len (1 : Nat) (i + (1 : Nat)) = Go.Proofs.Tryz.Sx.lc g len (1 : Nat) i' ∧ True) ∧ True))) ∧ ((Prod.fst (Go.Proofs.Tryz.Sx.dcF g len i) == (0 : Int)) = false → (Go.Sx.fLt .f64 (Go.Sx.fop BinOp.sub .f64 (Go.Sx.fop
BinOp.mul .f64 (Go.Sx.fop BinOp.sub .f64 (Go.Proofs.Tryz.Sx.lb g len (0 : Nat) (i + (1 : Nat))) (Go.Proofs.Tryz.Sx.la g (0 : Nat) (i + (1 : Nat)))) (Go.Sx.fop BinOp.sub .f64 (Go.Proofs.Tryz.Sx.lc g len (1 : Nat) (i + (1 : Nat))) (Go.Proofs.Tryz.Sx.lb
g len (1 : Nat) (i + (1 : Nat))))) (Go.Sx.fop BinOp.mul .f64 (Go.Sx.fop BinOp.sub .f64 (Go.Proofs.Tryz.Sx.lb g len (1 : Nat) (i + (1 : Nat))) (Go.Proofs.Tryz.Sx.la g (1 : Nat) (i + (1 : Nat)))) (Go.Sx.fop BinOp.sub .f64 (Go.Proofs.Tryz.Sx.lc g len (0
: Nat) (i + (1 : Nat))) (Go.Proofs.Tryz.Sx.lb g len (0 : Nat) (i + (1 : Nat)))))) (0 : Nat) = true → ((Prod.fst (Go.Proofs.Tryz.Sx.dcF g len i) == (1 : Int)) = true → ∃ (i' : Nat), (i' ≤ len ∧ Go.Proofs.Tryz.Sx.ppBig len cl = true) ∧ len - i' < len -
i ∧ ((True ∧ len = len) ∧ cl = cl ∧ (True ∧ (0 : Nat) = (0 : Nat)) ∧ Prod.snd (Go.Proofs.Tryz.Sx.dcF g len i') = true ∧ Prod.fst (Go.Proofs.Tryz.Sx.dcF g len i) = Prod.fst (Go.Proofs.Tryz.Sx.dcF g len i') ∧ (True ∧ (0 : Nat) = (0 : Nat)) ∧ (True ∧ (0
: Nat) = (0 : Nat)) ∧ (True ∧ (0 : Nat) = (0 : Nat)) ∧ Go.Proofs.Tryz.Sx.cwF g len (i + (1 : Nat)) = Go.Proofs.Tryz.Sx.cwF g len i' ∧ Go.IntKind.wrap .i64 ((↑i : Int) + (1 : Int)) = (↑i' : Int) ∧ True) ∧ True ∧ ((2 : Nat) * len ≤ (2 : Nat) * len ∧ ∀
(i : Nat), i < (2 : Nat) * len → g i = g i) ∧ True ∧ ((102 : Nat) = (102 : Nat) ∧ (0 : Nat) = (0 : Nat) ∧ Go.Proofs.Tryz.Sx.rlo g (0 : Nat) (i + (1 : Nat)) = Go.Proofs.Tryz.Sx.rlo g (0 : Nat) i' ∧ Go.Proofs.Tryz.Sx.rlo g (1 : Nat) (i + (1 : Nat)) =
Go.Proofs.Tryz.Sx.rlo g (1 : Nat) i' ∧ Go.Proofs.Tryz.Sx.rhi g (0 : Nat) (i + (1 : Nat)) = Go.Proofs.Tryz.Sx.rhi g (0 : Nat) i' ∧ Go.Proofs.Tryz.Sx.rhi g (1 : Nat) (i + (1 : Nat)) = Go.Proofs.Tryz.Sx.rhi g (1 : Nat) i' ∧ True) ∧ True ∧ ((100 : Nat) =
(100 : Nat) ∧ (0 : Nat) = (0 : Nat) ∧ Go.Proofs.Tryz.Sx.la g (0 : Nat) (i + (1 : Nat)) = Go.Proofs.Tryz.Sx.la g (0 : Nat) i' ∧ Go.Proofs.Tryz.Sx.la g (1 : Nat) (i + (1 : Nat)) = Go.Proofs.Tryz.Sx.la g (1 : Nat) i' ∧ True) ∧ True ∧ ((100 : Nat) = (100
: Nat) ∧ (0 : Nat) = (0 : Nat) ∧ Go.Proofs.Tryz.Sx.lb g len (0 : Nat) (i + (1 : Nat)) = Go.Proofs.Tryz.Sx.lb g len (0 : Nat) i' ∧ Go.Proofs.Tryz.Sx.lb g len (1 : Nat) (i + (1 : Nat)) = Go.Proofs.Tryz.Sx.lb g len (1 : Nat) i' ∧ True) ∧ True ∧ ((100 :
Nat) = (100 : Nat) ∧ (0 : Nat) = (0 : Nat) ∧ Go.Proofs.Tryz.Sx.lc g len (0 : Nat) (i + (1 : Nat)) = Go.Proofs.Tryz.Sx.lc g len (0 : Nat) i' ∧ Go.Proofs.Tryz.Sx.lc g len (1 : Nat) (i + (1 : Nat)) = Go.Proofs.Tryz.Sx.lc g len (1 : Nat) i' ∧ True) ∧
True) ∧ ((Prod.fst (Go.Proofs.Tryz.Sx.dcF g len i) == (1 : Int)) = false → ∃ (i' : Nat), (i' ≤ len ∧ Go.Proofs.Tryz.Sx.ppBig len cl = true) ∧ len - i' < len - i ∧ ((True ∧ len = len) ∧ cl = cl ∧ (True ∧ (0 : Nat) = (0 : Nat)) ∧ Prod.snd
(Go.Proofs.Tryz.Sx.dcF g len i) = Prod.snd (Go.Proofs.Tryz.Sx.dcF g len i') ∧ Prod.fst (Go.Proofs.Tryz.Sx.dcF g len i) = Prod.fst (Go.Proofs.Tryz.Sx.dcF g len i') ∧ (True ∧ (0 : Nat) = (0 : Nat)) ∧ (True ∧ (0 : Nat) = (0 : Nat)) ∧ (True ∧ (0 : Nat) =
(0 : Nat)) ∧ Go.Proofs.Tryz.Sx.cwF g len (i + (1 : Nat)) = Go.Proofs.Tryz.Sx.cwF g len i' ∧ Go.IntKind.wrap .i64 ((↑i : Int) + (1 : Int)) = (↑i' : Int) ∧ True) ∧ True ∧ ((2 : Nat) * len ≤ (2 : Nat) * len ∧ ∀ (i : Nat), i < (2 : Nat) * len → g i = g
i) ∧ True ∧ ((102 : Nat) = (102 : Nat) ∧ (0 : Nat) = (0 : Nat) ∧ Go.Proofs.Tryz.Sx.rlo g (0 : Nat) (i + (1 : Nat)) = Go.Proofs.Tryz.Sx.rlo g (0 : Nat) i' ∧ Go.Proofs.Tryz.Sx.rlo g (1 : Nat) (i + (1 : Nat)) = Go.Proofs.Tryz.Sx.rlo g (1 : Nat) i' ∧
Go.Proofs.Tryz.Sx.rhi g (0 : Nat) (i + (1 : Nat)) = Go.Proofs.Tryz.Sx.rhi g (0 : Nat) i' ∧ Go.Proofs.Tryz.Sx.rhi g (1 : Nat) (i + (1 : Nat)) = Go.Proofs.Tryz.Sx.rhi g (1 : Nat) i' ∧ True) ∧ True ∧ ((100 : Nat) = (100 : Nat) ∧ (0 : Nat) = (0 : Nat) ∧
Go.Proofs.Tryz.Sx.la g (0 : Nat) (i + (1 : Nat)) = Go.Proofs.Tryz.Sx.la g (0 : Nat) i' ∧ Go.Proofs.Tryz.Sx.la g (1 : Nat) (i + (1 : Nat)) = Go.Proofs.Tryz.Sx.la g (1 : Nat) i' ∧ True) ∧ True ∧ ((100 : Nat) = (100 : Nat) ∧ (0 : Nat) = (0 : Nat) ∧
Go.Proofs.Tryz.Sx.lb g len (0 : Nat) (i + (1 : Nat)) = Go.Proofs.Tryz.Sx.lb g len (0 : Nat) i' ∧ Go.Proofs.Tryz.Sx.lb g len (1 : Nat) (i + (1 : Nat)) = Go.Proofs.Tryz.Sx.lb g len (1 : Nat) i' ∧ True) ∧ True ∧ ((100 : Nat) = (100 : Nat) ∧ (0 : Nat) =
(0 : Nat) ∧ Go.Proofs.Tryz.Sx.lc g len (0 : Nat) (i + (1 : Nat)) = Go.Proofs.Tryz.Sx.lc g len (0 : Nat) i' ∧ Go.Proofs.Tryz.Sx.lc g len (1 : Nat) (i + (1 : Nat)) = Go.Proofs.Tryz.Sx.lc g len (1 : Nat) i' ∧ True) ∧ True)) ∧ (Go.Sx.fLt .f64 (Go.Sx.fop
BinOp.sub .f64 (Go.Sx.fop BinOp.mul .f64 (Go.Sx.fop BinOp.sub .f64 (Go.Proofs.Tryz.Sx.lb g len (0 : Nat) (i + (1 : Nat))) (Go.Proofs.Tryz.Sx.la g (0 : Nat) (i + (1 : Nat)))) (Go.Sx.fop BinOp.sub .f64 (Go.Proofs.Tryz.Sx.lc g len (1 : Nat) (i + (1 :
Nat))) (Go.Proofs.Tryz.Sx.lb g len (1 : Nat) (i + (1 : Nat))))) (Go.Sx.fop BinOp.mul .f64 (Go.Sx.fop BinOp.sub .f64 (Go.Proofs.Tryz.Sx.lb g len (1 : Nat) (i + (1 : Nat))) (Go.Proofs.Tryz.Sx.la g (1 : Nat) (i + (1 : Nat)))) (Go.Sx.fop BinOp.sub .f64
(Go.Proofs.Tryz.Sx.lc g len (0 : Nat) (i + (1 : Nat))) (Go.Proofs.Tryz.Sx.lb g len (0 : Nat) (i + (1 : Nat)))))) (0 : Nat) = false → (Go.Sx.fGt .f64 (Go.Sx.fop BinOp.sub .f64 (Go.Sx.fop BinOp.mul .f64 (Go.Sx.fop BinOp.sub .f64 (Go.Proofs.Tryz.Sx.lb g
len (0 : Nat) (i + (1 : Nat))) (Go.Proofs.Tryz.Sx.la g (0 : Nat) (i + (1 : Nat)))) (Go.Sx.fop BinOp.sub .f64 (Go.Proofs.Tryz.Sx.lc g len (1 : Nat) (i + (1 : Nat))) (Go.Proofs.Tryz.Sx.lb g len (1 : Nat) (i + (1 : Nat))))) (Go.Sx.fop BinOp.mul .f64
(Go.Sx.fop BinOp.sub .f64 (Go.Proofs.Tryz.Sx.lb g len (1 : Nat) (i + (1 : Nat))) (Go.Proofs.Tryz.Sx.la g (1 : Nat) (i + (1 : Nat)))) (Go.Sx.fop BinOp.sub .f64 (Go.Proofs.Tryz.Sx.lc g len (0 : Nat) (i + (1 : Nat))) (Go.Proofs.Tryz.Sx.lb g len (0 :
Nat) (i + (1 : Nat)))))) (0 : Nat) = true → ((Prod.fst (Go.Proofs.Tryz.Sx.dcF g len i) == (-1 : Int)) = true → ∃ (i' : Nat), (i' ≤ len ∧ Go.Proofs.Tryz.Sx.ppBig len cl = true) ∧ len - i' < len - i ∧ ((True ∧ len = len) ∧ cl = cl ∧ (True ∧ (0 : Nat) =
(0 : Nat)) ∧ Prod.snd (Go.Proofs.Tryz.Sx.dcF g len i') = true ∧ Prod.fst (Go.Proofs.Tryz.Sx.dcF g len i) = Prod.fst (Go.Proofs.Tryz.Sx.dcF g len i') ∧ (True ∧ (0 : Nat) = (0 : Nat)) ∧ (True ∧ (0 : Nat) = (0 : Nat)) ∧ (True ∧ (0 : Nat) = (0 : Nat)) ∧
Go.Proofs.Tryz.Sx.cwF g len (i + (1 : Nat)) = Go.Proofs.Tryz.Sx.cwF g len i' ∧ Go.IntKind.wrap .i64 ((↑i : Int) + (1 : Int)) = (↑i' : Int) ∧ True) ∧ True ∧ ((2 : Nat) * len ≤ (2 : Nat) * len ∧ ∀ (i : Nat), i < (2 : Nat) * len → g i = g i) ∧ True ∧
((102 : Nat) = (102 : Nat) ∧ (0 : Nat) = (0 : Nat) ∧ Go.Proofs.Tryz.Sx.rlo g (0 : Nat) (i + (1 : Nat)) = Go.Proofs.Tryz.Sx.rlo g (0 : Nat) i' ∧ Go.Proofs.Tryz.Sx.rlo g (1 : Nat) (i + (1 : Nat)) = Go.Proofs.Tryz.Sx.rlo g (1 : Nat) i' ∧
Go.Proofs.Tryz.Sx.rhi g (0 : Nat) (i + (1 : Nat)) = Go.Proofs.Tryz.Sx.rhi g (0 : Nat) i' ∧ Go.Proofs.Tryz.Sx.rhi g (1 : Nat) (i + (1 : Nat)) = Go.Proofs.Tryz.Sx.rhi g (1 : Nat) i' ∧ True) ∧ True ∧ ((100 : Nat) = (100 : Nat) ∧ (0 : Nat) = (0 : Nat) ∧
Go.Proofs.Tryz.Sx.la g (0 : Nat) (i + (1 : Nat)) = Go.Proofs.Tryz.Sx.la g (0 : Nat) i' ∧ Go.Proofs.Tryz.Sx.la g (1 : Nat) (i + (1 : Nat)) = Go.Proofs.Tryz.Sx.la g (1 : Nat) i' ∧ True) ∧ True ∧ ((100 : Nat) = (100 : Nat) ∧ (0 : Nat) = (0 : Nat) ∧
Go.Proofs.Tryz.Sx.lb g len (0 : Nat) (i + (1 : Nat)) = Go.Proofs.Tryz.Sx.lb g len (0 : Nat) i' ∧ Go.Proofs.Tryz.Sx.lb g len (1 : Nat) (i + (1 : Nat)) = Go.Proofs.Tryz.Sx.lb g len (1 : Nat) i' ∧ True) ∧ True ∧ ((100 : Nat) = (100 : Nat) ∧ (0 : Nat) =
(0 : Nat) ∧ Go.Proofs.Tryz.Sx.lc g len (0 : Nat) (i + (1 : Nat)) = Go.Proofs.Tryz.Sx.lc g len (0 : Nat) i' ∧ Go.Proofs.Tryz.Sx.lc g len (1 : Nat) (i + (1 : Nat)) = Go.Proofs.Tryz.Sx.lc g len (1 : Nat) i' ∧ True) ∧ True) ∧ ((Prod.fst
(Go.Proofs.Tryz.Sx.dcF g len i) == (-1 : Int)) = false → ∃ (i' : Nat), (i' ≤ len ∧ Go.Proofs.Tryz.Sx.ppBig len cl = true) ∧ len - i' < len - i ∧ ((True ∧ len = len) ∧ cl = cl ∧ (True ∧ (0 : Nat) = (0 : Nat)) ∧ Prod.snd (Go.Proofs.Tryz.Sx.dcF g len i)
= Prod.snd (Go.Proofs.Tryz.Sx.dcF g len i') ∧ Prod.fst (Go.Proofs.Tryz.Sx.dcF g len i) = Prod.fst (Go.Proofs.Tryz.Sx.dcF g len i') ∧ (True ∧ (0 : Nat) = (0 : Nat)) ∧ (True ∧ (0 : Nat) = (0 : Nat)) ∧ (True ∧ (0 : Nat) = (0 : Nat)) ∧
Go.Proofs.Tryz.Sx.cwF g len (i + (1 : Nat)) = Go.Proofs.Tryz.Sx.cwF g len i' ∧ Go.IntKind.wrap .i64 ((↑i : Int) + (1 : Int)) = (↑i' : Int) ∧ True) ∧ True ∧ ((2 : Nat) * len ≤ (2 : Nat) * len ∧ ∀ (i : Nat), i < (2 : Nat) * len → g i = g i) ∧ True ∧
((102 : Nat) = (102 : Nat) ∧ (0 : Nat) = (0 : Nat) ∧ Go.Proofs.Tryz.Sx.rlo g (0 : Nat) (i + (1 : Nat)) = Go.Proofs.Tryz.Sx.rlo g (0 : Nat) i' ∧ Go.Proofs.Tryz.Sx.rlo g (1 : Nat) (i + (1 : Nat)) = Go.Proofs.Tryz.Sx.rlo g (1 : Nat) i' ∧
Go.Proofs.Tryz.Sx.rhi g (0 : Nat) (i + (1 : Nat)) = Go.Proofs.Tryz.Sx.rhi g (0 : Nat) i' ∧ Go.Proofs.Tryz.Sx.rhi g (1 : Nat) (i + (1 : Nat)) = Go.Proofs.Tryz.Sx.rhi g (1 : Nat) i' ∧ True) ∧ True ∧ ((100 : Nat) = (100 : Nat) ∧ (0 : Nat) = (0 : Nat) ∧
Go.Proofs.Tryz.Sx.la g (0 : Nat) (i + (1 : Nat)) = Go.Proofs.Tryz.Sx.la g (0 : Nat) i' ∧ Go.Proofs.Tryz.Sx.la g (1 : Nat) (i + (1 : Nat)) = Go.Proofs.Tryz.Sx.la g (1 : Nat) i' ∧ True) ∧ True ∧ ((100 : Nat) = (100 : Nat) ∧ (0 : Nat) = (0 : Nat) ∧
Go.Proofs.Tryz.Sx.lb g len (0 : Nat) (i + (1 : Nat)) = Go.Proofs.Tryz.Sx.lb g len (0 : Nat) i' ∧ Go.Proofs.Tryz.Sx.lb g len (1 : Nat) (i + (1 : Nat)) = Go.Proofs.Tryz.Sx.lb g len (1 : Nat) i' ∧ True) ∧ True ∧ ((100 : Nat) = (100 : Nat) ∧ (0 : Nat) =
(0 : Nat) ∧ Go.Proofs.Tryz.Sx.lc g len (0 : Nat) (i + (1 : Nat)) = Go.Proofs.Tryz.Sx.lc g len (0 : Nat) i' ∧ Go.Proofs.Tryz.Sx.lc g len (1 : Nat) (i + (1 : Nat)) = Go.Proofs.Tryz.Sx.lc g len (1 : Nat) i' ∧ True) ∧ True)) ∧ (Go.Sx.fGt .f64 (Go.Sx.fop
BinOp.sub .f64 (Go.Sx.fop BinOp.mul .f64 (Go.Sx.fop BinOp.sub .f64 (Go.Proofs.Tryz.Sx.lb g len (0 : Nat) (i + (1 : Nat))) (Go.Proofs.Tryz.Sx.la g (0 : Nat) (i + (1 : Nat)))) (Go.Sx.fop BinOp.sub .f64 (Go.Proofs.Tryz.Sx.lc g len (1 : Nat) (i + (1 :
Nat))) (Go.Proofs.Tryz.Sx.lb g len (1 : Nat) (i + (1 : Nat))))) (Go.Sx.fop BinOp.mul .f64 (Go.Sx.fop BinOp.sub .f64 (Go.Proofs.Tryz.Sx.lb g len (1 : Nat) (i + (1 : Nat))) (Go.Proofs.Tryz.Sx.la g (1 : Nat) (i + (1 : Nat)))) (Go.Sx.fop BinOp.sub .f64
(Go.Proofs.Tryz.Sx.lc g len (0 : Nat) (i + (1 : Nat))) (Go.Proofs.Tryz.Sx.lb g len (0 : Nat) (i + (1 : Nat)))))) (0 : Nat) = false → ∃ (i' : Nat), (i' ≤ len ∧ Go.Proofs.Tryz.Sx.ppBig len cl = true) ∧ len - i' < len - i ∧ ((True ∧ len = len) ∧ cl = cl
∧ (True ∧ (0 : Nat) = (0 : Nat)) ∧ Prod.snd (Go.Proofs.Tryz.Sx.dcF g len i) = Prod.snd (Go.Proofs.Tryz.Sx.dcF g len i') ∧ Prod.fst (Go.Proofs.Tryz.Sx.dcF g len i) = Prod.fst (Go.Proofs.Tryz.Sx.dcF g len i') ∧ (True ∧ (0 : Nat) = (0 : Nat)) ∧ (True ∧
(0 : Nat) = (0 : Nat)) ∧ (True ∧ (0 : Nat) = (0 : Nat)) ∧ Go.Proofs.Tryz.Sx.cwF g len (i + (1 : Nat)) = Go.Proofs.Tryz.Sx.cwF g len i' ∧ Go.IntKind.wrap .i64 ((↑i : Int) + (1 : Int)) = (↑i' : Int) ∧ True) ∧ True ∧ ((2 : Nat) * len ≤ (2 : Nat) * len ∧
∀ (i : Nat), i < (2 : Nat) * len → g i = g i) ∧ True ∧ ((102 : Nat) = (102 : Nat) ∧ (0 : Nat) = (0 : Nat) ∧ Go.Proofs.Tryz.Sx.rlo g (0 : Nat) (i + (1 : Nat)) = Go.Proofs.Tryz.Sx.rlo g (0 : Nat) i' ∧ Go.Proofs.Tryz.Sx.rlo g (1 : Nat) (i + (1 : Nat)) =
Go.Proofs.Tryz.Sx.rlo g (1 : Nat) i' ∧ Go.Proofs.Tryz.Sx.rhi g (0 : Nat) (i + (1 : Nat)) = Go.Proofs.Tryz.Sx.rhi g (0 : Nat) i' ∧ Go.Proofs.Tryz.Sx.rhi g (1 : Nat) (i + (1 : Nat)) = Go.Proofs.Tryz.Sx.rhi g (1 : Nat) i' ∧ True) ∧ True ∧ ((100 : Nat) =
(100 : Nat) ∧ (0 : Nat) = (0 : Nat) ∧ Go.Proofs.Tryz.Sx.la g (0 : Nat) (i + (1 : Nat)) = Go.Proofs.Tryz.Sx.la g (0 : Nat) i' ∧ Go.Proofs.Tryz.Sx.la g (1 : Nat) (i + (1 : Nat)) = Go.Proofs.Tryz.Sx.la g (1 : Nat) i' ∧ True) ∧ True ∧ ((100 : Nat) = (100
: Nat) ∧ (0 : Nat) = (0 : Nat) ∧ Go.Proofs.Tryz.Sx.lb g len (0 : Nat) (i + (1 : Nat)) = Go.Proofs.Tryz.Sx.lb g len (0 : Nat) i' ∧ Go.Proofs.Tryz.Sx.lb g len (1 : Nat) (i + (1 : Nat)) = Go.Proofs.Tryz.Sx.lb g len (1 : Nat) i' ∧ True) ∧ True ∧ ((100 :
Nat) = (100 : Nat) ∧ (0 : Nat) = (0 : Nat) ∧ Go.Proofs.Tryz.Sx.lc g len (0 : Nat) (i + (1 : Nat)) = Go.Proofs.Tryz.Sx.lc g len (0 : Nat) i' ∧ Go.Proofs.Tryz.Sx.lc g len (1 : Nat) (i + (1 : Nat)) = Go.Proofs.Tryz.Sx.lc g len (1 : Nat) i' ∧ True) ∧
True))))) ∧ (decide ((↑i : Int) < (↑len : Int)) = false → true = true ∧ ((!Prod.snd (Go.Proofs.Tryz.Sx.dcF g len i)) = (Go.Proofs.Tryz.Sx.ppBig len cl && !Prod.snd (Go.Proofs.Tryz.Sx.dcF g len len)) ∧ (Go.Proofs.Tryz.Sx.rlo g (0 : Nat) i =
Go.Proofs.Tryz.Sx.pick (Go.Proofs.Tryz.Sx.ppBig len cl) (Go.Proofs.Tryz.Sx.rlo g (0 : Nat) len) ∧ Go.Proofs.Tryz.Sx.rlo g (1 : Nat) i = Go.Proofs.Tryz.Sx.pick (Go.Proofs.Tryz.Sx.ppBig len cl) (Go.Proofs.Tryz.Sx.rlo g (1 : Nat) len) ∧
Go.Proofs.Tryz.Sx.rhi g (0 : Nat) i = Go.Proofs.Tryz.Sx.pick (Go.Proofs.Tryz.Sx.ppBig len cl) (Go.Proofs.Tryz.Sx.rhi g (0 : Nat) len) ∧ Go.Proofs.Tryz.Sx.rhi g (1 : Nat) i = Go.Proofs.Tryz.Sx.pick (Go.Proofs.Tryz.Sx.ppBig len cl)
(Go.Proofs.Tryz.Sx.rhi g (1 : Nat) len) ∧ True) ∧ Go.Sx.fGt .f64 (Go.Proofs.Tryz.Sx.cwF g len i) (0 : Nat) = (Go.Proofs.Tryz.Sx.ppBig len cl && Go.Sx.fGt .f64 (Go.Proofs.Tryz.Sx.cwF g len len) (0 : Nat)) ∧ True) ∧ True)) := by kernel_rfl
theorem procP : ConOk Tryz.prog 102 (conR procPC) := by
  refine con_of_vc g0 Tryz.func102 rfl (by kernel_rfl) fun args => ?_
  unfold procPC
  split
  · rename_i n len v
    intro o0
    show RdM.All _ (match fltsFrom .f64 o0.c with | some (m, g) => _ | none => _) _
    split
    · rename_i m0 g hm0
      show RdM.All _ (match v.toB with | some b => _ | none => _) _
      split
      · rename_i cl hcl
        intro ho
        replace ho : m0 = 2 * len ∧ len ≤ 1000000 ∧ (ppBig len cl = true → ppOk g len) := ho
        obtain ⟨hsz0, ho⟩ := ho
        subst hsz0
        refine ⟨?_, _, _, (vc_procP len cl g).mpr ?_⟩
        · refine okFlag_mk rfl ⟨?_, ⟨trivial, (contR_flts hm0).1, trivial⟩⟩
          simp [eqvRL, eqvR, kEq_self, fkEq_self, sgSig, fsts, nth, sameN_self, toB_eqvR hcl]
        · obtain ⟨hlen, hok⟩ := ho
          refine ⟨⟨fun hc => ⟨fun h3 => ?_, fun h3 => ⟨fun h2 => ?_, fun h2 => ?_⟩⟩, fun hc => ⟨fun h2 => ?_, fun h2 => ?_⟩⟩, fun _ hb => ?_⟩
          · have h3 := of_decide_eq_true h3
            have hb : ppBig len cl = false := by simp [ppBig, hc]; omega
            simp [hb, pick]
          · have h2 := of_decide_eq_true h2
            have hb : ppBig len cl = false := by simp [ppBig, hc]; omega
            simp [hb, pick]
          · have h2 := of_decide_eq_false h2
            have h3 := of_decide_eq_false h3
            have hb : ppBig len cl = true := by simp [ppBig, hc]; omega
            refine ⟨0, hb, ?_⟩
            simp
          · have h2 := of_decide_eq_true h2
            have hb : ppBig len cl = false := by simp [ppBig, hc]; omega
            simp [hb, pick]
          · have h2 := of_decide_eq_false h2
            have hb : ppBig len cl = true := by simp [ppBig, hc]; omega
            refine ⟨0, hb, ?_⟩
            simp
          have hbb : 2 ≤ len ∧ (cl = true → 3 ≤ len) := by unfold ppBig at hb; exact of_decide_eq_true hb
          have hl2 := hbb.1
          replace hok := hok hb
          refine ⟨⟨0, ⟨by omega, hb⟩, by simp [dcF, cwF, rlo, rhi, la, lb, lc]⟩, fun i hi => ⟨fun hlt => ?_, fun hlt => ?_⟩⟩
          · have hlt := of_decide_eq_true hlt
            have hil : i < len := by omega
            have w1 : IntKind.i64.wrap ((i : Int) + 1) = ((i + 1 : Nat) : Int) := by rw [wrap64 (by omega) (by omega)]; omega
            have w2 : IntKind.i64.wrap ((i : Int) + 2) = ((i + 2 : Nat) : Int) := by rw [wrap64 (by omega) (by omega)]; omega
            have v1 : IntKind.i64.wrap ((len : Int) - 1) = ((len - 1 : Nat) : Int) := by rw [wrap64 (by omega) (by omega)]; omega
            have v2 : IntKind.i64.wrap ((len : Int) - 2) = ((len - 2 : Nat) : Int) := by rw [wrap64 (by omega) (by omega)]; omega
            have m0 : i * 2 = 2 * i := by omega
            have m1 : (i + 1) * 2 = 2 * (i + 1) := by omega
            have m2 : (i + 2) * 2 = 2 * (i + 2) := by omega
            obtain ⟨hcw, hzc⟩ := hok i hil
            simp only [w1, w2, v1, v2, Int.toNat_natCast, Nat.zero_add, Nat.add_zero, m0, m1, m2, true_and, and_true, implies_true, Nat.le_refl]
            refine ⟨⟨fun h0 => ?_, fun h0 => ?_⟩, fun _ _ => ⟨?_, fun _ _ => ⟨?_, fun _ _ => ⟨?_, fun _ _ => ?_⟩⟩⟩⟩
            · have h0 : i = 0 := by simpa using h0
              subst h0
              refine ⟨by omega, by omega, by omega, by omega, 0, ⟨hil, hb⟩, ?_⟩
              simp [rlo, rhi, loStep, hiStep]
            · have h0 : ¬ i = 0 := by simpa using h0
              repeat' first
                | intro hx
                | apply And.intro
                | apply Exists.intro 0
              all_goals first
                | omega
                | simp [rlo, rhi, loStep, hiStep, *]
            · refine ⟨by omega, by omega, 0, ⟨hil, hb⟩, ?_⟩
              simp [la]
            · refine ⟨fun h1 => ?_, fun h1 => ⟨fun h2 => ?_, fun h2 => ?_⟩⟩
              · have h1 := eq_of_beq h1
                have h1 : i + 1 = len := by omega
                refine ⟨by omega, by omega, by omega, by omega, 0, ⟨hil, hb⟩, ?_⟩
                simp [lb, lc, nx, nx2, h1]
              · have h1 := ne_of_beq_false h1
                have h2 := eq_of_beq h2
                have h1 : ¬ i + 1 = len := by omega
                have h2 : i + 2 = len := by omega
                refine ⟨by omega, by omega, by omega, by omega, 0, ⟨hil, hb⟩, ?_⟩
                simp [lb, lc, nx, nx2, h1, h2]
              · have h1 := ne_of_beq_false h1
                have h2 := ne_of_beq_false h2
                have h1 : ¬ i + 1 = len := by omega
                have h2 : ¬ i + 2 = len := by omega
                refine ⟨by omega, by omega, by omega, by omega, 0, ⟨hil, hb⟩, ?_⟩
                simp [lb, lc, nx, nx2, h1, h2]
            · obtain ⟨k1, k2, k3, k4⟩ := hcw
              refine ⟨k1, k2, k3, k4, 0, ⟨hil, hb⟩, ?_⟩
              simp [cwF, cwStep, la, lb]
            · obtain ⟨k1, k2, k3, k4, k5, k6, k7⟩ := hzc
              refine ⟨fun hc => ?_, fun hc => ⟨k1, k2, k3, k4, k5, k6, k7, ⟨fun hd => ⟨fun z1 => ?_, fun z1 => ⟨fun z2 => ?_, fun z2 => ?_⟩⟩, fun hd => ⟨fun z1 => ⟨fun hd1 => ?_, fun hd1 => ?_⟩, fun z1 => ⟨fun z2 => ⟨fun hd1 => ?_, fun hd1 => ?_⟩, fun z2 => ?_⟩⟩⟩⟩⟩
              all_goals refine ⟨i + 1, ⟨by omega, hb⟩, by omega, ?_⟩
              all_goals try (replace hd1 := eq_of_beq hd1)
              all_goals try (replace hd1 := ne_of_beq_false hd1)
              all_goals try (replace hd := eq_of_beq hd)
              all_goals try (replace hd := ne_of_beq_false hd)
              all_goals try (change fLt .f64 (zcF g len i) 0 = _ at z1)
              all_goals try (change fGt .f64 (zcF g len i) 0 = _ at z2)
              all_goals simp [dcF, dStep, *]
          · have hlt := of_decide_eq_false hlt
            have : i = len := by omega
            subst this
            simp [hb, pick]
      · trivial
    · trivial
  · trivial
end Go.Proofs.Tryz.Sx

/- Series: their methods. -/
namespace Go.Proofs.Tryz.Sx
open Go Go.Sx Go.Proofs Go.Fl Go.Geo
set_option maxRecDepth 100000

/-- A series without an index, as it lies in memory: closed, clockwise, convex, the kind of index, the rectangle, the points. -/
def serOf : Cont → Option (Bool × Bool × Bool × Int × Nat × Nat × Nat × Nat × Nm × Nat)
  | .cells [a, b, c, .int .u8 k, .nili, .flt .f64 x, .flt .f64 y, .flt .f64 z, .flt .f64 w, .slcc p n] => match a.toB with
    | some a => match b.toB with
      | some b => match c.toB with
        | some c => some (a, b, c, k, x, y, z, w, p, n)
        | none => none
      | none => none
    | none => none
  | _ => none
def serC (cl cw cv : Bool) (k : Int) (x y z w : Nat) (p : Nm) (n : Nat) : Cont := .cells [.bool cl, .bool cw, .bool cv, .int .u8 k, .nili, .flt .f64 x, .flt .f64 y, .flt .f64 z, .flt .f64 w, .slcc p n]
theorem serOf_spec {σ : Sig} {c : Cont} {cl cw cv : Bool} {k : Int} {x y z w : Nat} {p q : Nm} {n : Nat} (h : serOf c = some (cl, cw, cv, k, x, y, z, w, p, n)) (hs : sameN (σ q) p) : contR σ c (serC cl cw cv k x y z w q n) := by
  unfold serOf at h
  split at h
  · split at h
    · rename_i ha
      split at h
      · rename_i hb
        split at h
        · rename_i hc
          simp only [Option.some.injEq, Prod.mk.injEq] at h
          obtain ⟨rfl, rfl, rfl, rfl, rfl, rfl, rfl, rfl, rfl, rfl⟩ := h
          show eqvRL σ _ _
          simp [eqvRL, eqvR, kEq_self, fkEq_self, toB_eqvR ha, toB_eqvR hb, toB_eqvR hc, hs]
        · cases h
      · cases h
    · cases h
  · cases h

noncomputable def sNumPC : List SV → RdM
  | [.ptr s 0] => .read s fun o0 => (match serOf o0.c with
    | some (cl, cw, cv, k, x, y, z, w, p, n) => .read p fun o1 => (match fltsFrom .f64 o1.c with
    | some (m1, g) => .ret ⟨[.ptr 0 0], [(0, ⟨false, 150, serC cl cw cv k x y z w 1 n, 0⟩), (1, ⟨false, 100, .flts .f64 m1 g, 0⟩)], .int .i64 n, [], [], some (m1 = 2 * n ∧ True)⟩
    | none => .fail)
    | none => .fail)
  | _ => .fail
theorem vc_sNumP (cl cw cv : Bool) (k : Int) (x y z w : Nat) (p : Nm) (n : Nat)  (g : Nat → Nat) : runA G0 2 [] [] (codeOf Tryz.f205) (init Tryz.f205.ntmps [.ptr 0 0] [(0, ⟨false, 150, serC cl cw cv k x y z w 1 n, 0⟩), (1, ⟨false, 100, .flts .f64 (2 * n) g, 0⟩)] 2) (endK G0.E.T Tryz.f205.results.toList fun S v => postP 2 ⟨[.ptr 0 0], [(0, ⟨false, 150, serC cl cw cv k x y z w 1 n, 0⟩), (1, ⟨false, 100, .flts .f64 (2 * n) g, 0⟩)], .int .i64 n, [], [], some (2 * n = 2 * n ∧ True)⟩ S v) = (
(↑n : Int) = (↑n : Int) ∧ True) := by kernel_rfl
theorem sNumP : ConOk Tryz.prog 205 (conR sNumPC) := by
  refine con_of_vc g0 Tryz.func205 rfl (by kernel_rfl) fun args => ?_
  unfold sNumPC
  split
  · rename_i s
    intro o0
    show RdM.All _ (match serOf o0.c with | some (cl, cw, cv, k, x, y, z, w, p, n) => _ | none => _) _
    split
    · rename_i cl cw cv k x y z w p n hm0
      intro o1
      show RdM.All _ (match fltsFrom .f64 o1.c with | some (m, g) => _ | none => _) _
      split
      · rename_i m1 g hm1
        intro ho
        replace ho : m1 = 2 * n ∧ True := ho
        obtain ⟨hsz1, ho⟩ := ho
        subst hsz1
        refine ⟨?_, _, _, (vc_sNumP cl cw cv k x y z w p n g).mpr ?_⟩
        · refine okFlag_mk rfl ⟨?_, ⟨trivial, serOf_spec hm0 (by simp [sgSig, fsts, nth, sameN_self]), ⟨trivial, (contR_flts hm1).1, trivial⟩⟩⟩
          simp [eqvRL, eqvR, kEq_self, fkEq_self, sgSig, fsts, nth, sameN_self]
        · simp
      · trivial
    · trivial
  · trivial

noncomputable def sRectSC : List SV → RdM
  | [.ptr s 0] => .read s fun o0 => (match serOf o0.c with
    | some (cl, cw, cv, k, x, y, z, w, p, n) => .read p fun o1 => (match fltsFrom .f64 o1.c with
    | some (m1, g) => .ret ⟨[.ptr 0 0], [(0, ⟨false, 150, serC cl cw cv k x y z w 1 n, 0⟩), (1, ⟨false, 100, .flts .f64 m1 g, 0⟩)], .agg [.flt .f64 x, .flt .f64 y, .flt .f64 z, .flt .f64 w], [], [], some (m1 = 2 * n ∧ True)⟩
    | none => .fail)
    | none => .fail)
  | _ => .fail
theorem vc_sRectS (cl cw cv : Bool) (k : Int) (x y z w : Nat) (p : Nm) (n : Nat)  (g : Nat → Nat) : runA G0 2 [] [] (codeOf Tryz.f164) (init Tryz.f164.ntmps [.ptr 0 0] [(0, ⟨false, 150, serC cl cw cv k x y z w 1 n, 0⟩), (1, ⟨false, 100, .flts .f64 (2 * n) g, 0⟩)] 2) (endK G0.E.T Tryz.f164.results.toList fun S v => postP 2 ⟨[.ptr 0 0], [(0, ⟨false, 150, serC cl cw cv k x y z w 1 n, 0⟩), (1, ⟨false, 100, .flts .f64 (2 * n) g, 0⟩)], .agg [.flt .f64 x, .flt .f64 y, .flt .f64 z, .flt .f64 w], [], [], some (2 * n = 2 * n ∧ True)⟩ S v) = (
(x = x ∧ y = y ∧ z = z ∧ w = w ∧ True) ∧ True) := by kernel_rfl
theorem sRectS : ConOk Tryz.prog 164 (conR sRectSC) := by
  refine con_of_vc g0 Tryz.func164 rfl (by kernel_rfl) fun args => ?_
  unfold sRectSC
  split
  · rename_i s
    intro o0
    show RdM.All _ (match serOf o0.c with | some (cl, cw, cv, k, x, y, z, w, p, n) => _ | none => _) _
    split
    · rename_i cl cw cv k x y z w p n hm0
      intro o1
      show RdM.All _ (match fltsFrom .f64 o1.c with | some (m, g) => _ | none => _) _
      split
      · rename_i m1 g hm1
        intro ho
        replace ho : m1 = 2 * n ∧ True := ho
        obtain ⟨hsz1, ho⟩ := ho
        subst hsz1
        refine ⟨?_, _, _, (vc_sRectS cl cw cv k x y z w p n g).mpr ?_⟩
        · refine okFlag_mk rfl ⟨?_, ⟨trivial, serOf_spec hm0 (by simp [sgSig, fsts, nth, sameN_self]), ⟨trivial, (contR_flts hm1).1, trivial⟩⟩⟩
          simp [eqvRL, eqvR, kEq_self, fkEq_self, sgSig, fsts, nth, sameN_self]
        · simp
      · trivial
    · trivial
  · trivial
noncomputable def sEmptyC : List SV → RdM
  | [.ptr s 0] => .read s fun o0 => (match serOf o0.c with
    | some (cl, cw, cv, k, x, y, z, w, p, n) => .read p fun o1 => (match fltsFrom .f64 o1.c with
    | some (m1, g) => .ret ⟨[.ptr 0 0], [(0, ⟨false, 150, serC cl cw cv k x y z w 1 n, 0⟩), (1, ⟨false, 100, .flts .f64 m1 g, 0⟩)], .bool (decide (n < 2 ∨ cl = true ∧ n < 3)), [], [], some (m1 = 2 * n ∧ True)⟩
    | none => .fail)
    | none => .fail)
  | _ => .fail
theorem vc_sEmpty (cl cw cv : Bool) (k : Int) (x y z w : Nat) (p : Nm) (n : Nat)  (g : Nat → Nat) : runA G0 2 [] [] (codeOf Tryz.f163) (init Tryz.f163.ntmps [.ptr 0 0] [(0, ⟨false, 150, serC cl cw cv k x y z w 1 n, 0⟩), (1, ⟨false, 100, .flts .f64 (2 * n) g, 0⟩)] 2) (endK G0.E.T Tryz.f163.results.toList fun S v => postP 2 ⟨[.ptr 0 0], [(0, ⟨false, 150, serC cl cw cv k x y z w 1 n, 0⟩), (1, ⟨false, 100, .flts .f64 (2 * n) g, 0⟩)], .bool (decide (n < 2 ∨ cl = true ∧ n < 3)), [], [], some (2 * n = 2 * n ∧ True)⟩ S v) = (
(cl = true → (decide ((↑n : Int) < (3 : Int)) = true → decide (n < (2 : Nat) ∨ cl = true ∧ n < (3 : Nat)) = true ∧ True) ∧ (decide ((↑n : Int) < (3 : Int)) = false → decide ((↑n : Int) < (2 : Int)) = decide (n < (2 : Nat) ∨ cl = true ∧ n < (3 : Nat))
∧ True)) ∧ (cl = false → decide ((↑n : Int) < (2 : Int)) = decide (n < (2 : Nat) ∨ cl = true ∧ n < (3 : Nat)) ∧ True)) := by kernel_rfl
theorem sEmpty : ConOk Tryz.prog 163 (conR sEmptyC) := by
  refine con_of_vc g0 Tryz.func163 rfl (by kernel_rfl) fun args => ?_
  unfold sEmptyC
  split
  · rename_i s
    intro o0
    show RdM.All _ (match serOf o0.c with | some (cl, cw, cv, k, x, y, z, w, p, n) => _ | none => _) _
    split
    · rename_i cl cw cv k x y z w p n hm0
      intro o1
      show RdM.All _ (match fltsFrom .f64 o1.c with | some (m, g) => _ | none => _) _
      split
      · rename_i m1 g hm1
        intro ho
        replace ho : m1 = 2 * n ∧ True := ho
        obtain ⟨hsz1, ho⟩ := ho
        subst hsz1
        refine ⟨?_, _, _, (vc_sEmpty cl cw cv k x y z w p n g).mpr ?_⟩
        · refine okFlag_mk rfl ⟨?_, ⟨trivial, serOf_spec hm0 (by simp [sgSig, fsts, nth, sameN_self]), ⟨trivial, (contR_flts hm1).1, trivial⟩⟩⟩
          simp [eqvRL, eqvR, kEq_self, fkEq_self, sgSig, fsts, nth, sameN_self]
        · refine ⟨fun hc => ⟨fun h => ?_, fun h => ?_⟩, fun hc => ?_⟩
          · have h := of_decide_eq_true h
            exact ⟨decide_eq_true (.inr ⟨hc, by omega⟩), trivial⟩
          · have h := of_decide_eq_false h
            rw [show decide ((n : Int) < 2) = false from decide_eq_false (by omega), show decide (n < 2 ∨ cl = true ∧ n < 3) = false from decide_eq_false (by rintro (h1 | ⟨_, h1⟩) <;> omega)]
            exact ⟨rfl, trivial⟩
          · by_cases h : n < 2
            · rw [show decide ((n : Int) < 2) = true from decide_eq_true (by omega), show decide (n < 2 ∨ cl = true ∧ n < 3) = true from decide_eq_true (.inl h)]
              exact ⟨rfl, trivial⟩
            · rw [show decide ((n : Int) < 2) = false from decide_eq_false (by omega), show decide (n < 2 ∨ cl = true ∧ n < 3) = false from decide_eq_false (by rintro (h1 | ⟨h2, h1⟩); omega; simp [hc] at h2)]
              exact ⟨rfl, trivial⟩
      · trivial
    · trivial
  · trivial
noncomputable def sClockC : List SV → RdM
  | [.ptr s 0] => .read s fun o0 => (match serOf o0.c with
    | some (cl, cw, cv, k, x, y, z, w, p, n) => .read p fun o1 => (match fltsFrom .f64 o1.c with
    | some (m1, g) => .ret ⟨[.ptr 0 0], [(0, ⟨false, 150, serC cl cw cv k x y z w 1 n, 0⟩), (1, ⟨false, 100, .flts .f64 m1 g, 0⟩)], .bool cw, [], [], some (m1 = 2 * n ∧ True)⟩
    | none => .fail)
    | none => .fail)
  | _ => .fail
theorem vc_sClock (cl cw cv : Bool) (k : Int) (x y z w : Nat) (p : Nm) (n : Nat)  (g : Nat → Nat) : runA G0 2 [] [] (codeOf Tryz.f222) (init Tryz.f222.ntmps [.ptr 0 0] [(0, ⟨false, 150, serC cl cw cv k x y z w 1 n, 0⟩), (1, ⟨false, 100, .flts .f64 (2 * n) g, 0⟩)] 2) (endK G0.E.T Tryz.f222.results.toList fun S v => postP 2 ⟨[.ptr 0 0], [(0, ⟨false, 150, serC cl cw cv k x y z w 1 n, 0⟩), (1, ⟨false, 100, .flts .f64 (2 * n) g, 0⟩)], .bool cw, [], [], some (2 * n = 2 * n ∧ True)⟩ S v) = (
cw = cw ∧ True) := by kernel_rfl
theorem sClock : ConOk Tryz.prog 222 (conR sClockC) := by
  refine con_of_vc g0 Tryz.func222 rfl (by kernel_rfl) fun args => ?_
  unfold sClockC
  split
  · rename_i s
    intro o0
    show RdM.All _ (match serOf o0.c with | some (cl, cw, cv, k, x, y, z, w, p, n) => _ | none => _) _
    split
    · rename_i cl cw cv k x y z w p n hm0
      intro o1
      show RdM.All _ (match fltsFrom .f64 o1.c with | some (m, g) => _ | none => _) _
      split
      · rename_i m1 g hm1
        intro ho
        replace ho : m1 = 2 * n ∧ True := ho
        obtain ⟨hsz1, ho⟩ := ho
        subst hsz1
        refine ⟨?_, _, _, (vc_sClock cl cw cv k x y z w p n g).mpr ?_⟩
        · refine okFlag_mk rfl ⟨?_, ⟨trivial, serOf_spec hm0 (by simp [sgSig, fsts, nth, sameN_self]), ⟨trivial, (contR_flts hm1).1, trivial⟩⟩⟩
          simp [eqvRL, eqvR, kEq_self, fkEq_self, sgSig, fsts, nth, sameN_self]
        · simp
      · trivial
    · trivial
  · trivial
noncomputable def sConvC : List SV → RdM
  | [.ptr s 0] => .read s fun o0 => (match serOf o0.c with
    | some (cl, cw, cv, k, x, y, z, w, p, n) => .read p fun o1 => (match fltsFrom .f64 o1.c with
    | some (m1, g) => .ret ⟨[.ptr 0 0], [(0, ⟨false, 150, serC cl cw cv k x y z w 1 n, 0⟩), (1, ⟨false, 100, .flts .f64 m1 g, 0⟩)], .bool cv, [], [], some (m1 = 2 * n ∧ True)⟩
    | none => .fail)
    | none => .fail)
  | _ => .fail
theorem vc_sConv (cl cw cv : Bool) (k : Int) (x y z w : Nat) (p : Nm) (n : Nat)  (g : Nat → Nat) : runA G0 2 [] [] (codeOf Tryz.f226) (init Tryz.f226.ntmps [.ptr 0 0] [(0, ⟨false, 150, serC cl cw cv k x y z w 1 n, 0⟩), (1, ⟨false, 100, .flts .f64 (2 * n) g, 0⟩)] 2) (endK G0.E.T Tryz.f226.results.toList fun S v => postP 2 ⟨[.ptr 0 0], [(0, ⟨false, 150, serC cl cw cv k x y z w 1 n, 0⟩), (1, ⟨false, 100, .flts .f64 (2 * n) g, 0⟩)], .bool cv, [], [], some (2 * n = 2 * n ∧ True)⟩ S v) = (
cv = cv ∧ True) := by kernel_rfl
theorem sConv : ConOk Tryz.prog 226 (conR sConvC) := by
  refine con_of_vc g0 Tryz.func226 rfl (by kernel_rfl) fun args => ?_
  unfold sConvC
  split
  · rename_i s
    intro o0
    show RdM.All _ (match serOf o0.c with | some (cl, cw, cv, k, x, y, z, w, p, n) => _ | none => _) _
    split
    · rename_i cl cw cv k x y z w p n hm0
      intro o1
      show RdM.All _ (match fltsFrom .f64 o1.c with | some (m, g) => _ | none => _) _
      split
      · rename_i m1 g hm1
        intro ho
        replace ho : m1 = 2 * n ∧ True := ho
        obtain ⟨hsz1, ho⟩ := ho
        subst hsz1
        refine ⟨?_, _, _, (vc_sConv cl cw cv k x y z w p n g).mpr ?_⟩
        · refine okFlag_mk rfl ⟨?_, ⟨trivial, serOf_spec hm0 (by simp [sgSig, fsts, nth, sameN_self]), ⟨trivial, (contR_flts hm1).1, trivial⟩⟩⟩
          simp [eqvRL, eqvR, kEq_self, fkEq_self, sgSig, fsts, nth, sameN_self]
        · simp
      · trivial
    · trivial
  · trivial
noncomputable def sIdxC : List SV → RdM
  | [.ptr s 0] => .read s fun o0 => (match serOf o0.c with
    | some (cl, cw, cv, k, x, y, z, w, p, n) => .read p fun o1 => (match fltsFrom .f64 o1.c with
    | some (m1, g) => .ret ⟨[.ptr 0 0], [(0, ⟨false, 150, serC cl cw cv k x y z w 1 n, 0⟩), (1, ⟨false, 100, .flts .f64 m1 g, 0⟩)], .nili, [], [], some (m1 = 2 * n ∧ True)⟩
    | none => .fail)
    | none => .fail)
  | _ => .fail
theorem vc_sIdx (cl cw cv : Bool) (k : Int) (x y z w : Nat) (p : Nm) (n : Nat)  (g : Nat → Nat) : runA G0 2 [] [] (codeOf Tryz.f105) (init Tryz.f105.ntmps [.ptr 0 0] [(0, ⟨false, 150, serC cl cw cv k x y z w 1 n, 0⟩), (1, ⟨false, 100, .flts .f64 (2 * n) g, 0⟩)] 2) (endK G0.E.T Tryz.f105.results.toList fun S v => postP 2 ⟨[.ptr 0 0], [(0, ⟨false, 150, serC cl cw cv k x y z w 1 n, 0⟩), (1, ⟨false, 100, .flts .f64 (2 * n) g, 0⟩)], .nili, [], [], some (2 * n = 2 * n ∧ True)⟩ S v) = (
True ∧ True) := by kernel_rfl
theorem sIdx : ConOk Tryz.prog 105 (conR sIdxC) := by
  refine con_of_vc g0 Tryz.func105 rfl (by kernel_rfl) fun args => ?_
  unfold sIdxC
  split
  · rename_i s
    intro o0
    show RdM.All _ (match serOf o0.c with | some (cl, cw, cv, k, x, y, z, w, p, n) => _ | none => _) _
    split
    · rename_i cl cw cv k x y z w p n hm0
      intro o1
      show RdM.All _ (match fltsFrom .f64 o1.c with | some (m, g) => _ | none => _) _
      split
      · rename_i m1 g hm1
        intro ho
        replace ho : m1 = 2 * n ∧ True := ho
        obtain ⟨hsz1, ho⟩ := ho
        subst hsz1
        refine ⟨?_, _, _, (vc_sIdx cl cw cv k x y z w p n g).mpr ?_⟩
        · refine okFlag_mk rfl ⟨?_, ⟨trivial, serOf_spec hm0 (by simp [sgSig, fsts, nth, sameN_self]), ⟨trivial, (contR_flts hm1).1, trivial⟩⟩⟩
          simp [eqvRL, eqvR, kEq_self, fkEq_self, sgSig, fsts, nth, sameN_self]
        · simp
      · trivial
    · trivial
  · trivial
noncomputable def sPtC : List SV → RdM
  | [.ptr s 0, .int .i64 i] => .read s fun o0 => (match serOf o0.c with
    | some (cl, cw, cv, k, x, y, z, w, p, n) => .read p fun o1 => (match fltsFrom .f64 o1.c with
    | some (m1, g) => .ret ⟨[.ptr 0 0, .int .i64 i], [(0, ⟨false, 150, serC cl cw cv k x y z w 1 n, 0⟩), (1, ⟨false, 100, .flts .f64 m1 g, 0⟩)], .agg [.flt .f64 (g (2 * i.toNat)), .flt .f64 (g (2 * i.toNat + 1))], [], [], some (m1 = 2 * n ∧ 0 ≤ i ∧ i < n)⟩
    | none => .fail)
    | none => .fail)
  | _ => .fail
theorem vc_sPt (cl cw cv : Bool) (k : Int) (x y z w : Nat) (p : Nm) (n : Nat) (i : Int)  (g : Nat → Nat) : runA G0 2 [] [] (codeOf Tryz.f206) (init Tryz.f206.ntmps [.ptr 0 0, .int .i64 i] [(0, ⟨false, 150, serC cl cw cv k x y z w 1 n, 0⟩), (1, ⟨false, 100, .flts .f64 (2 * n) g, 0⟩)] 2) (endK G0.E.T Tryz.f206.results.toList fun S v => postP 2 ⟨[.ptr 0 0, .int .i64 i], [(0, ⟨false, 150, serC cl cw cv k x y z w 1 n, 0⟩), (1, ⟨false, 100, .flts .f64 (2 * n) g, 0⟩)], .agg [.flt .f64 (g (2 * i.toNat)), .flt .f64 (g (2 * i.toNat + 1))], [], [], some (2 * n = 2 * n ∧ 0 ≤ i ∧ i < n)⟩ S v) = (
(((0 : Int) ≤ i ∧ i < (↑n : Int)) ∧ (1 : Nat) ≤ (2 : Nat) * n) ∧ (0 : Nat) + Int.toNat i * (2 : Nat) + (2 : Nat) ≤ (2 : Nat) * n ∧ (g ((0 : Nat) + Int.toNat i * (2 : Nat)) = g ((2 : Nat) * Int.toNat i) ∧ g ((0 : Nat) + Int.toNat i * (2 : Nat) + (1 :
Nat)) = g ((2 : Nat) * Int.toNat i + (1 : Nat)) ∧ True) ∧ True) := by kernel_rfl
theorem sPt : ConOk Tryz.prog 206 (conR sPtC) := by
  refine con_of_vc g0 Tryz.func206 rfl (by kernel_rfl) fun args => ?_
  unfold sPtC
  split
  · rename_i s i
    intro o0
    show RdM.All _ (match serOf o0.c with | some (cl, cw, cv, k, x, y, z, w, p, n) => _ | none => _) _
    split
    · rename_i cl cw cv k x y z w p n hm0
      intro o1
      show RdM.All _ (match fltsFrom .f64 o1.c with | some (m, g) => _ | none => _) _
      split
      · rename_i m1 g hm1
        intro ho
        replace ho : m1 = 2 * n ∧ 0 ≤ i ∧ i < n := ho
        obtain ⟨hsz1, ho⟩ := ho
        subst hsz1
        refine ⟨?_, _, _, (vc_sPt cl cw cv k x y z w p n i g).mpr ?_⟩
        · refine okFlag_mk rfl ⟨?_, ⟨trivial, serOf_spec hm0 (by simp [sgSig, fsts, nth, sameN_self]), ⟨trivial, (contR_flts hm1).1, trivial⟩⟩⟩
          simp [eqvRL, eqvR, kEq_self, fkEq_self, sgSig, fsts, nth, sameN_self]
        · have e : 0 + i.toNat * 2 = 2 * i.toNat := by omega
          rw [e]
          exact ⟨by omega, by omega, by simp⟩
      · trivial
    · trivial
  · trivial

def GPV : Ctx := ⟨⟨tys, []⟩, [(162, pureCon pValidF)]⟩
theorem gPV : CtxOk Tryz.prog GPV := ⟨⟨tysOk, FlatsOk.nil⟩, GamOk.cons (.pure pValid) GamOk.nil, by kernel_rfl⟩
def allValid (n : Nat) (g : Nat → Nat) : Bool := decide (∀ i, i < n → pvalid (g (2 * i)) (g (2 * i + 1)) = true)
def valL (n : Nat) (g : Nat → Nat) : Fam := ⟨Nat, fun i =>
  ⟨18, [(8, .slcc 1 n), (9, .int .i64 n), (10, .int .i64 i)], [(1, ⟨false, 100, .flts .f64 (2 * n) g, 0⟩)], 2⟩, fun i => i ≤ n ∧ allValid i g = true, fun i => n - i⟩
noncomputable def sValidC : List SV → RdM
  | [.ptr s 0] => .read s fun o0 => (match serOf o0.c with
    | some (cl, cw, cv, k, x, y, z, w, p, n) => .read p fun o1 => (match fltsFrom .f64 o1.c with
    | some (m1, g) => .ret ⟨[.ptr 0 0], [(0, ⟨false, 150, serC cl cw cv k x y z w 1 n, 0⟩), (1, ⟨false, 100, .flts .f64 m1 g, 0⟩)], .bool (allValid n g), [], [], some (m1 = 2 * n ∧ n ≤ 1000000)⟩
    | none => .fail)
    | none => .fail)
  | _ => .fail
theorem vc_sValid (cl cw cv : Bool) (k : Int) (x y z w : Nat) (p : Nm) (n : Nat)  (g : Nat → Nat) : runA GPV 2 [(2, valL n g)] [] (codeOf Tryz.f234) (init Tryz.f234.ntmps [.ptr 0 0] [(0, ⟨false, 150, serC cl cw cv k x y z w 1 n, 0⟩), (1, ⟨false, 100, .flts .f64 (2 * n) g, 0⟩)] 2) (endK GPV.E.T Tryz.f234.results.toList fun S v => postP 2 ⟨[.ptr 0 0], [(0, ⟨false, 150, serC cl cw cv k x y z w 1 n, 0⟩), (1, ⟨false, 100, .flts .f64 (2 * n) g, 0⟩)], .bool (allValid n g), [], [], some (2 * n = 2 * n ∧ n ≤ 1000000)⟩ S v) = (
(∃ (i : Nat), (i ≤ n ∧ Go.Proofs.Tryz.Sx.allValid i g = true) ∧ ((True ∧ n = n) ∧ (↑n : Int) = (↑n : Int) ∧ (0 : Int) = (↑i : Int) ∧ True) ∧ True ∧ ((2 : Nat) * n ≤ (2 : Nat) * n ∧ ∀ (i : Nat), i < (2 : Nat) * n → g i = g i) ∧ True) ∧ ∀ (i : Nat), i
≤ n ∧ Go.Proofs.Tryz.Sx.allValid i g = true → (decide ((↑i : Int) < (↑n : Int)) = true → (((0 : Int) ≤ (↑i : Int) ∧ (↑i : Int) < (↑n : Int)) ∧ (1 : Nat) ≤ (2 : Nat) * n) ∧ (0 : Nat) + Int.toNat (↑i : Int) * (2 : Nat) + (2 : Nat) ≤ (2 : Nat) * n ∧
((!Go.Proofs.Tryz.Sx.pvalid (g ((0 : Nat) + Int.toNat (↑i : Int) * (2 : Nat))) (g ((0 : Nat) + Int.toNat (↑i : Int) * (2 : Nat) + (1 : Nat)))) = true → Go.Proofs.Tryz.Sx.allValid n g = false ∧ True) ∧ ((!Go.Proofs.Tryz.Sx.pvalid (g ((0 : Nat) +
Int.toNat (↑i : Int) * (2 : Nat))) (g ((0 : Nat) + Int.toNat (↑i : Int) * (2 : Nat) + (1 : Nat)))) = false → ∃ (i' : Nat), (i' ≤ n ∧ Go.Proofs.Tryz.Sx.allValid i' g = true) ∧ n - i' < n - i ∧ ((True ∧ n = n) ∧ (↑n : Int) = (↑n : Int) ∧
Go.IntKind.wrap .i64 ((↑i : Int) + (1 : Int)) = (↑i' : Int) ∧ True) ∧ True ∧ ((2 : Nat) * n ≤ (2 : Nat) * n ∧ ∀ (i : Nat), i < (2 : Nat) * n → g i = g i) ∧ True)) ∧ (decide ((↑i : Int) < (↑n : Int)) = false → Go.Proofs.Tryz.Sx.allValid n g = true ∧
True)) := by kernel_rfl
theorem sValid : ConOk Tryz.prog 234 (conR sValidC) := by
  refine con_of_vc gPV Tryz.func234 rfl (by kernel_rfl) fun args => ?_
  unfold sValidC
  split
  · rename_i s
    intro o0
    show RdM.All _ (match serOf o0.c with | some (cl, cw, cv, k, x, y, z, w, p, n) => _ | none => _) _
    split
    · rename_i cl cw cv k x y z w p n hm0
      intro o1
      show RdM.All _ (match fltsFrom .f64 o1.c with | some (m, g) => _ | none => _) _
      split
      · rename_i m1 g hm1
        intro ho
        replace ho : m1 = 2 * n ∧ n ≤ 1000000 := ho
        obtain ⟨hsz1, ho⟩ := ho
        subst hsz1
        refine ⟨?_, _, _, (vc_sValid cl cw cv k x y z w p n g).mpr ?_⟩
        · refine okFlag_mk rfl ⟨?_, ⟨trivial, serOf_spec hm0 (by simp [sgSig, fsts, nth, sameN_self]), ⟨trivial, (contR_flts hm1).1, trivial⟩⟩⟩
          simp [eqvRL, eqvR, kEq_self, fkEq_self, sgSig, fsts, nth, sameN_self]
        · refine ⟨⟨0, by simp [allValid]⟩, fun i hi => ⟨fun h => ?_, fun h => ?_⟩⟩
          · have h := of_decide_eq_true h
            have e : 0 + (i : Int).toNat * 2 = 2 * i := by omega
            have hw : IntKind.i64.wrap ((i : Int) + 1) = ((i + 1 : Nat) : Int) := by rw [wrap64 (by omega) (by omega)]; omega
            rw [e, hw]
            refine ⟨by omega, by omega, fun hp => ⟨decide_eq_false fun ha => ?_, trivial⟩, fun hp => ⟨i + 1, ⟨by omega, decide_eq_true fun j hj => ?_⟩, by omega, by simp⟩⟩
            · rw [ha i (by omega)] at hp
              cases hp
            · have : j < i ∨ j = i := by omega
              rcases this with hlt | rfl
              · exact of_decide_eq_true hi.2 j hlt
              · simpa using hp
          · have h := of_decide_eq_false h
            have : i = n := by omega
            subst this
            simp [hi.2]
      · trivial
    · trivial
  · trivial
end Go.Proofs.Tryz.Sx

/- Series made of points, without an index. -/
namespace Go.Proofs.Tryz.Sx
open Go Go.Sx Go.Proofs Go.Fl Go.Geo
set_option maxRecDepth 100000

noncomputable def buildNoC : List SV → RdM
  | [.ptr s 0] => .read s fun o0 => (match serOf o0.c with
    | some (cl, cw, cv, k, x, y, z, w, p, n) => .read p fun o1 => (match fltsFrom .f64 o1.c with
    | some (m1, g) => .ret ⟨[.ptr 0 0], [(0, ⟨false, 150, serC cl cw cv k x y z w 1 n, 0⟩), (1, ⟨false, 100, .flts .f64 m1 g, 0⟩)], .tup [], [], [], some (m1 = 2 * n ∧ k = 0)⟩
    | none => .fail)
    | none => .fail)
  | _ => .fail
theorem vc_buildNo (cl cw cv : Bool) (k : Int) (x y z w : Nat) (p : Nm) (n : Nat)  (g : Nat → Nat) : runA G0 2 [] [] (codeOf Tryz.f103) (init Tryz.f103.ntmps [.ptr 0 0] [(0, ⟨false, 150, serC cl cw cv k x y z w 1 n, 0⟩), (1, ⟨false, 100, .flts .f64 (2 * n) g, 0⟩)] 2) (endK G0.E.T Tryz.f103.results.toList fun S v => postP 2 ⟨[.ptr 0 0], [(0, ⟨false, 150, serC cl cw cv k x y z w 1 n, 0⟩), (1, ⟨false, 100, .flts .f64 (2 * n) g, 0⟩)], .tup [], [], [], some (2 * n = 2 * n ∧ k = 0)⟩ S v) = (
((k == (1 : Int)) = true → False) ∧ ((k == (1 : Int)) = false → ((k == (2 : Int)) = true → False) ∧ ((k == (2 : Int)) = false → True ∧ True))) := by kernel_rfl
theorem buildNo : ConOk Tryz.prog 103 (conR buildNoC) := by
  refine con_of_vc g0 Tryz.func103 rfl (by kernel_rfl) fun args => ?_
  unfold buildNoC
  split
  · rename_i s
    intro o0
    show RdM.All _ (match serOf o0.c with | some (cl, cw, cv, k, x, y, z, w, p, n) => _ | none => _) _
    split
    · rename_i cl cw cv k x y z w p n hm0
      intro o1
      show RdM.All _ (match fltsFrom .f64 o1.c with | some (m, g) => _ | none => _) _
      split
      · rename_i m1 g hm1
        intro ho
        replace ho : m1 = 2 * n ∧ k = 0 := ho
        obtain ⟨hsz1, ho⟩ := ho
        subst hsz1
        refine ⟨?_, _, _, (vc_buildNo cl cw cv k x y z w p n g).mpr ?_⟩
        · refine okFlag_mk rfl ⟨?_, ⟨trivial, serOf_spec hm0 (by simp [sgSig, fsts, nth, sameN_self]), ⟨trivial, (contR_flts hm1).1, trivial⟩⟩⟩
          simp [eqvRL, eqvR, kEq_self, fkEq_self, sgSig, fsts, nth, sameN_self]
        · exact ⟨fun h => by simp [ho] at h, fun _ => ⟨fun h => by simp [ho] at h, fun _ => ⟨trivial, trivial⟩⟩⟩
      · trivial
    · trivial
  · trivial

noncomputable def defOptsC : List SV → RdM
  | [] => .ret ⟨[], [], .ptr 0 0, [], [(0, ⟨true, 148, .cells [.int .u8 2, .int .i64 64], 0⟩)], some (True)⟩
  | _ => .fail
theorem vc_defOpts  : runA G0 0 [] [] (codeOf Tryz.f97) (init Tryz.f97.ntmps [] [] 0) (endK G0.E.T Tryz.f97.results.toList fun S v => postP 0 ⟨[], [], .ptr 0 0, [], [(0, ⟨true, 148, .cells [.int .u8 2, .int .i64 64], 0⟩)], some (True)⟩ S v) = (
(True ∧ (0 : Nat) = (0 : Nat)) ∧ True ∧ ((148 : Nat) = (148 : Nat) ∧ (0 : Nat) = (0 : Nat) ∧ (2 : Int) = (2 : Int) ∧ (64 : Int) = (64 : Int) ∧ True) ∧ True) := by kernel_rfl
theorem defOpts : ConOk Tryz.prog 97 (conR defOptsC) := by
  refine con_of_vc g0 Tryz.func97 rfl (by kernel_rfl) fun args => ?_
  unfold defOptsC
  split
  · skip
    intro ho
    replace ho : True := ho
    refine ⟨?_, _, _, (vc_defOpts).mpr ?_⟩
    · refine okFlag_mk rfl ⟨?_, trivial⟩
      simp [eqvRL, eqvR, kEq_self, fkEq_self, sgSig, fsts, nth, sameN_self]
    · simp
  · trivial

noncomputable def GMS : Ctx := ⟨⟨tys, []⟩, [(102, conR procPC), (103, conR buildNoC), (97, conR defOptsC)]⟩
theorem gMS : CtxOk Tryz.prog GMS := ⟨⟨tysOk, FlatsOk.nil⟩, GamOk.cons procP (GamOk.cons buildNo (GamOk.cons defOpts GamOk.nil)), by kernel_rfl⟩
def optOf : Cont → Option (Int × Int)
  | .cells [.int .u8 k, .int .i64 m] => some (k, m)
  | _ => none
def optC (k m : Int) : Cont := .cells [.int .u8 k, .int .i64 m]
theorem optOf_spec {σ : Sig} {c : Cont} {k m : Int} (h : optOf c = some (k, m)) : contR σ c (optC k m) := by
  unfold optOf at h
  split at h
  · simp only [Option.some.injEq, Prod.mk.injEq] at h
    obtain ⟨rfl, rfl⟩ := h
    show eqvRL σ _ _
    simp [eqvRL, eqvR, kEq_self]
  · cases h
/-- What processPoints says of points. -/
def rectS (len : Nat) (cl : Bool) (g : Nat → Nat) (p : Nm) (k : Int) : List SV :=
  [.bool cl, .bool (ppBig len cl && fGt .f64 (cwF g len len) 0), .bool (ppBig len cl && !(dcF g len len).2), .int .u8 k, .nili, .flt .f64 (pick (ppBig len cl) (rlo g 0 len)), .flt .f64 (pick (ppBig len cl) (rlo g 1 len)), .flt .f64 (pick (ppBig len cl) (rhi g 0 len)), .flt .f64 (pick (ppBig len cl) (rhi g 1 len)), .slcc p len]

/-- By a copy of the points, with options without an index. -/
noncomputable def mkCopyC : List SV → RdM
  | [.slcc n len, .tt, v, .ptr o 0] => .read n fun o0 => (match fltsFrom .f64 o0.c with
    | some (m0, g) => .read o fun o1 => (match optOf o1.c with
    | some (k, m) => (match v.toB with
    | some cl => .ret ⟨[.slcc 0 len, .tt, .bool cl, .ptr 1 0], [(0, ⟨false, 100, .flts .f64 m0 g, 0⟩), (1, ⟨false, 148, optC k m, 0⟩)], .agg (rectS len cl g 2 0), [], [(2, ⟨true, 100, .flts .f64 (2 * len) g, 2⟩)], some (m0 = 2 * len ∧ k = 0 ∧ len ≤ 1000000 ∧ (ppBig len cl = true → ppOk g len))⟩
    | none => .fail)
    | none => .fail)
    | none => .fail)
  | _ => .fail
theorem vc_mkCopy (len : Nat) (cl : Bool) (m : Int) (k : Int)  (g : Nat → Nat) : runA GMS 2 [] [] (codeOf Tryz.f92) (init Tryz.f92.ntmps [.slcc 0 len, .tt, .bool cl, .ptr 1 0] [(0, ⟨false, 100, .flts .f64 (2 * len) g, 0⟩), (1, ⟨false, 148, optC k m, 0⟩)] 2) (endK GMS.E.T Tryz.f92.results.toList fun S v => postP 2 ⟨[.slcc 0 len, .tt, .bool cl, .ptr 1 0], [(0, ⟨false, 100, .flts .f64 (2 * len) g, 0⟩), (1, ⟨false, 148, optC k m, 0⟩)], .agg (rectS len cl g 2 0), [], [(2, ⟨true, 100, .flts .f64 (2 * len) g, 2⟩)], some (2 * len = 2 * len ∧ k = 0 ∧ len ≤ 1000000 ∧ (ppBig len cl = true → ppOk g len))⟩ S v) = (
((↑len : Int) = (↑len : Int) ∧ (0 : Int) ≤ (↑len : Int) ∧ (↑len : Int) ≤ (9223372036854775807 : Int) ∧ (↑len : Int) * (16 : Int) ≤ (140737488355328 : Int)) ∧ (len = Int.toNat (↑len : Int) ∧ Int.toNat (↑len : Int) * (2 : Nat) = Int.toNat (↑len : Int)
* (2 : Nat) ∧ (2 : Nat) * len = Int.toNat (↑len : Int) * (2 : Nat)) ∧ ((2 : Nat) * len = (2 : Nat) * len ∧ len ≤ (1000000 : Nat) ∧ (Go.Proofs.Tryz.Sx.ppBig len cl = true → Go.Proofs.Tryz.Sx.ppOk g len)) ∧ ((m != (0 : Int)) = true → (decide (m ≤ (↑len
: Int)) = true → (Int.toNat (↑len : Int) * (2 : Nat) = (2 : Nat) * Int.toNat (↑len : Int) ∧ k = (0 : Int)) ∧ (cl = cl ∧ (Go.Proofs.Tryz.Sx.ppBig len cl && Go.Sx.fGt .f64 (Go.Proofs.Tryz.Sx.cwF g len len) (0 : Nat)) = (Go.Proofs.Tryz.Sx.ppBig len cl
&& Go.Sx.fGt .f64 (Go.Proofs.Tryz.Sx.cwF g len len) (0 : Nat)) ∧ (Go.Proofs.Tryz.Sx.ppBig len cl && !Prod.snd (Go.Proofs.Tryz.Sx.dcF g len len)) = (Go.Proofs.Tryz.Sx.ppBig len cl && !Prod.snd (Go.Proofs.Tryz.Sx.dcF g len len)) ∧ k = (0 : Int) ∧ True
∧ Go.Proofs.Tryz.Sx.pick (Go.Proofs.Tryz.Sx.ppBig len cl) (Go.Proofs.Tryz.Sx.rlo g (0 : Nat) len) = Go.Proofs.Tryz.Sx.pick (Go.Proofs.Tryz.Sx.ppBig len cl) (Go.Proofs.Tryz.Sx.rlo g (0 : Nat) len) ∧ Go.Proofs.Tryz.Sx.pick (Go.Proofs.Tryz.Sx.ppBig len
cl) (Go.Proofs.Tryz.Sx.rlo g (1 : Nat) len) = Go.Proofs.Tryz.Sx.pick (Go.Proofs.Tryz.Sx.ppBig len cl) (Go.Proofs.Tryz.Sx.rlo g (1 : Nat) len) ∧ Go.Proofs.Tryz.Sx.pick (Go.Proofs.Tryz.Sx.ppBig len cl) (Go.Proofs.Tryz.Sx.rhi g (0 : Nat) len) =
Go.Proofs.Tryz.Sx.pick (Go.Proofs.Tryz.Sx.ppBig len cl) (Go.Proofs.Tryz.Sx.rhi g (0 : Nat) len) ∧ Go.Proofs.Tryz.Sx.pick (Go.Proofs.Tryz.Sx.ppBig len cl) (Go.Proofs.Tryz.Sx.rhi g (1 : Nat) len) = Go.Proofs.Tryz.Sx.pick (Go.Proofs.Tryz.Sx.ppBig len
cl) (Go.Proofs.Tryz.Sx.rhi g (1 : Nat) len) ∧ (True ∧ Int.toNat (↑len : Int) = len) ∧ True) ∧ True ∧ ((100 : Nat) = (100 : Nat) ∧ (2 : Nat) = (2 : Nat) ∧ (2 : Nat) * len ≤ Int.toNat (↑len : Int) * (2 : Nat) ∧ ∀ (i : Nat), i < (2 : Nat) * len → g i =
g i) ∧ True) ∧ (decide (m ≤ (↑len : Int)) = false → (cl = cl ∧ (Go.Proofs.Tryz.Sx.ppBig len cl && Go.Sx.fGt .f64 (Go.Proofs.Tryz.Sx.cwF g len len) (0 : Nat)) = (Go.Proofs.Tryz.Sx.ppBig len cl && Go.Sx.fGt .f64 (Go.Proofs.Tryz.Sx.cwF g len len) (0 :
Nat)) ∧ (Go.Proofs.Tryz.Sx.ppBig len cl && !Prod.snd (Go.Proofs.Tryz.Sx.dcF g len len)) = (Go.Proofs.Tryz.Sx.ppBig len cl && !Prod.snd (Go.Proofs.Tryz.Sx.dcF g len len)) ∧ (0 : Int) = (0 : Int) ∧ True ∧ Go.Proofs.Tryz.Sx.pick (Go.Proofs.Tryz.Sx.ppBig
len cl) (Go.Proofs.Tryz.Sx.rlo g (0 : Nat) len) = Go.Proofs.Tryz.Sx.pick (Go.Proofs.Tryz.Sx.ppBig len cl) (Go.Proofs.Tryz.Sx.rlo g (0 : Nat) len) ∧ Go.Proofs.Tryz.Sx.pick (Go.Proofs.Tryz.Sx.ppBig len cl) (Go.Proofs.Tryz.Sx.rlo g (1 : Nat) len) =
Go.Proofs.Tryz.Sx.pick (Go.Proofs.Tryz.Sx.ppBig len cl) (Go.Proofs.Tryz.Sx.rlo g (1 : Nat) len) ∧ Go.Proofs.Tryz.Sx.pick (Go.Proofs.Tryz.Sx.ppBig len cl) (Go.Proofs.Tryz.Sx.rhi g (0 : Nat) len) = Go.Proofs.Tryz.Sx.pick (Go.Proofs.Tryz.Sx.ppBig len
cl) (Go.Proofs.Tryz.Sx.rhi g (0 : Nat) len) ∧ Go.Proofs.Tryz.Sx.pick (Go.Proofs.Tryz.Sx.ppBig len cl) (Go.Proofs.Tryz.Sx.rhi g (1 : Nat) len) = Go.Proofs.Tryz.Sx.pick (Go.Proofs.Tryz.Sx.ppBig len cl) (Go.Proofs.Tryz.Sx.rhi g (1 : Nat) len) ∧ (True ∧
Int.toNat (↑len : Int) = len) ∧ True) ∧ True ∧ ((100 : Nat) = (100 : Nat) ∧ (2 : Nat) = (2 : Nat) ∧ (2 : Nat) * len ≤ Int.toNat (↑len : Int) * (2 : Nat) ∧ ∀ (i : Nat), i < (2 : Nat) * len → g i = g i) ∧ True)) ∧ ((m != (0 : Int)) = false → (cl = cl ∧
(Go.Proofs.Tryz.Sx.ppBig len cl && Go.Sx.fGt .f64 (Go.Proofs.Tryz.Sx.cwF g len len) (0 : Nat)) = (Go.Proofs.Tryz.Sx.ppBig len cl && Go.Sx.fGt .f64 (Go.Proofs.Tryz.Sx.cwF g len len) (0 : Nat)) ∧ (Go.Proofs.Tryz.Sx.ppBig len cl && !Prod.snd
(Go.Proofs.Tryz.Sx.dcF g len len)) = (Go.Proofs.Tryz.Sx.ppBig len cl && !Prod.snd (Go.Proofs.Tryz.Sx.dcF g len len)) ∧ (0 : Int) = (0 : Int) ∧ True ∧ Go.Proofs.Tryz.Sx.pick (Go.Proofs.Tryz.Sx.ppBig len cl) (Go.Proofs.Tryz.Sx.rlo g (0 : Nat) len) =
Go.Proofs.Tryz.Sx.pick (Go.Proofs.Tryz.Sx.ppBig len cl) (Go.Proofs.Tryz.Sx.rlo g (0 : Nat) len) ∧ Go.Proofs.Tryz.Sx.pick (Go.Proofs.Tryz.Sx.ppBig len cl) (Go.Proofs.Tryz.Sx.rlo g (1 : Nat) len) = Go.Proofs.Tryz.Sx.pick (Go.Proofs.Tryz.Sx.ppBig len
cl) (Go.Proofs.Tryz.Sx.rlo g (1 : Nat) len) ∧ Go.Proofs.Tryz.Sx.pick (Go.Proofs.Tryz.Sx.ppBig len cl) (Go.Proofs.Tryz.Sx.rhi g (0 : Nat) len) = Go.Proofs.Tryz.Sx.pick (Go.Proofs.Tryz.Sx.ppBig len cl) (Go.Proofs.Tryz.Sx.rhi g (0 : Nat) len) ∧
Go.Proofs.Tryz.Sx.pick (Go.Proofs.Tryz.Sx.ppBig len cl) (Go.Proofs.Tryz.Sx.rhi g (1 : Nat) len) = Go.Proofs.Tryz.Sx.pick (Go.Proofs.Tryz.Sx.ppBig len cl) (Go.Proofs.Tryz.Sx.rhi g (1 : Nat) len) ∧ (True ∧ Int.toNat (↑len : Int) = len) ∧ True) ∧ True ∧
((100 : Nat) = (100 : Nat) ∧ (2 : Nat) = (2 : Nat) ∧ (2 : Nat) * len ≤ Int.toNat (↑len : Int) * (2 : Nat) ∧ ∀ (i : Nat), i < (2 : Nat) * len → g i = g i) ∧ True)) := by kernel_rfl
theorem mkCopy : ConOk Tryz.prog 92 (conR mkCopyC) := by
  refine con_of_vc gMS Tryz.func92 rfl (by kernel_rfl) fun args => ?_
  unfold mkCopyC
  split
  · rename_i n len v o
    intro o0
    show RdM.All _ (match fltsFrom .f64 o0.c with | some (m, g) => _ | none => _) _
    split
    · rename_i m0 g hm0
      intro o1
      show RdM.All _ (match optOf o1.c with | some (k, m) => _ | none => _) _
      split
      · rename_i k m hm1
        show RdM.All _ (match v.toB with | some b => _ | none => _) _
        split
        · rename_i cl hcl
          intro ho
          replace ho : m0 = 2 * len ∧ k = 0 ∧ len ≤ 1000000 ∧ (ppBig len cl = true → ppOk g len) := ho
          obtain ⟨hsz0, ho⟩ := ho
          subst hsz0
          refine ⟨?_, _, _, (vc_mkCopy len cl m k g).mpr ?_⟩
          · refine okFlag_mk rfl ⟨?_, ⟨trivial, (contR_flts hm0).1, ⟨trivial, optOf_spec hm1, trivial⟩⟩⟩
            simp [eqvRL, eqvR, kEq_self, fkEq_self, sgSig, fsts, nth, sameN_self, toB_eqvR hcl]
          · obtain ⟨hk, hl, hok⟩ := ho
            have e : len * 2 = 2 * len := by omega
            have l1 : (0 : Int) ≤ len := by omega
            have l2 : (len : Int) ≤ 9223372036854775807 := by omega
            have l3 : (len : Int) * 16 ≤ 140737488355328 := by omega
            subst hk
            simp [e, l1, l2, l3, hl]
            exact hok
        · trivial
      · trivial
    · trivial
  · trivial

/-- Without a copy, with no options: fewer than 64 points. -/
noncomputable def mkKeepC : List SV → RdM
  | [.slcc n len, .ff, v, .nilp] => .read n fun o0 => (match fltsFrom .f64 o0.c with
    | some (m0, g) => (match v.toB with
    | some cl => .ret ⟨[.slcc 0 len, .ff, .bool cl, .nilp], [(0, ⟨false, 100, .flts .f64 m0 g, 0⟩)], .agg (rectS len cl g 0 0), [], [], some (m0 = 2 * len ∧ len < 64 ∧ (ppBig len cl = true → ppOk g len))⟩
    | none => .fail)
    | none => .fail)
  | _ => .fail
theorem vc_mkKeep (len : Nat) (cl : Bool)  (g : Nat → Nat) : runA GMS 1 [] [] (codeOf Tryz.f92) (init Tryz.f92.ntmps [.slcc 0 len, .ff, .bool cl, .nilp] [(0, ⟨false, 100, .flts .f64 (2 * len) g, 0⟩)] 1) (endK GMS.E.T Tryz.f92.results.toList fun S v => postP 1 ⟨[.slcc 0 len, .ff, .bool cl, .nilp], [(0, ⟨false, 100, .flts .f64 (2 * len) g, 0⟩)], .agg (rectS len cl g 0 0), [], [], some (2 * len = 2 * len ∧ len < 64 ∧ (ppBig len cl = true → ppOk g len))⟩ S v) = (
True ∧ ((2 : Nat) * len = (2 : Nat) * len ∧ len ≤ (1000000 : Nat) ∧ (Go.Proofs.Tryz.Sx.ppBig len cl = true → Go.Proofs.Tryz.Sx.ppOk g len)) ∧ (true = true → (decide ((64 : Int) ≤ (↑len : Int)) = true → ((2 : Nat) * len = (2 : Nat) * len ∧ (2 : Int) =
(0 : Int)) ∧ (cl = cl ∧ (Go.Proofs.Tryz.Sx.ppBig len cl && Go.Sx.fGt .f64 (Go.Proofs.Tryz.Sx.cwF g len len) (0 : Nat)) = (Go.Proofs.Tryz.Sx.ppBig len cl && Go.Sx.fGt .f64 (Go.Proofs.Tryz.Sx.cwF g len len) (0 : Nat)) ∧ (Go.Proofs.Tryz.Sx.ppBig len cl
&& !Prod.snd (Go.Proofs.Tryz.Sx.dcF g len len)) = (Go.Proofs.Tryz.Sx.ppBig len cl && !Prod.snd (Go.Proofs.Tryz.Sx.dcF g len len)) ∧ (2 : Int) = (0 : Int) ∧ True ∧ Go.Proofs.Tryz.Sx.pick (Go.Proofs.Tryz.Sx.ppBig len cl) (Go.Proofs.Tryz.Sx.rlo g (0 :
Nat) len) = Go.Proofs.Tryz.Sx.pick (Go.Proofs.Tryz.Sx.ppBig len cl) (Go.Proofs.Tryz.Sx.rlo g (0 : Nat) len) ∧ Go.Proofs.Tryz.Sx.pick (Go.Proofs.Tryz.Sx.ppBig len cl) (Go.Proofs.Tryz.Sx.rlo g (1 : Nat) len) = Go.Proofs.Tryz.Sx.pick
(Go.Proofs.Tryz.Sx.ppBig len cl) (Go.Proofs.Tryz.Sx.rlo g (1 : Nat) len) ∧ Go.Proofs.Tryz.Sx.pick (Go.Proofs.Tryz.Sx.ppBig len cl) (Go.Proofs.Tryz.Sx.rhi g (0 : Nat) len) = Go.Proofs.Tryz.Sx.pick (Go.Proofs.Tryz.Sx.ppBig len cl)
(Go.Proofs.Tryz.Sx.rhi g (0 : Nat) len) ∧ Go.Proofs.Tryz.Sx.pick (Go.Proofs.Tryz.Sx.ppBig len cl) (Go.Proofs.Tryz.Sx.rhi g (1 : Nat) len) = Go.Proofs.Tryz.Sx.pick (Go.Proofs.Tryz.Sx.ppBig len cl) (Go.Proofs.Tryz.Sx.rhi g (1 : Nat) len) ∧ (True ∧ len
= len) ∧ True) ∧ True) ∧ (decide ((64 : Int) ≤ (↑len : Int)) = false → (cl = cl ∧ (Go.Proofs.Tryz.Sx.ppBig len cl && Go.Sx.fGt .f64 (Go.Proofs.Tryz.Sx.cwF g len len) (0 : Nat)) = (Go.Proofs.Tryz.Sx.ppBig len cl && Go.Sx.fGt .f64
(Go.Proofs.Tryz.Sx.cwF g len len) (0 : Nat)) ∧ (Go.Proofs.Tryz.Sx.ppBig len cl && !Prod.snd (Go.Proofs.Tryz.Sx.dcF g len len)) = (Go.Proofs.Tryz.Sx.ppBig len cl && !Prod.snd (Go.Proofs.Tryz.Sx.dcF g len len)) ∧ (0 : Int) = (0 : Int) ∧ True ∧
Go.Proofs.Tryz.Sx.pick (Go.Proofs.Tryz.Sx.ppBig len cl) (Go.Proofs.Tryz.Sx.rlo g (0 : Nat) len) = Go.Proofs.Tryz.Sx.pick (Go.Proofs.Tryz.Sx.ppBig len cl) (Go.Proofs.Tryz.Sx.rlo g (0 : Nat) len) ∧ Go.Proofs.Tryz.Sx.pick (Go.Proofs.Tryz.Sx.ppBig len
cl) (Go.Proofs.Tryz.Sx.rlo g (1 : Nat) len) = Go.Proofs.Tryz.Sx.pick (Go.Proofs.Tryz.Sx.ppBig len cl) (Go.Proofs.Tryz.Sx.rlo g (1 : Nat) len) ∧ Go.Proofs.Tryz.Sx.pick (Go.Proofs.Tryz.Sx.ppBig len cl) (Go.Proofs.Tryz.Sx.rhi g (0 : Nat) len) =
Go.Proofs.Tryz.Sx.pick (Go.Proofs.Tryz.Sx.ppBig len cl) (Go.Proofs.Tryz.Sx.rhi g (0 : Nat) len) ∧ Go.Proofs.Tryz.Sx.pick (Go.Proofs.Tryz.Sx.ppBig len cl) (Go.Proofs.Tryz.Sx.rhi g (1 : Nat) len) = Go.Proofs.Tryz.Sx.pick (Go.Proofs.Tryz.Sx.ppBig len
cl) (Go.Proofs.Tryz.Sx.rhi g (1 : Nat) len) ∧ (True ∧ len = len) ∧ True) ∧ True)) ∧ (true = false → (cl = cl ∧ (Go.Proofs.Tryz.Sx.ppBig len cl && Go.Sx.fGt .f64 (Go.Proofs.Tryz.Sx.cwF g len len) (0 : Nat)) = (Go.Proofs.Tryz.Sx.ppBig len cl &&
Go.Sx.fGt .f64 (Go.Proofs.Tryz.Sx.cwF g len len) (0 : Nat)) ∧ (Go.Proofs.Tryz.Sx.ppBig len cl && !Prod.snd (Go.Proofs.Tryz.Sx.dcF g len len)) = (Go.Proofs.Tryz.Sx.ppBig len cl && !Prod.snd (Go.Proofs.Tryz.Sx.dcF g len len)) ∧ (0 : Int) = (0 : Int) ∧
True ∧ Go.Proofs.Tryz.Sx.pick (Go.Proofs.Tryz.Sx.ppBig len cl) (Go.Proofs.Tryz.Sx.rlo g (0 : Nat) len) = Go.Proofs.Tryz.Sx.pick (Go.Proofs.Tryz.Sx.ppBig len cl) (Go.Proofs.Tryz.Sx.rlo g (0 : Nat) len) ∧ Go.Proofs.Tryz.Sx.pick (Go.Proofs.Tryz.Sx.ppBig
len cl) (Go.Proofs.Tryz.Sx.rlo g (1 : Nat) len) = Go.Proofs.Tryz.Sx.pick (Go.Proofs.Tryz.Sx.ppBig len cl) (Go.Proofs.Tryz.Sx.rlo g (1 : Nat) len) ∧ Go.Proofs.Tryz.Sx.pick (Go.Proofs.Tryz.Sx.ppBig len cl) (Go.Proofs.Tryz.Sx.rhi g (0 : Nat) len) =
Go.Proofs.Tryz.Sx.pick (Go.Proofs.Tryz.Sx.ppBig len cl) (Go.Proofs.Tryz.Sx.rhi g (0 : Nat) len) ∧ Go.Proofs.Tryz.Sx.pick (Go.Proofs.Tryz.Sx.ppBig len cl) (Go.Proofs.Tryz.Sx.rhi g (1 : Nat) len) = Go.Proofs.Tryz.Sx.pick (Go.Proofs.Tryz.Sx.ppBig len
cl) (Go.Proofs.Tryz.Sx.rhi g (1 : Nat) len) ∧ (True ∧ len = len) ∧ True) ∧ True)) := by kernel_rfl
theorem mkKeep : ConOk Tryz.prog 92 (conR mkKeepC) := by
  refine con_of_vc gMS Tryz.func92 rfl (by kernel_rfl) fun args => ?_
  unfold mkKeepC
  split
  · rename_i n len v
    intro o0
    show RdM.All _ (match fltsFrom .f64 o0.c with | some (m, g) => _ | none => _) _
    split
    · rename_i m0 g hm0
      show RdM.All _ (match v.toB with | some b => _ | none => _) _
      split
      · rename_i cl hcl
        intro ho
        replace ho : m0 = 2 * len ∧ len < 64 ∧ (ppBig len cl = true → ppOk g len) := ho
        obtain ⟨hsz0, ho⟩ := ho
        subst hsz0
        refine ⟨?_, _, _, (vc_mkKeep len cl g).mpr ?_⟩
        · refine okFlag_mk rfl ⟨?_, ⟨trivial, (contR_flts hm0).1, trivial⟩⟩
          simp [eqvRL, eqvR, kEq_self, fkEq_self, sgSig, fsts, nth, sameN_self, toB_eqvR hcl]
        · obtain ⟨hl, hok⟩ := ho
          have l4 : len ≤ 1000000 := by omega
          have l5 : ¬ (64 : Int) ≤ len := by omega
          simp [l4, l5]
          exact hok
      · trivial
    · trivial
  · trivial

noncomputable def GNL : Ctx := ⟨⟨tys, []⟩, [(92, conR mkCopyC)]⟩
theorem gNL : CtxOk Tryz.prog GNL := ⟨⟨tysOk, FlatsOk.nil⟩, GamOk.cons mkCopy GamOk.nil, by kernel_rfl⟩
noncomputable def newLineC : List SV → RdM
  | [.slcc n len, .ptr o 0] => .read n fun o0 => (match fltsFrom .f64 o0.c with
    | some (m0, g) => .read o fun o1 => (match optOf o1.c with
    | some (k, m) => .ret ⟨[.slcc 0 len, .ptr 1 0], [(0, ⟨false, 100, .flts .f64 m0 g, 0⟩), (1, ⟨false, 148, optC k m, 0⟩)], .ptr 2 0, [], [(2, ⟨true, 152, .cells (rectS len false g 3 0), 0⟩), (3, ⟨true, 100, .flts .f64 (2 * len) g, 2⟩)], some (m0 = 2 * len ∧ k = 0 ∧ len ≤ 1000000 ∧ (ppBig len false = true → ppOk g len))⟩
    | none => .fail)
    | none => .fail)
  | _ => .fail
theorem vc_newLine (len : Nat) (m : Int) (k : Int)  (g : Nat → Nat) : runA GNL 2 [] [] (codeOf Tryz.f73) (init Tryz.f73.ntmps [.slcc 0 len, .ptr 1 0] [(0, ⟨false, 100, .flts .f64 (2 * len) g, 0⟩), (1, ⟨false, 148, optC k m, 0⟩)] 2) (endK GNL.E.T Tryz.f73.results.toList fun S v => postP 2 ⟨[.slcc 0 len, .ptr 1 0], [(0, ⟨false, 100, .flts .f64 (2 * len) g, 0⟩), (1, ⟨false, 148, optC k m, 0⟩)], .ptr 2 0, [], [(2, ⟨true, 152, .cells (rectS len false g 3 0), 0⟩), (3, ⟨true, 100, .flts .f64 (2 * len) g, 2⟩)], some (2 * len = 2 * len ∧ k = 0 ∧ len ≤ 1000000 ∧ (ppBig len false = true → ppOk g len))⟩ S v) = (
((2 : Nat) * len = (2 : Nat) * len ∧ k = (0 : Int) ∧ len ≤ (1000000 : Nat) ∧ (Go.Proofs.Tryz.Sx.ppBig len false = true → Go.Proofs.Tryz.Sx.ppOk g len)) ∧ (True ∧ (0 : Nat) = (0 : Nat)) ∧ True ∧ ((152 : Nat) = (152 : Nat) ∧ (0 : Nat) = (0 : Nat) ∧
false = false ∧ (Go.Proofs.Tryz.Sx.ppBig len false && Go.Sx.fGt .f64 (Go.Proofs.Tryz.Sx.cwF g len len) (0 : Nat)) = (Go.Proofs.Tryz.Sx.ppBig len false && Go.Sx.fGt .f64 (Go.Proofs.Tryz.Sx.cwF g len len) (0 : Nat)) ∧ (Go.Proofs.Tryz.Sx.ppBig len false
&& !Prod.snd (Go.Proofs.Tryz.Sx.dcF g len len)) = (Go.Proofs.Tryz.Sx.ppBig len false && !Prod.snd (Go.Proofs.Tryz.Sx.dcF g len len)) ∧ (0 : Int) = (0 : Int) ∧ True ∧ Go.Proofs.Tryz.Sx.pick (Go.Proofs.Tryz.Sx.ppBig len false) (Go.Proofs.Tryz.Sx.rlo g
(0 : Nat) len) = Go.Proofs.Tryz.Sx.pick (Go.Proofs.Tryz.Sx.ppBig len false) (Go.Proofs.Tryz.Sx.rlo g (0 : Nat) len) ∧ Go.Proofs.Tryz.Sx.pick (Go.Proofs.Tryz.Sx.ppBig len false) (Go.Proofs.Tryz.Sx.rlo g (1 : Nat) len) = Go.Proofs.Tryz.Sx.pick
(Go.Proofs.Tryz.Sx.ppBig len false) (Go.Proofs.Tryz.Sx.rlo g (1 : Nat) len) ∧ Go.Proofs.Tryz.Sx.pick (Go.Proofs.Tryz.Sx.ppBig len false) (Go.Proofs.Tryz.Sx.rhi g (0 : Nat) len) = Go.Proofs.Tryz.Sx.pick (Go.Proofs.Tryz.Sx.ppBig len false)
(Go.Proofs.Tryz.Sx.rhi g (0 : Nat) len) ∧ Go.Proofs.Tryz.Sx.pick (Go.Proofs.Tryz.Sx.ppBig len false) (Go.Proofs.Tryz.Sx.rhi g (1 : Nat) len) = Go.Proofs.Tryz.Sx.pick (Go.Proofs.Tryz.Sx.ppBig len false) (Go.Proofs.Tryz.Sx.rhi g (1 : Nat) len) ∧ (True
∧ len = len) ∧ True) ∧ True ∧ ((100 : Nat) = (100 : Nat) ∧ (2 : Nat) = (2 : Nat) ∧ (2 : Nat) * len ≤ (2 : Nat) * len ∧ ∀ (i : Nat), i < (2 : Nat) * len → g i = g i) ∧ True) := by kernel_rfl
theorem newLine : ConOk Tryz.prog 73 (conR newLineC) := by
  refine con_of_vc gNL Tryz.func73 rfl (by kernel_rfl) fun args => ?_
  unfold newLineC
  split
  · rename_i n len o
    intro o0
    show RdM.All _ (match fltsFrom .f64 o0.c with | some (m, g) => _ | none => _) _
    split
    · rename_i m0 g hm0
      intro o1
      show RdM.All _ (match optOf o1.c with | some (k, m) => _ | none => _) _
      split
      · rename_i k m hm1
        intro ho
        replace ho : m0 = 2 * len ∧ k = 0 ∧ len ≤ 1000000 ∧ (ppBig len false = true → ppOk g len) := ho
        obtain ⟨hsz0, ho⟩ := ho
        subst hsz0
        refine ⟨?_, _, _, (vc_newLine len m k g).mpr ?_⟩
        · refine okFlag_mk rfl ⟨?_, ⟨trivial, (contR_flts hm0).1, ⟨trivial, optOf_spec hm1, trivial⟩⟩⟩
          simp [eqvRL, eqvR, kEq_self, fkEq_self, sgSig, fsts, nth, sameN_self]
        · obtain ⟨hk, hl, hok⟩ := ho
          simp [hk, hl]
          exact hok
      · trivial
    · trivial
  · trivial
end Go.Proofs.Tryz.Sx

/- Series, moved. -/
namespace Go.Proofs.Tryz.Sx
open Go Go.Sx Go.Proofs Go.Fl Go.Geo
set_option maxRecDepth 100000

def mvd (g : Nat → Nat) (dx dy : Nat) (j : Nat) : Nat := fop .add .f64 (g j) (if j % 2 = 0 then dx else dy)
/-- The first i points moved. -/
def mvI (g : Nat → Nat) (dx dy i : Nat) : Nat → Nat := fun j => if j < 2 * i then mvd g dx dy j else 0
noncomputable def GMV : Ctx := ⟨⟨tys, []⟩, [(92, conR mkKeepC), (105, conR sIdxC), (103, conR buildNoC)]⟩
theorem gMV : CtxOk Tryz.prog GMV := ⟨⟨tysOk, FlatsOk.nil⟩, GamOk.cons mkKeep (GamOk.cons sIdx (GamOk.cons buildNo GamOk.nil)), by kernel_rfl⟩
def mvL (cl cw cv : Bool) (k : Int) (x y z w n : Nat) (dx dy : Nat) (g : Nat → Nat) : Fam := ⟨Nat, fun i =>
  ⟨69, [(0, .ptr 0 0), (1, .flt .f64 dx), (2, .flt .f64 dy), (7, .slcc 2 n), (8, .int .i64 i)], [(0, ⟨false, 150, serC cl cw cv k x y z w 1 n, 0⟩), (1, ⟨false, 100, .flts .f64 (2 * n) g, 0⟩), (2, ⟨true, 100, .flts .f64 (2 * n) (mvI g dx dy i), 2⟩)], 3⟩, fun i => i ≤ n, fun i => n - i⟩

theorem mv_step (g : Nat → Nat) (dx dy i j : Nat) : upd (upd (mvI g dx dy i) (2 * i) (fop .add .f64 (g (2 * i)) dx)) (2 * i + 1) (fop .add .f64 (g (2 * i + 1)) dy) j = mvI g dx dy (i + 1) j := by
  have h : j = 2 * i + 1 ∨ j = 2 * i ∨ (j < 2 * i) ∨ (2 * i + 1 < j) := by omega
  unfold upd mvI
  rcases h with rfl | rfl | h | h
  · rw [if_pos rfl, if_pos (by omega)]
    unfold mvd
    rw [if_neg (show ¬ (2 * i + 1) % 2 = 0 by omega)]
  · rw [if_neg (by omega), if_pos rfl, if_pos (by omega)]
    unfold mvd
    rw [if_pos (show (2 * i) % 2 = 0 by omega)]
  · rw [if_neg (by omega), if_neg (by omega), if_pos h, if_pos (by omega)]
  · rw [if_neg (by omega), if_neg (by omega), if_neg (by omega), if_neg (by omega)]

noncomputable def sMoveC : List SV → RdM
  | [.ptr s 0, .flt .f64 dx, .flt .f64 dy] => .read s fun o0 => (match serOf o0.c with
    | some (cl, cw, cv, k, x, y, z, w, p, n) => .read p fun o1 => (match fltsFrom .f64 o1.c with
    | some (m1, g) => .ret ⟨[.ptr 0 0, .flt .f64 dx, .flt .f64 dy], [(0, ⟨false, 150, serC cl cw cv k x y z w 1 n, 0⟩), (1, ⟨false, 100, .flts .f64 m1 g, 0⟩)], .ifc 157 (.ptr 2 0), [], [(2, ⟨true, 150, .cells (rectS n cl (mvI g dx dy n) 3 k), 0⟩), (3, ⟨true, 100, .flts .f64 (2 * n) (mvI g dx dy n), 2⟩)], some (m1 = 2 * n ∧ n < 64 ∧ (∀ j, j < 2 * n → fok .add .f64 (g j) (if j % 2 = 0 then dx else dy)) ∧ (ppBig n cl = true → ppOk (mvI g dx dy n) n))⟩
    | none => .fail)
    | none => .fail)
  | _ => .fail
theorem vc_sMove (cl cw cv : Bool) (k : Int) (x y z w : Nat) (p : Nm) (n : Nat) (dx dy : Nat)  (g : Nat → Nat) : runA GMV 2 [(3, mvL cl cw cv k x y z w n dx dy g)] [] (codeOf Tryz.f95) (init Tryz.f95.ntmps [.ptr 0 0, .flt .f64 dx, .flt .f64 dy] [(0, ⟨false, 150, serC cl cw cv k x y z w 1 n, 0⟩), (1, ⟨false, 100, .flts .f64 (2 * n) g, 0⟩)] 2) (endK GMV.E.T Tryz.f95.results.toList fun S v => postP 2 ⟨[.ptr 0 0, .flt .f64 dx, .flt .f64 dy], [(0, ⟨false, 150, serC cl cw cv k x y z w 1 n, 0⟩), (1, ⟨false, 100, .flts .f64 (2 * n) g, 0⟩)], .ifc 157 (.ptr 2 0), [], [(2, ⟨true, 150, .cells (rectS n cl (mvI g dx dy n) 3 k), 0⟩), (3, ⟨true, 100, .flts .f64 (2 * n) (mvI g dx dy n), 2⟩)], some (2 * n = 2 * n ∧ n < 64 ∧ (∀ j, j < 2 * n → fok .add .f64 (g j) (if j % 2 = 0 then dx else dy)) ∧ (ppBig n cl = true → ppOk (mvI g dx dy n) n))⟩ S v) = (
((↑n : Int) = (↑n : Int) ∧ (0 : Int) ≤ (↑n : Int) ∧ (↑n : Int) ≤ (9223372036854775807 : Int) ∧ (↑n : Int) * (16 : Int) ≤ (140737488355328 : Int)) ∧ (∃ (i : Nat), i ≤ n ∧ ((True ∧ (0 : Nat) = (0 : Nat)) ∧ dx = dx ∧ dy = dy ∧ (True ∧ Int.toNat (↑n :
Int) = n) ∧ (0 : Int) = (↑i : Int) ∧ True) ∧ True ∧ (cl = cl ∧ cw = cw ∧ cv = cv ∧ k = k ∧ True ∧ x = x ∧ y = y ∧ z = z ∧ w = w ∧ (True ∧ n = n) ∧ True) ∧ True ∧ ((2 : Nat) * n ≤ (2 : Nat) * n ∧ ∀ (i : Nat), i < (2 : Nat) * n → g i = g i) ∧ True ∧
((100 : Nat) = (100 : Nat) ∧ (2 : Nat) = (2 : Nat) ∧ (2 : Nat) * n ≤ Int.toNat (↑n : Int) * (2 : Nat) ∧ ∀ (i_1 : Nat), i_1 < (2 : Nat) * n → (0 : Nat) = Go.Proofs.Tryz.Sx.mvI g dx dy i i_1) ∧ True) ∧ ∀ (i : Nat), i ≤ n → (decide ((↑i : Int) < (↑n :
Int)) = true → (((0 : Int) ≤ (↑i : Int) ∧ (↑i : Int) < (↑n : Int)) ∧ (1 : Nat) ≤ (2 : Nat) * n) ∧ (0 : Nat) < (2 : Nat) * n ∧ (0 : Nat) + Int.toNat (↑i : Int) * (2 : Nat) + (0 : Nat) + (1 : Nat) ≤ (2 : Nat) * n ∧ Go.Sx.fok BinOp.add .f64 (g ((0 :
Nat) + Int.toNat (↑i : Int) * (2 : Nat) + (0 : Nat))) dx ∧ (((0 : Int) ≤ (↑i : Int) ∧ (↑i : Int) < (↑n : Int)) ∧ (1 : Nat) ≤ (2 : Nat) * n) ∧ (0 : Nat) < (2 : Nat) * n ∧ (0 : Nat) + Int.toNat (↑i : Int) * (2 : Nat) + (0 : Nat) + (1 : Nat) ≤ (2 : Nat)
* n ∧ (((0 : Int) ≤ (↑i : Int) ∧ (↑i : Int) < (↑n : Int)) ∧ (1 : Nat) ≤ (2 : Nat) * n) ∧ (0 : Nat) < (2 : Nat) * n ∧ (0 : Nat) + Int.toNat (↑i : Int) * (2 : Nat) + (1 : Nat) + (1 : Nat) ≤ (2 : Nat) * n ∧ Go.Sx.fok BinOp.add .f64 (g ((0 : Nat) +
Int.toNat (↑i : Int) * (2 : Nat) + (1 : Nat))) dy ∧ (((0 : Int) ≤ (↑i : Int) ∧ (↑i : Int) < (↑n : Int)) ∧ (1 : Nat) ≤ (2 : Nat) * n) ∧ (0 : Nat) < (2 : Nat) * n ∧ (0 : Nat) + Int.toNat (↑i : Int) * (2 : Nat) + (1 : Nat) + (1 : Nat) ≤ (2 : Nat) * n ∧
∃ (i' : Nat), i' ≤ n ∧ n - i' < n - i ∧ ((True ∧ (0 : Nat) = (0 : Nat)) ∧ dx = dx ∧ dy = dy ∧ (True ∧ n = n) ∧ Go.IntKind.wrap .i64 ((↑i : Int) + (1 : Int)) = (↑i' : Int) ∧ True) ∧ True ∧ (cl = cl ∧ cw = cw ∧ cv = cv ∧ k = k ∧ True ∧ x = x ∧ y = y ∧
z = z ∧ w = w ∧ (True ∧ n = n) ∧ True) ∧ True ∧ ((2 : Nat) * n ≤ (2 : Nat) * n ∧ ∀ (i : Nat), i < (2 : Nat) * n → g i = g i) ∧ True ∧ ((100 : Nat) = (100 : Nat) ∧ (2 : Nat) = (2 : Nat) ∧ (2 : Nat) * n ≤ (2 : Nat) * n ∧ ∀ (i_1 : Nat), i_1 < (2 : Nat)
* n → Go.Sx.upd (Go.Sx.upd (Go.Proofs.Tryz.Sx.mvI g dx dy i) ((0 : Nat) + Int.toNat (↑i : Int) * (2 : Nat) + (0 : Nat)) (Go.Sx.fop BinOp.add .f64 (g ((0 : Nat) + Int.toNat (↑i : Int) * (2 : Nat) + (0 : Nat))) dx)) ((0 : Nat) + Int.toNat (↑i : Int) *
(2 : Nat) + (1 : Nat)) (Go.Sx.fop BinOp.add .f64 (g ((0 : Nat) + Int.toNat (↑i : Int) * (2 : Nat) + (1 : Nat))) dy) i_1 = Go.Proofs.Tryz.Sx.mvI g dx dy i' i_1) ∧ True) ∧ (decide ((↑i : Int) < (↑n : Int)) = false → ((2 : Nat) * n = (2 : Nat) * n ∧ n <
(64 : Nat) ∧ (Go.Proofs.Tryz.Sx.ppBig n cl = true → Go.Proofs.Tryz.Sx.ppOk (Go.Proofs.Tryz.Sx.mvI g dx dy i) n)) ∧ ((2 : Nat) * n = (2 : Nat) * n ∧ True) ∧ (True ∧ (0 : Nat) = (0 : Nat)) ∧ True ∧ ((150 : Nat) = (150 : Nat) ∧ (0 : Nat) = (0 : Nat) ∧
cl = cl ∧ (Go.Proofs.Tryz.Sx.ppBig n cl && Go.Sx.fGt .f64 (Go.Proofs.Tryz.Sx.cwF (Go.Proofs.Tryz.Sx.mvI g dx dy i) n n) (0 : Nat)) = (Go.Proofs.Tryz.Sx.ppBig n cl && Go.Sx.fGt .f64 (Go.Proofs.Tryz.Sx.cwF (Go.Proofs.Tryz.Sx.mvI g dx dy n) n n) (0 :
Nat)) ∧ (Go.Proofs.Tryz.Sx.ppBig n cl && !Prod.snd (Go.Proofs.Tryz.Sx.dcF (Go.Proofs.Tryz.Sx.mvI g dx dy i) n n)) = (Go.Proofs.Tryz.Sx.ppBig n cl && !Prod.snd (Go.Proofs.Tryz.Sx.dcF (Go.Proofs.Tryz.Sx.mvI g dx dy n) n n)) ∧ k = k ∧ True ∧
Go.Proofs.Tryz.Sx.pick (Go.Proofs.Tryz.Sx.ppBig n cl) (Go.Proofs.Tryz.Sx.rlo (Go.Proofs.Tryz.Sx.mvI g dx dy i) (0 : Nat) n) = Go.Proofs.Tryz.Sx.pick (Go.Proofs.Tryz.Sx.ppBig n cl) (Go.Proofs.Tryz.Sx.rlo (Go.Proofs.Tryz.Sx.mvI g dx dy n) (0 : Nat) n)
∧ Go.Proofs.Tryz.Sx.pick (Go.Proofs.Tryz.Sx.ppBig n cl) (Go.Proofs.Tryz.Sx.rlo (Go.Proofs.Tryz.Sx.mvI g dx dy i) (1 : Nat) n) = Go.Proofs.Tryz.Sx.pick (Go.Proofs.Tryz.Sx.ppBig n cl) (Go.Proofs.Tryz.Sx.rlo (Go.Proofs.Tryz.Sx.mvI g dx dy n) (1 : Nat)
n) ∧ Go.Proofs.Tryz.Sx.pick (Go.Proofs.Tryz.Sx.ppBig n cl) (Go.Proofs.Tryz.Sx.rhi (Go.Proofs.Tryz.Sx.mvI g dx dy i) (0 : Nat) n) = Go.Proofs.Tryz.Sx.pick (Go.Proofs.Tryz.Sx.ppBig n cl) (Go.Proofs.Tryz.Sx.rhi (Go.Proofs.Tryz.Sx.mvI g dx dy n) (0 :
Nat) n) ∧ Go.Proofs.Tryz.Sx.pick (Go.Proofs.Tryz.Sx.ppBig n cl) (Go.Proofs.Tryz.Sx.rhi (Go.Proofs.Tryz.Sx.mvI g dx dy i) (1 : Nat) n) = Go.Proofs.Tryz.Sx.pick (Go.Proofs.Tryz.Sx.ppBig n cl) (Go.Proofs.Tryz.Sx.rhi (Go.Proofs.Tryz.Sx.mvI g dx dy n) (1
: Nat) n) ∧ (True ∧ n = n) ∧ True) ∧ True ∧ ((100 : Nat) = (100 : Nat) ∧ (2 : Nat) = (2 : Nat) ∧ (2 : Nat) * n ≤ (2 : Nat) * n ∧ ∀ (i_1 : Nat), i_1 < (2 : Nat) * n → Go.Proofs.Tryz.Sx.mvI g dx dy i i_1 = Go.Proofs.Tryz.Sx.mvI g dx dy n i_1) ∧ True)) := by kernel_rfl
theorem sMove : ConOk Tryz.prog 95 (conR sMoveC) := by
  refine con_of_vc gMV Tryz.func95 rfl (by kernel_rfl) fun args => ?_
  unfold sMoveC
  split
  · rename_i s dx dy
    intro o0
    show RdM.All _ (match serOf o0.c with | some (cl, cw, cv, k, x, y, z, w, p, n) => _ | none => _) _
    split
    · rename_i cl cw cv k x y z w p n hm0
      intro o1
      show RdM.All _ (match fltsFrom .f64 o1.c with | some (m, g) => _ | none => _) _
      split
      · rename_i m1 g hm1
        intro ho
        replace ho : m1 = 2 * n ∧ n < 64 ∧ (∀ j, j < 2 * n → fok .add .f64 (g j) (if j % 2 = 0 then dx else dy)) ∧ (ppBig n cl = true → ppOk (mvI g dx dy n) n) := ho
        obtain ⟨hsz1, ho⟩ := ho
        subst hsz1
        refine ⟨?_, _, _, (vc_sMove cl cw cv k x y z w p n dx dy g).mpr ?_⟩
        · refine okFlag_mk rfl ⟨?_, ⟨trivial, serOf_spec hm0 (by simp [sgSig, fsts, nth, sameN_self]), ⟨trivial, (contR_flts hm1).1, trivial⟩⟩⟩
          simp [eqvRL, eqvR, kEq_self, fkEq_self, sgSig, fsts, nth, sameN_self]
        · obtain ⟨hn, hf, hok⟩ := ho
          have l2 : (n : Int) ≤ 9223372036854775807 := by omega
          have l3 : (n : Int) * 16 ≤ 140737488355328 := by omega
          refine ⟨by simp [l2, l3], ⟨0, by omega, by simp [mvI]; omega⟩, fun i hi => ⟨fun h => ?_, fun h => ?_⟩⟩
          · have h := of_decide_eq_true h
            have e : i * 2 = 2 * i := by omega
            have hw : IntKind.i64.wrap ((i : Int) + 1) = ((i + 1 : Nat) : Int) := by rw [wrap64 (by omega) (by omega)]; omega
            have f0 : fok .add .f64 (g (2 * i)) dx := by
              have := hf (2 * i) (by omega)
              rwa [if_pos (by omega)] at this
            have f1 : fok .add .f64 (g (2 * i + 1)) dy := by
              have := hf (2 * i + 1) (by omega)
              rwa [if_neg (by omega)] at this
            simp only [Int.toNat_natCast, e, hw, Nat.zero_add, Nat.add_zero, true_and, and_true, implies_true, Nat.le_refl]
            refine ⟨by omega, by omega, by omega, f0, by omega, by omega, by omega, by omega, by omega, by omega, f1, by omega, by omega, by omega, i + 1, by omega, by omega, ?_⟩
            simp [mv_step]
          · have h := of_decide_eq_false h
            have : i = n := by omega
            subst this
            simp [hn]
            exact hok
      · trivial
    · trivial
  · trivial
end Go.Proofs.Tryz.Sx

/- A line, moved; a series' points as whole numbers. -/
namespace Go.Proofs.Tryz.Sx
open Go Go.Sx Go.Proofs Go.Fl Go.Geo
set_option maxRecDepth 100000

noncomputable def GLM : Ctx := ⟨⟨tys, []⟩, [(95, conR sMoveC)]⟩
theorem gLM : CtxOk Tryz.prog GLM := ⟨⟨tysOk, FlatsOk.nil⟩, GamOk.cons sMove GamOk.nil, by kernel_rfl⟩
noncomputable def lMoveC : List SV → RdM
  | [.ptr s 0, .flt .f64 dx, .flt .f64 dy] => .read s fun o0 => (match serOf o0.c with
    | some (cl, cw, cv, k, x, y, z, w, p, n) => .read p fun o1 => (match fltsFrom .f64 o1.c with
    | some (m1, g) => .ret ⟨[.ptr 0 0, .flt .f64 dx, .flt .f64 dy], [(0, ⟨false, 150, serC cl cw cv k x y z w 1 n, 0⟩), (1, ⟨false, 100, .flts .f64 m1 g, 0⟩)], .ptr 2 0, [], [(2, ⟨true, 152, .cells (rectS n cl (mvI g dx dy n) 3 k), 0⟩), (3, ⟨true, 100, .flts .f64 (2 * n) (mvI g dx dy n), 2⟩)], some (m1 = 2 * n ∧ n < 64 ∧ (∀ j, j < 2 * n → fok .add .f64 (g j) (if j % 2 = 0 then dx else dy)) ∧ (ppBig n cl = true → ppOk (mvI g dx dy n) n))⟩
    | none => .fail)
    | none => .fail)
  | _ => .fail
theorem vc_lMove (cl cw cv : Bool) (k : Int) (x y z w : Nat) (p : Nm) (n : Nat) (dx dy : Nat)  (g : Nat → Nat) : runA GLM 2 [] [] (codeOf Tryz.f84) (init Tryz.f84.ntmps [.ptr 0 0, .flt .f64 dx, .flt .f64 dy] [(0, ⟨false, 150, serC cl cw cv k x y z w 1 n, 0⟩), (1, ⟨false, 100, .flts .f64 (2 * n) g, 0⟩)] 2) (endK GLM.E.T Tryz.f84.results.toList fun S v => postP 2 ⟨[.ptr 0 0, .flt .f64 dx, .flt .f64 dy], [(0, ⟨false, 150, serC cl cw cv k x y z w 1 n, 0⟩), (1, ⟨false, 100, .flts .f64 (2 * n) g, 0⟩)], .ptr 2 0, [], [(2, ⟨true, 152, .cells (rectS n cl (mvI g dx dy n) 3 k), 0⟩), (3, ⟨true, 100, .flts .f64 (2 * n) (mvI g dx dy n), 2⟩)], some (2 * n = 2 * n ∧ n < 64 ∧ (∀ j, j < 2 * n → fok .add .f64 (g j) (if j % 2 = 0 then dx else dy)) ∧ (ppBig n cl = true → ppOk (mvI g dx dy n) n))⟩ S v) = (
((2 : Nat) * n = (2 : Nat) * n ∧ n < (64 : Nat) ∧ (∀ (j : Nat), j < (2 : Nat) * n → Go.Sx.fok BinOp.add .f64 (g j) (if j % (2 : Nat) = (0 : Nat) then dx else dy)) ∧ (Go.Proofs.Tryz.Sx.ppBig n cl = true → Go.Proofs.Tryz.Sx.ppOk (Go.Proofs.Tryz.Sx.mvI
g dx dy n) n)) ∧ (True ∧ (0 : Nat) = (0 : Nat)) ∧ True ∧ ((152 : Nat) = (152 : Nat) ∧ (0 : Nat) = (0 : Nat) ∧ cl = cl ∧ (Go.Proofs.Tryz.Sx.ppBig n cl && Go.Sx.fGt .f64 (Go.Proofs.Tryz.Sx.cwF (Go.Proofs.Tryz.Sx.mvI g dx dy n) n n) (0 : Nat)) =
(Go.Proofs.Tryz.Sx.ppBig n cl && Go.Sx.fGt .f64 (Go.Proofs.Tryz.Sx.cwF (Go.Proofs.Tryz.Sx.mvI g dx dy n) n n) (0 : Nat)) ∧ (Go.Proofs.Tryz.Sx.ppBig n cl && !Prod.snd (Go.Proofs.Tryz.Sx.dcF (Go.Proofs.Tryz.Sx.mvI g dx dy n) n n)) =
(Go.Proofs.Tryz.Sx.ppBig n cl && !Prod.snd (Go.Proofs.Tryz.Sx.dcF (Go.Proofs.Tryz.Sx.mvI g dx dy n) n n)) ∧ k = k ∧ True ∧ Go.Proofs.Tryz.Sx.pick (Go.Proofs.Tryz.Sx.ppBig n cl) (Go.Proofs.Tryz.Sx.rlo (Go.Proofs.Tryz.Sx.mvI g dx dy n) (0 : Nat) n) =
Go.Proofs.Tryz.Sx.pick (Go.Proofs.Tryz.Sx.ppBig n cl) (Go.Proofs.Tryz.Sx.rlo (Go.Proofs.Tryz.Sx.mvI g dx dy n) (0 : Nat) n) ∧ Go.Proofs.Tryz.Sx.pick (Go.Proofs.Tryz.Sx.ppBig n cl) (Go.Proofs.Tryz.Sx.rlo (Go.Proofs.Tryz.Sx.mvI g dx dy n) (1 : Nat) n)
= Go.Proofs.Tryz.Sx.pick (Go.Proofs.Tryz.Sx.ppBig n cl) (Go.Proofs.Tryz.Sx.rlo (Go.Proofs.Tryz.Sx.mvI g dx dy n) (1 : Nat) n) ∧ Go.Proofs.Tryz.Sx.pick (Go.Proofs.Tryz.Sx.ppBig n cl) (Go.Proofs.Tryz.Sx.rhi (Go.Proofs.Tryz.Sx.mvI g dx dy n) (0 : Nat)
n) = Go.Proofs.Tryz.Sx.pick (Go.Proofs.Tryz.Sx.ppBig n cl) (Go.Proofs.Tryz.Sx.rhi (Go.Proofs.Tryz.Sx.mvI g dx dy n) (0 : Nat) n) ∧ Go.Proofs.Tryz.Sx.pick (Go.Proofs.Tryz.Sx.ppBig n cl) (Go.Proofs.Tryz.Sx.rhi (Go.Proofs.Tryz.Sx.mvI g dx dy n) (1 :
Nat) n) = Go.Proofs.Tryz.Sx.pick (Go.Proofs.Tryz.Sx.ppBig n cl) (Go.Proofs.Tryz.Sx.rhi (Go.Proofs.Tryz.Sx.mvI g dx dy n) (1 : Nat) n) ∧ (True ∧ n = n) ∧ True) ∧ True ∧ ((100 : Nat) = (100 : Nat) ∧ (2 : Nat) = (2 : Nat) ∧ (2 : Nat) * n ≤ (2 : Nat) * n
∧ ∀ (i : Nat), i < (2 : Nat) * n → Go.Proofs.Tryz.Sx.mvI g dx dy n i = Go.Proofs.Tryz.Sx.mvI g dx dy n i) ∧ True) := by kernel_rfl
theorem lMove : ConOk Tryz.prog 84 (conR lMoveC) := by
  refine con_of_vc gLM Tryz.func84 rfl (by kernel_rfl) fun args => ?_
  unfold lMoveC
  split
  · rename_i s dx dy
    intro o0
    show RdM.All _ (match serOf o0.c with | some (cl, cw, cv, k, x, y, z, w, p, n) => _ | none => _) _
    split
    · rename_i cl cw cv k x y z w p n hm0
      intro o1
      show RdM.All _ (match fltsFrom .f64 o1.c with | some (m, g) => _ | none => _) _
      split
      · rename_i m1 g hm1
        intro ho
        replace ho : m1 = 2 * n ∧ n < 64 ∧ (∀ j, j < 2 * n → fok .add .f64 (g j) (if j % 2 = 0 then dx else dy)) ∧ (ppBig n cl = true → ppOk (mvI g dx dy n) n) := ho
        obtain ⟨hsz1, ho⟩ := ho
        subst hsz1
        refine ⟨?_, _, _, (vc_lMove cl cw cv k x y z w p n dx dy g).mpr ?_⟩
        · refine okFlag_mk rfl ⟨?_, ⟨trivial, serOf_spec hm0 (by simp [sgSig, fsts, nth, sameN_self]), ⟨trivial, (contR_flts hm1).1, trivial⟩⟩⟩
          simp [eqvRL, eqvR, kEq_self, fkEq_self, sgSig, fsts, nth, sameN_self]
        · obtain ⟨hn, hf, hok⟩ := ho
          simp [hn]
          exact ⟨hf, hok⟩
      · trivial
    · trivial
  · trivial

noncomputable def GPS : Ctx := ⟨⟨tys, []⟩, [(205, conR sNumPC), (206, conR sPtC), (80, pureCon fromPF)]⟩
theorem gPS : CtxOk Tryz.prog GPS := ⟨⟨tysOk, FlatsOk.nil⟩, GamOk.cons sNumP (GamOk.cons sPt (GamOk.cons (.pure fromP) GamOk.nil)), by kernel_rfl⟩
def wI (g : Nat → Nat) (j : Nat) : Int := toI .f64 (g j) .i64
def plL (cl cw cv : Bool) (k : Int) (x y z w n : Nat) (g : Nat → Nat) : Fam := ⟨Nat, fun i =>
  ⟨19, [(0, .ifc 116 (.ptr 0 0)), (3, .slcc 2 i), (4, .int .i64 i)], [(0, ⟨false, 150, serC cl cw cv k x y z w 1 n, 0⟩), (1, ⟨false, 100, .flts .f64 (2 * n) g, 0⟩), (2, ⟨true, 23, .ints .i64 (2 * i) (wI g), 2⟩)], 3⟩, fun i => i ≤ n, fun i => n - i⟩
noncomputable def plainC : List SV → RdM
  | [.ifc 116 (.ptr s 0)] => .read s fun o0 => (match serOf o0.c with
    | some (cl, cw, cv, k, x, y, z, w, p, n) => .read p fun o1 => (match fltsFrom .f64 o1.c with
    | some (m1, g) => .ret ⟨[.ifc 116 (.ptr 0 0)], [(0, ⟨false, 150, serC cl cw cv k x y z w 1 n, 0⟩), (1, ⟨false, 100, .flts .f64 m1 g, 0⟩)], .slcc 2 n, [], [(2, ⟨true, 23, .ints .i64 (2 * n) (wI g), 2⟩)], some (m1 = 2 * n ∧ n ≤ 1000000 ∧ (∀ j, j < 2 * n → toIok .f64 (g j) .i64))⟩
    | none => .fail)
    | none => .fail)
  | _ => .fail
theorem vc_plain (cl cw cv : Bool) (k : Int) (x y z w : Nat) (p : Nm) (n : Nat)  (g : Nat → Nat) : runA GPS 2 [(3, plL cl cw cv k x y z w n g)] [] (codeOf Tryz.f83) (init Tryz.f83.ntmps [.ifc 116 (.ptr 0 0)] [(0, ⟨false, 150, serC cl cw cv k x y z w 1 n, 0⟩), (1, ⟨false, 100, .flts .f64 (2 * n) g, 0⟩)] 2) (endK GPS.E.T Tryz.f83.results.toList fun S v => postP 2 ⟨[.ifc 116 (.ptr 0 0)], [(0, ⟨false, 150, serC cl cw cv k x y z w 1 n, 0⟩), (1, ⟨false, 100, .flts .f64 (2 * n) g, 0⟩)], .slcc 2 n, [], [(2, ⟨true, 23, .ints .i64 (2 * n) (wI g), 2⟩)], some (2 * n = 2 * n ∧ n ≤ 1000000 ∧ (∀ j, j < 2 * n → toIok .f64 (g j) .i64))⟩ S v) = (
(∃ (i : Nat), i ≤ n ∧ ((True ∧ (0 : Nat) = (0 : Nat)) ∧ i = (0 : Nat) ∧ (0 : Int) = (↑i : Int) ∧ True) ∧ True ∧ (cl = cl ∧ cw = cw ∧ cv = cv ∧ k = k ∧ True ∧ x = x ∧ y = y ∧ z = z ∧ w = w ∧ (True ∧ n = n) ∧ True) ∧ True ∧ ((2 : Nat) * n ≤ (2 : Nat) *
n ∧ ∀ (i : Nat), i < (2 : Nat) * n → g i = g i) ∧ True ∧ (2 : Nat) * i = (0 : Nat) ∧ True) ∧ ∀ (i : Nat), i ≤ n → ((2 : Nat) * n = (2 : Nat) * n ∧ True) ∧ (decide ((↑i : Int) < (↑n : Int)) = true → ((2 : Nat) * n = (2 : Nat) * n ∧ (0 : Int) ≤ (↑i :
Int) ∧ (↑i : Int) < (↑n : Int)) ∧ (Go.Sx.toIok .f64 (g ((2 : Nat) * Int.toNat (↑i : Int))) .i64 ∧ Go.Sx.toIok .f64 (g ((2 : Nat) * Int.toNat (↑i : Int) + (1 : Nat))) .i64) ∧ ((2 : Nat) * i = i * (2 : Nat) ∧ (i + (1 : Nat)) * (16 : Nat) ≤
(140737488355328 : Nat) ∧ i + (1 : Nat) ≤ (9223372036854775807 : Nat)) ∧ ∃ (i' : Nat), i' ≤ n ∧ n - i' < n - i ∧ ((True ∧ (0 : Nat) = (0 : Nat)) ∧ (True ∧ i + (1 : Nat) = i') ∧ Go.IntKind.wrap .i64 ((↑i : Int) + (1 : Int)) = (↑i' : Int) ∧ True) ∧
True ∧ (cl = cl ∧ cw = cw ∧ cv = cv ∧ k = k ∧ True ∧ x = x ∧ y = y ∧ z = z ∧ w = w ∧ (True ∧ n = n) ∧ True) ∧ True ∧ ((2 : Nat) * n ≤ (2 : Nat) * n ∧ ∀ (i : Nat), i < (2 : Nat) * n → g i = g i) ∧ True ∧ ((23 : Nat) = (23 : Nat) ∧ (2 : Nat) = (2 :
Nat) ∧ (2 : Nat) * i' ≤ (2 : Nat) * i + List.length [Go.Sx.toI .f64 (g ((2 : Nat) * Int.toNat (↑i : Int))) .i64, Go.Sx.toI .f64 (g ((2 : Nat) * Int.toNat (↑i : Int) + (1 : Nat))) .i64] ∧ ∀ (i_1 : Nat), i_1 < (2 : Nat) * i' → Go.Sx.more ((2 : Nat) *
i) (Go.Proofs.Tryz.Sx.wI g) [Go.Sx.toI .f64 (g ((2 : Nat) * Int.toNat (↑i : Int))) .i64, Go.Sx.toI .f64 (g ((2 : Nat) * Int.toNat (↑i : Int) + (1 : Nat))) .i64] (0 : Int) i_1 = Go.Proofs.Tryz.Sx.wI g i_1) ∧ True) ∧ (decide ((↑i : Int) < (↑n : Int)) =
false → (True ∧ i = n) ∧ True ∧ ((23 : Nat) = (23 : Nat) ∧ (2 : Nat) = (2 : Nat) ∧ (2 : Nat) * n ≤ (2 : Nat) * i ∧ ∀ (i : Nat), i < (2 : Nat) * n → Go.Proofs.Tryz.Sx.wI g i = Go.Proofs.Tryz.Sx.wI g i) ∧ True)) := by kernel_rfl
theorem plain : ConOk Tryz.prog 83 (conR plainC) := by
  refine con_of_vc gPS Tryz.func83 rfl (by kernel_rfl) fun args => ?_
  unfold plainC
  split
  · rename_i s
    intro o0
    show RdM.All _ (match serOf o0.c with | some (cl, cw, cv, k, x, y, z, w, p, n) => _ | none => _) _
    split
    · rename_i cl cw cv k x y z w p n hm0
      intro o1
      show RdM.All _ (match fltsFrom .f64 o1.c with | some (m, g) => _ | none => _) _
      split
      · rename_i m1 g hm1
        intro ho
        replace ho : m1 = 2 * n ∧ n ≤ 1000000 ∧ (∀ j, j < 2 * n → toIok .f64 (g j) .i64) := ho
        obtain ⟨hsz1, ho⟩ := ho
        subst hsz1
        refine ⟨?_, _, _, (vc_plain cl cw cv k x y z w p n g).mpr ?_⟩
        · refine okFlag_mk rfl ⟨?_, ⟨trivial, serOf_spec hm0 (by simp [sgSig, fsts, nth, sameN_self]), ⟨trivial, (contR_flts hm1).1, trivial⟩⟩⟩
          simp [eqvRL, eqvR, kEq_self, fkEq_self, sgSig, fsts, nth, sameN_self]
        · obtain ⟨hn, hf⟩ := ho
          refine ⟨⟨0, by omega, by simp⟩, fun i hi => ?_⟩
          simp only [true_and, and_true, implies_true, Nat.le_refl]
          refine ⟨fun h => ?_, fun h => ?_⟩
          · have h := of_decide_eq_true h
            have hw : IntKind.i64.wrap ((i : Int) + 1) = ((i + 1 : Nat) : Int) := by rw [wrap64 (by omega) (by omega)]; omega
            refine ⟨by omega, ⟨hf _ (by omega), hf _ (by omega)⟩, by omega, i + 1, by omega, by omega, ⟨rfl, hw⟩, ?_, more_two rfl rfl⟩
            show 2 * (i + 1) ≤ 2 * i + 2
            omega
          · have h := of_decide_eq_false h
            omega
      · trivial
    · trivial
  · trivial
end Go.Proofs.Tryz.Sx
