/- Parts of a proof, in order: what each says stands at its head. No conditions. -/
import Derived.Test.YtfhkmkhcofodmaaGreatProg
import Derived.KernelRfl
import Derived.Laws.FloatArith
import Derived.Test.YtfhkmkhcofodmaaGreatM2
import Derived.Test.YtfhkmkhcofodmaaGreatM1
/- The table of the program's types, each row held against the program (printed by gentys.py). -/
namespace Go.Proofs.Tryz.Sx
open Go Go.Sx Go.Proofs
set_option maxRecDepth 100000
def ty2 : TI := ⟨.int .i64, 1, 8, .cells [.int .i64 0], []⟩
theorem ok2 : TOk Tryz.prog 2 ty2 := TOk.mk' (by kernel_rfl) (by kernel_rfl) (by kernel_rfl) (by kernel_rfl) (by kernel_rfl) no_ms (by kernel_rfl)
def ty3 : TI := ⟨.int .i64, 1, 8, .cells [.int .i64 0], []⟩
theorem ok3 : TOk Tryz.prog 3 ty3 := TOk.mk' (by kernel_rfl) (by kernel_rfl) (by kernel_rfl) (by kernel_rfl) (by kernel_rfl) no_ms (by kernel_rfl)
def ty4 : TI := ⟨.bool, 1, 1, .cells [.ff], []⟩
theorem ok4 : TOk Tryz.prog 4 ty4 := TOk.mk' (by kernel_rfl) (by kernel_rfl) (by kernel_rfl) (by kernel_rfl) (by kernel_rfl) no_ms (by kernel_rfl)
def ty5 : TI := ⟨.int .u8, 1, 1, .cells [.int .u8 0], []⟩
theorem ok5 : TOk Tryz.prog 5 ty5 := TOk.mk' (by kernel_rfl) (by kernel_rfl) (by kernel_rfl) (by kernel_rfl) (by kernel_rfl) no_ms (by kernel_rfl)
def ty6 : TI := ⟨.int .u8, 1, 1, .cells [.int .u8 0], []⟩
theorem ok6 : TOk Tryz.prog 6 ty6 := TOk.mk' (by kernel_rfl) (by kernel_rfl) (by kernel_rfl) (by kernel_rfl) (by kernel_rfl) no_ms (by kernel_rfl)
def ty7 : TI := ⟨.struct [(0, 2), (1, 3), (2, 4), (3, 6)], 4, 24, .cells [.int .i64 0, .int .i64 0, .ff, .int .u8 0], []⟩
theorem ok7 : TOk Tryz.prog 7 ty7 := TOk.mk' (by kernel_rfl) (by kernel_rfl) (by kernel_rfl) (by kernel_rfl) (by kernel_rfl) no_ms (by kernel_rfl)
def ty8 : TI := ⟨.struct [(0, 2), (1, 3), (2, 4), (3, 6)], 4, 24, .cells [.int .i64 0, .int .i64 0, .ff, .int .u8 0], []⟩
theorem ok8 : TOk Tryz.prog 8 ty8 := TOk.mk' (by kernel_rfl) (by kernel_rfl) (by kernel_rfl) (by kernel_rfl) (by kernel_rfl) no_ms (by kernel_rfl)
def ty9 : TI := ⟨.str, 1, 16, .cells [.str ⟨#[]⟩], []⟩
theorem ok9 : TOk Tryz.prog 9 ty9 := TOk.mk' (by kernel_rfl) (by kernel_rfl) (by kernel_rfl) (by kernel_rfl) (by kernel_rfl) no_ms (by kernel_rfl)
def ty10 : TI := ⟨.str, 1, 16, .cells [.str ⟨#[]⟩], []⟩
theorem ok10 : TOk Tryz.prog 10 ty10 := TOk.mk' (by kernel_rfl) (by kernel_rfl) (by kernel_rfl) (by kernel_rfl) (by kernel_rfl) no_ms (by kernel_rfl)
def ty11 : TI := ⟨.str, 1, 16, .cells [.str ⟨#[]⟩], []⟩
theorem ok11 : TOk Tryz.prog 11 ty11 := TOk.mk' (by kernel_rfl) (by kernel_rfl) (by kernel_rfl) (by kernel_rfl) (by kernel_rfl) no_ms (by kernel_rfl)
def ty12 : TI := ⟨.int .u64, 1, 8, .cells [.int .u64 0], []⟩
theorem ok12 : TOk Tryz.prog 12 ty12 := TOk.mk' (by kernel_rfl) (by kernel_rfl) (by kernel_rfl) (by kernel_rfl) (by kernel_rfl) no_ms (by kernel_rfl)
def ty13 : TI := ⟨.struct [(0, 9), (1, 12)], 2, 24, .cells [.str ⟨#[]⟩, .int .u64 0], []⟩
theorem ok13 : TOk Tryz.prog 13 ty13 := TOk.mk' (by kernel_rfl) (by kernel_rfl) (by kernel_rfl) (by kernel_rfl) (by kernel_rfl) no_ms (by kernel_rfl)
def ty14 : TI := ⟨.struct [(0, 9), (1, 12)], 2, 24, .cells [.str ⟨#[]⟩, .int .u64 0], []⟩
theorem ok14 : TOk Tryz.prog 14 ty14 := TOk.mk' (by kernel_rfl) (by kernel_rfl) (by kernel_rfl) (by kernel_rfl) (by kernel_rfl) no_ms (by kernel_rfl)
def ty15 : TI := ⟨.ptr 225, 1, 8, .cells [.nilp], []⟩
theorem ok15 : TOk Tryz.prog 15 ty15 := TOk.mk' (by kernel_rfl) (by kernel_rfl) (by kernel_rfl) (by kernel_rfl) (by kernel_rfl) no_ms (by kernel_rfl)
def ty16 : TI := ⟨.ptr 228, 1, 8, .cells [.nilp], []⟩
theorem ok16 : TOk Tryz.prog 16 ty16 := TOk.mk' (by kernel_rfl) (by kernel_rfl) (by kernel_rfl) (by kernel_rfl) (by kernel_rfl) no_ms (by kernel_rfl)
def ty17 : TI := ⟨.ptr 236, 1, 8, .cells [.nilp], []⟩
theorem ok17 : TOk Tryz.prog 17 ty17 := TOk.mk' (by kernel_rfl) (by kernel_rfl) (by kernel_rfl) (by kernel_rfl) (by kernel_rfl) no_ms (by kernel_rfl)
def ty18 : TI := ⟨.struct [(0, 17)], 1, 8, .cells [.nilp], []⟩
theorem ok18 : TOk Tryz.prog 18 ty18 := TOk.mk' (by kernel_rfl) (by kernel_rfl) (by kernel_rfl) (by kernel_rfl) (by kernel_rfl) no_ms (by kernel_rfl)
def ty19 : TI := ⟨.struct [(0, 17)], 1, 8, .cells [.nilp], []⟩
theorem ok19 : TOk Tryz.prog 19 ty19 := TOk.mk' (by kernel_rfl) (by kernel_rfl) (by kernel_rfl) (by kernel_rfl) (by kernel_rfl) no_ms (by kernel_rfl)
def ty20 : TI := ⟨.iface, 1, 16, .cells [.nili], []⟩
theorem ok20 : TOk Tryz.prog 20 ty20 := TOk.mk' (by kernel_rfl) (by kernel_rfl) (by kernel_rfl) (by kernel_rfl) (by kernel_rfl) no_ms (by kernel_rfl)
def ty21 : TI := ⟨.int .i32, 1, 4, .cells [.int .i32 0], []⟩
theorem ok21 : TOk Tryz.prog 21 ty21 := TOk.mk' (by kernel_rfl) (by kernel_rfl) (by kernel_rfl) (by kernel_rfl) (by kernel_rfl) no_ms (by kernel_rfl)
def ty22 : TI := ⟨.struct [(0, 2), (1, 2)], 2, 16, .cells [.int .i64 0, .int .i64 0], []⟩
theorem ok22 : TOk Tryz.prog 22 ty22 := TOk.mk' (by kernel_rfl) (by kernel_rfl) (by kernel_rfl) (by kernel_rfl) (by kernel_rfl) no_ms (by kernel_rfl)
def ty23 : TI := ⟨.struct [(0, 2), (1, 2)], 2, 16, .cells [.int .i64 0, .int .i64 0], []⟩
theorem ok23 : TOk Tryz.prog 23 ty23 := TOk.mk' (by kernel_rfl) (by kernel_rfl) (by kernel_rfl) (by kernel_rfl) (by kernel_rfl) no_ms (by kernel_rfl)
def ty24 : TI := ⟨.array 2 23, 4, 32, .cells [.int .i64 0, .int .i64 0, .int .i64 0, .int .i64 0], []⟩
theorem ok24 : TOk Tryz.prog 24 ty24 := TOk.mk' (by kernel_rfl) (by kernel_rfl) (by kernel_rfl) (by kernel_rfl) (by kernel_rfl) no_ms (by kernel_rfl)
def ty25 : TI := ⟨.slice 23, 1, 24, .cells [.nils], []⟩
theorem ok25 : TOk Tryz.prog 25 ty25 := TOk.mk' (by kernel_rfl) (by kernel_rfl) (by kernel_rfl) (by kernel_rfl) (by kernel_rfl) no_ms (by kernel_rfl)
def ty26 : TI := ⟨.slice 28, 1, 24, .cells [.nils], []⟩
theorem ok26 : TOk Tryz.prog 26 ty26 := TOk.mk' (by kernel_rfl) (by kernel_rfl) (by kernel_rfl) (by kernel_rfl) (by kernel_rfl) no_ms (by kernel_rfl)
def ty28 : TI := ⟨.struct [(0, 2), (1, 2)], 2, 16, .cells [.int .i64 0, .int .i64 0], []⟩
theorem ok28 : TOk Tryz.prog 28 ty28 := TOk.mk' (by kernel_rfl) (by kernel_rfl) (by kernel_rfl) (by kernel_rfl) (by kernel_rfl) no_ms (by kernel_rfl)
def ty29 : TI := ⟨.array 2 28, 4, 32, .cells [.int .i64 0, .int .i64 0, .int .i64 0, .int .i64 0], []⟩
theorem ok29 : TOk Tryz.prog 29 ty29 := TOk.mk' (by kernel_rfl) (by kernel_rfl) (by kernel_rfl) (by kernel_rfl) (by kernel_rfl) no_ms (by kernel_rfl)
def ty37 : TI := ⟨.slice 25, 1, 24, .cells [.nils], []⟩
theorem ok37 : TOk Tryz.prog 37 ty37 := TOk.mk' (by kernel_rfl) (by kernel_rfl) (by kernel_rfl) (by kernel_rfl) (by kernel_rfl) no_ms (by kernel_rfl)
def ty38 : TI := ⟨.struct [(0, 2), (1, 25), (2, 37)], 3, 56, .cells [.int .i64 0, .nils, .nils], []⟩
theorem ok38 : TOk Tryz.prog 38 ty38 := TOk.mk' (by kernel_rfl) (by kernel_rfl) (by kernel_rfl) (by kernel_rfl) (by kernel_rfl) no_ms (by kernel_rfl)
def ty39 : TI := ⟨.struct [(0, 2), (1, 25), (2, 37)], 3, 56, .cells [.int .i64 0, .nils, .nils], []⟩
theorem ok39 : TOk Tryz.prog 39 ty39 := TOk.mk' (by kernel_rfl) (by kernel_rfl) (by kernel_rfl) (by kernel_rfl) (by kernel_rfl) no_ms (by kernel_rfl)
def ty47 : TI := ⟨.struct [(0, 25), (1, 4), (2, 2), (3, 2), (4, 2), (5, 24)], 9, 88, .cells [.nils, .ff, .int .i64 0, .int .i64 0, .int .i64 0, .int .i64 0, .int .i64 0, .int .i64 0, .int .i64 0], []⟩
theorem ok47 : TOk Tryz.prog 47 ty47 := TOk.mk' (by kernel_rfl) (by kernel_rfl) (by kernel_rfl) (by kernel_rfl) (by kernel_rfl) no_ms (by kernel_rfl)
def ty48 : TI := ⟨.struct [(0, 25), (1, 4), (2, 2), (3, 2), (4, 2), (5, 24)], 9, 88, .cells [.nils, .ff, .int .i64 0, .int .i64 0, .int .i64 0, .int .i64 0, .int .i64 0, .int .i64 0, .int .i64 0], []⟩
theorem ok48 : TOk Tryz.prog 48 ty48 := TOk.mk' (by kernel_rfl) (by kernel_rfl) (by kernel_rfl) (by kernel_rfl) (by kernel_rfl) no_ms (by kernel_rfl)
def ty50 : TI := ⟨.slice 2, 1, 24, .cells [.nils], []⟩
theorem ok50 : TOk Tryz.prog 50 ty50 := TOk.mk' (by kernel_rfl) (by kernel_rfl) (by kernel_rfl) (by kernel_rfl) (by kernel_rfl) no_ms (by kernel_rfl)
def ty51 : TI := ⟨.slice 29, 1, 24, .cells [.nils], []⟩
theorem ok51 : TOk Tryz.prog 51 ty51 := TOk.mk' (by kernel_rfl) (by kernel_rfl) (by kernel_rfl) (by kernel_rfl) (by kernel_rfl) no_ms (by kernel_rfl)
def ty68 : TI := ⟨.slice 26, 1, 24, .cells [.nils], []⟩
theorem ok68 : TOk Tryz.prog 68 ty68 := TOk.mk' (by kernel_rfl) (by kernel_rfl) (by kernel_rfl) (by kernel_rfl) (by kernel_rfl) no_ms (by kernel_rfl)
def ty69 : TI := ⟨.struct [(0, 26), (1, 68)], 2, 48, .cells [.nils, .nils], []⟩
theorem ok69 : TOk Tryz.prog 69 ty69 := TOk.mk' (by kernel_rfl) (by kernel_rfl) (by kernel_rfl) (by kernel_rfl) (by kernel_rfl) no_ms (by kernel_rfl)
def ty70 : TI := ⟨.struct [(0, 26), (1, 68)], 2, 48, .cells [.nils, .nils], []⟩
theorem ok70 : TOk Tryz.prog 70 ty70 := TOk.mk' (by kernel_rfl) (by kernel_rfl) (by kernel_rfl) (by kernel_rfl) (by kernel_rfl) no_ms (by kernel_rfl)
def ty75 : TI := ⟨.struct [(0, 39), (3, 29)], 7, 88, .cells [.int .i64 0, .nils, .nils, .int .i64 0, .int .i64 0, .int .i64 0, .int .i64 0], []⟩
theorem ok75 : TOk Tryz.prog 75 ty75 := TOk.mk' (by kernel_rfl) (by kernel_rfl) (by kernel_rfl) (by kernel_rfl) (by kernel_rfl) no_ms (by kernel_rfl)
def ty76 : TI := ⟨.slice 75, 1, 24, .cells [.nils], []⟩
theorem ok76 : TOk Tryz.prog 76 ty76 := TOk.mk' (by kernel_rfl) (by kernel_rfl) (by kernel_rfl) (by kernel_rfl) (by kernel_rfl) no_ms (by kernel_rfl)
def ty79 : TI := ⟨.slice 39, 1, 24, .cells [.nils], []⟩
theorem ok79 : TOk Tryz.prog 79 ty79 := TOk.mk' (by kernel_rfl) (by kernel_rfl) (by kernel_rfl) (by kernel_rfl) (by kernel_rfl) no_ms (by kernel_rfl)
def ty92 : TI := ⟨.iface, 1, 16, .cells [.nili], []⟩
theorem ok92 : TOk Tryz.prog 92 ty92 := TOk.mk' (by kernel_rfl) (by kernel_rfl) (by kernel_rfl) (by kernel_rfl) (by kernel_rfl) no_ms (by kernel_rfl)
def ty93 : TI := ⟨.iface, 1, 16, .cells [.nili], []⟩
theorem ok93 : TOk Tryz.prog 93 ty93 := TOk.mk' (by kernel_rfl) (by kernel_rfl) (by kernel_rfl) (by kernel_rfl) (by kernel_rfl) no_ms (by kernel_rfl)
def ty95 : TI := ⟨.ptr 148, 1, 8, .cells [.nilp], []⟩
theorem ok95 : TOk Tryz.prog 95 ty95 := TOk.mk' (by kernel_rfl) (by kernel_rfl) (by kernel_rfl) (by kernel_rfl) (by kernel_rfl) no_ms (by kernel_rfl)
def ty98 : TI := ⟨.flt .f64, 1, 8, .cells [.flt .f64 0], []⟩
theorem ok98 : TOk Tryz.prog 98 ty98 := TOk.mk' (by kernel_rfl) (by kernel_rfl) (by kernel_rfl) (by kernel_rfl) (by kernel_rfl) no_ms (by kernel_rfl)
def ty99 : TI := ⟨.struct [(0, 98), (1, 98)], 2, 16, .cells [.flt .f64 0, .flt .f64 0], []⟩
theorem ok99 : TOk Tryz.prog 99 ty99 := TOk.mk' (by kernel_rfl) (by kernel_rfl) (by kernel_rfl) (by kernel_rfl) (by kernel_rfl) no_ms (by kernel_rfl)
def ty100 : TI := ⟨.struct [(0, 98), (1, 98)], 2, 16, .cells [.flt .f64 0, .flt .f64 0], [⟨"ContainsLine", 152, none⟩, ⟨"ContainsPoint", 153, none⟩, ⟨"ContainsPoly", 154, none⟩, ⟨"ContainsRect", 155, none⟩, ⟨"Empty", 156, none⟩, ⟨"IntersectsLine", 157, none⟩, ⟨"IntersectsPoint", 158, none⟩, ⟨"IntersectsPoly", 159, none⟩, ⟨"IntersectsRect", 160, none⟩, ⟨"Move", 81, none⟩, ⟨"Rect", 161, none⟩, ⟨"Valid", 162, none⟩]⟩
theorem ok100 : TOk Tryz.prog 100 ty100 := TOk.mk' (by kernel_rfl) (by kernel_rfl) (by kernel_rfl) (by kernel_rfl) (by kernel_rfl) (cons_ms (MOk.of_chk (by kernel_rfl)) (cons_ms (MOk.of_chk (by kernel_rfl)) (cons_ms (MOk.of_chk (by kernel_rfl)) (cons_ms (MOk.of_chk (by kernel_rfl)) (cons_ms (MOk.of_chk (by kernel_rfl)) (cons_ms (MOk.of_chk (by kernel_rfl)) (cons_ms (MOk.of_chk (by kernel_rfl)) (cons_ms (MOk.of_chk (by kernel_rfl)) (cons_ms (MOk.of_chk (by kernel_rfl)) (cons_ms (MOk.of_chk (by kernel_rfl)) (cons_ms (MOk.of_chk (by kernel_rfl)) (cons_ms (MOk.of_chk (by kernel_rfl)) no_ms)))))))))))) (by kernel_rfl)
def ty101 : TI := ⟨.struct [(0, 100), (2, 100)], 4, 32, .cells [.flt .f64 0, .flt .f64 0, .flt .f64 0, .flt .f64 0], []⟩
theorem ok101 : TOk Tryz.prog 101 ty101 := TOk.mk' (by kernel_rfl) (by kernel_rfl) (by kernel_rfl) (by kernel_rfl) (by kernel_rfl) no_ms (by kernel_rfl)
def ty102 : TI := ⟨.struct [(0, 100), (2, 100)], 4, 32, .cells [.flt .f64 0, .flt .f64 0, .flt .f64 0, .flt .f64 0], [⟨"Area", 188, none⟩, ⟨"Clockwise", 249, none⟩, ⟨"ContainsLine", 189, none⟩, ⟨"ContainsPoint", 169, none⟩, ⟨"ContainsPoly", 190, none⟩, ⟨"ContainsRect", 191, none⟩, ⟨"Convex", 250, none⟩, ⟨"Empty", 192, none⟩, ⟨"Index", 251, none⟩, ⟨"IntersectsLine", 193, none⟩, ⟨"IntersectsPoint", 194, none⟩, ⟨"IntersectsPoly", 195, none⟩, ⟨"IntersectsRect", 175, none⟩, ⟨"Move", 82, none⟩, ⟨"NumPoints", 196, none⟩, ⟨"NumSegments", 203, none⟩, ⟨"PointAt", 197, none⟩, ⟨"Rect", 198, none⟩, ⟨"Search", 199, none⟩, ⟨"SegmentAt", 204, none⟩, ⟨"Valid", 200, none⟩]⟩
theorem ok102 : TOk Tryz.prog 102 ty102 := TOk.mk' (by kernel_rfl) (by kernel_rfl) (by kernel_rfl) (by kernel_rfl) (by kernel_rfl) (cons_ms (MOk.of_chk (by kernel_rfl)) (cons_ms (MOk.of_chk (by kernel_rfl)) (cons_ms (MOk.of_chk (by kernel_rfl)) (cons_ms (MOk.of_chk (by kernel_rfl)) (cons_ms (MOk.of_chk (by kernel_rfl)) (cons_ms (MOk.of_chk (by kernel_rfl)) (cons_ms (MOk.of_chk (by kernel_rfl)) (cons_ms (MOk.of_chk (by kernel_rfl)) (cons_ms (MOk.of_chk (by kernel_rfl)) (cons_ms (MOk.of_chk (by kernel_rfl)) (cons_ms (MOk.of_chk (by kernel_rfl)) (cons_ms (MOk.of_chk (by kernel_rfl)) (cons_ms (MOk.of_chk (by kernel_rfl)) (cons_ms (MOk.of_chk (by kernel_rfl)) (cons_ms (MOk.of_chk (by kernel_rfl)) (cons_ms (MOk.of_chk (by kernel_rfl)) (cons_ms (MOk.of_chk (by kernel_rfl)) (cons_ms (MOk.of_chk (by kernel_rfl)) (cons_ms (MOk.of_chk (by kernel_rfl)) (cons_ms (MOk.of_chk (by kernel_rfl)) (cons_ms (MOk.of_chk (by kernel_rfl)) no_ms))))))))))))))))))))) (by kernel_rfl)
def ty105 : TI := ⟨.iface, 1, 16, .cells [.nili], []⟩
theorem ok105 : TOk Tryz.prog 105 ty105 := TOk.mk' (by kernel_rfl) (by kernel_rfl) (by kernel_rfl) (by kernel_rfl) (by kernel_rfl) no_ms (by kernel_rfl)
def ty106 : TI := ⟨.iface, 1, 16, .cells [.nili], []⟩
theorem ok106 : TOk Tryz.prog 106 ty106 := TOk.mk' (by kernel_rfl) (by kernel_rfl) (by kernel_rfl) (by kernel_rfl) (by kernel_rfl) no_ms (by kernel_rfl)
def ty110 : TI := ⟨.struct [(0, 100), (2, 100)], 4, 32, .cells [.flt .f64 0, .flt .f64 0, .flt .f64 0, .flt .f64 0], []⟩
theorem ok110 : TOk Tryz.prog 110 ty110 := TOk.mk' (by kernel_rfl) (by kernel_rfl) (by kernel_rfl) (by kernel_rfl) (by kernel_rfl) no_ms (by kernel_rfl)
def ty111 : TI := ⟨.struct [(0, 100), (2, 100)], 4, 32, .cells [.flt .f64 0, .flt .f64 0, .flt .f64 0, .flt .f64 0], []⟩
theorem ok111 : TOk Tryz.prog 111 ty111 := TOk.mk' (by kernel_rfl) (by kernel_rfl) (by kernel_rfl) (by kernel_rfl) (by kernel_rfl) no_ms (by kernel_rfl)
def ty116 : TI := ⟨.ptr 152, 1, 8, .cells [.nilp], [⟨"Clockwise", 222, some 0⟩, ⟨"ContainsLine", 223, none⟩, ⟨"ContainsPoint", 170, none⟩, ⟨"ContainsPoly", 224, none⟩, ⟨"ContainsRect", 225, none⟩, ⟨"Convex", 226, some 0⟩, ⟨"Empty", 163, some 0⟩, ⟨"Index", 105, some 0⟩, ⟨"IntersectsLine", 227, none⟩, ⟨"IntersectsPoint", 167, none⟩, ⟨"IntersectsPoly", 228, none⟩, ⟨"IntersectsRect", 229, none⟩, ⟨"Move", 84, none⟩, ⟨"NumPoints", 205, some 0⟩, ⟨"NumSegments", 111, some 0⟩, ⟨"PointAt", 206, some 0⟩, ⟨"Rect", 164, some 0⟩, ⟨"Search", 172, some 0⟩, ⟨"SegmentAt", 112, some 0⟩, ⟨"Valid", 230, none⟩]⟩
theorem ok116 : TOk Tryz.prog 116 ty116 := TOk.mk' (by kernel_rfl) (by kernel_rfl) (by kernel_rfl) (by kernel_rfl) (by kernel_rfl) (cons_ms (MOk.of_chkO (by kernel_rfl)) (cons_ms (MOk.of_chk (by kernel_rfl)) (cons_ms (MOk.of_chk (by kernel_rfl)) (cons_ms (MOk.of_chk (by kernel_rfl)) (cons_ms (MOk.of_chk (by kernel_rfl)) (cons_ms (MOk.of_chkO (by kernel_rfl)) (cons_ms (MOk.of_chkO (by kernel_rfl)) (cons_ms (MOk.of_chkO (by kernel_rfl)) (cons_ms (MOk.of_chk (by kernel_rfl)) (cons_ms (MOk.of_chk (by kernel_rfl)) (cons_ms (MOk.of_chk (by kernel_rfl)) (cons_ms (MOk.of_chk (by kernel_rfl)) (cons_ms (MOk.of_chk (by kernel_rfl)) (cons_ms (MOk.of_chkO (by kernel_rfl)) (cons_ms (MOk.of_chkO (by kernel_rfl)) (cons_ms (MOk.of_chkO (by kernel_rfl)) (cons_ms (MOk.of_chkO (by kernel_rfl)) (cons_ms (MOk.of_chkO (by kernel_rfl)) (cons_ms (MOk.of_chkO (by kernel_rfl)) (cons_ms (MOk.of_chk (by kernel_rfl)) no_ms)))))))))))))))))))) (by kernel_rfl)
def ty118 : TI := ⟨.slice 100, 1, 24, .cells [.nils], []⟩
theorem ok118 : TOk Tryz.prog 118 ty118 := TOk.mk' (by kernel_rfl) (by kernel_rfl) (by kernel_rfl) (by kernel_rfl) (by kernel_rfl) no_ms (by kernel_rfl)
def ty121 : TI := ⟨.ptr 137, 1, 8, .cells [.nilp], [⟨"Clockwise", 236, none⟩, ⟨"ContainsLine", 237, none⟩, ⟨"ContainsPoint", 171, none⟩, ⟨"ContainsPoly", 238, none⟩, ⟨"ContainsRect", 239, none⟩, ⟨"Empty", 165, none⟩, ⟨"IntersectsLine", 233, none⟩, ⟨"IntersectsPoint", 168, none⟩, ⟨"IntersectsPoly", 208, none⟩, ⟨"IntersectsRect", 202, none⟩, ⟨"Move", 85, none⟩, ⟨"Rect", 166, none⟩, ⟨"Valid", 240, none⟩]⟩
theorem ok121 : TOk Tryz.prog 121 ty121 := TOk.mk' (by kernel_rfl) (by kernel_rfl) (by kernel_rfl) (by kernel_rfl) (by kernel_rfl) (cons_ms (MOk.of_chk (by kernel_rfl)) (cons_ms (MOk.of_chk (by kernel_rfl)) (cons_ms (MOk.of_chk (by kernel_rfl)) (cons_ms (MOk.of_chk (by kernel_rfl)) (cons_ms (MOk.of_chk (by kernel_rfl)) (cons_ms (MOk.of_chk (by kernel_rfl)) (cons_ms (MOk.of_chk (by kernel_rfl)) (cons_ms (MOk.of_chk (by kernel_rfl)) (cons_ms (MOk.of_chk (by kernel_rfl)) (cons_ms (MOk.of_chk (by kernel_rfl)) (cons_ms (MOk.of_chk (by kernel_rfl)) (cons_ms (MOk.of_chk (by kernel_rfl)) (cons_ms (MOk.of_chk (by kernel_rfl)) no_ms))))))))))))) (by kernel_rfl)
def ty135 : TI := ⟨.slice 106, 1, 24, .cells [.nils], []⟩
theorem ok135 : TOk Tryz.prog 135 ty135 := TOk.mk' (by kernel_rfl) (by kernel_rfl) (by kernel_rfl) (by kernel_rfl) (by kernel_rfl) no_ms (by kernel_rfl)
def ty136 : TI := ⟨.struct [(0, 106), (1, 135)], 2, 40, .cells [.nili, .nils], []⟩
theorem ok136 : TOk Tryz.prog 136 ty136 := TOk.mk' (by kernel_rfl) (by kernel_rfl) (by kernel_rfl) (by kernel_rfl) (by kernel_rfl) no_ms (by kernel_rfl)
def ty137 : TI := ⟨.struct [(0, 106), (1, 135)], 2, 40, .cells [.nili, .nils], []⟩
theorem ok137 : TOk Tryz.prog 137 ty137 := TOk.mk' (by kernel_rfl) (by kernel_rfl) (by kernel_rfl) (by kernel_rfl) (by kernel_rfl) no_ms (by kernel_rfl)
def ty141 : TI := ⟨.struct [(0, 4), (1, 4)], 2, 2, .cells [.ff, .ff], []⟩
theorem ok141 : TOk Tryz.prog 141 ty141 := TOk.mk' (by kernel_rfl) (by kernel_rfl) (by kernel_rfl) (by kernel_rfl) (by kernel_rfl) no_ms (by kernel_rfl)
def ty142 : TI := ⟨.struct [(0, 4), (1, 4)], 2, 2, .cells [.ff, .ff], []⟩
theorem ok142 : TOk Tryz.prog 142 ty142 := TOk.mk' (by kernel_rfl) (by kernel_rfl) (by kernel_rfl) (by kernel_rfl) (by kernel_rfl) no_ms (by kernel_rfl)
def ty144 : TI := ⟨.slice 118, 1, 24, .cells [.nils], []⟩
theorem ok144 : TOk Tryz.prog 144 ty144 := TOk.mk' (by kernel_rfl) (by kernel_rfl) (by kernel_rfl) (by kernel_rfl) (by kernel_rfl) no_ms (by kernel_rfl)
def ty146 : TI := ⟨.int .u8, 1, 1, .cells [.int .u8 0], []⟩
theorem ok146 : TOk Tryz.prog 146 ty146 := TOk.mk' (by kernel_rfl) (by kernel_rfl) (by kernel_rfl) (by kernel_rfl) (by kernel_rfl) no_ms (by kernel_rfl)
def ty147 : TI := ⟨.struct [(0, 146), (1, 3)], 2, 16, .cells [.int .u8 0, .int .i64 0], []⟩
theorem ok147 : TOk Tryz.prog 147 ty147 := TOk.mk' (by kernel_rfl) (by kernel_rfl) (by kernel_rfl) (by kernel_rfl) (by kernel_rfl) no_ms (by kernel_rfl)
def ty148 : TI := ⟨.struct [(0, 146), (1, 3)], 2, 16, .cells [.int .u8 0, .int .i64 0], []⟩
theorem ok148 : TOk Tryz.prog 148 ty148 := TOk.mk' (by kernel_rfl) (by kernel_rfl) (by kernel_rfl) (by kernel_rfl) (by kernel_rfl) no_ms (by kernel_rfl)
def ty149 : TI := ⟨.struct [(0, 4), (1, 4), (2, 4), (3, 146), (4, 20), (5, 102), (9, 118)], 10, 80, .cells [.ff, .ff, .ff, .int .u8 0, .nili, .flt .f64 0, .flt .f64 0, .flt .f64 0, .flt .f64 0, .nils], []⟩
theorem ok149 : TOk Tryz.prog 149 ty149 := TOk.mk' (by kernel_rfl) (by kernel_rfl) (by kernel_rfl) (by kernel_rfl) (by kernel_rfl) no_ms (by kernel_rfl)
def ty150 : TI := ⟨.struct [(0, 4), (1, 4), (2, 4), (3, 146), (4, 20), (5, 102), (9, 118)], 10, 80, .cells [.ff, .ff, .ff, .int .u8 0, .nili, .flt .f64 0, .flt .f64 0, .flt .f64 0, .flt .f64 0, .nils], []⟩
theorem ok150 : TOk Tryz.prog 150 ty150 := TOk.mk' (by kernel_rfl) (by kernel_rfl) (by kernel_rfl) (by kernel_rfl) (by kernel_rfl) no_ms (by kernel_rfl)
def ty151 : TI := ⟨.struct [(0, 150)], 10, 80, .cells [.ff, .ff, .ff, .int .u8 0, .nili, .flt .f64 0, .flt .f64 0, .flt .f64 0, .flt .f64 0, .nils], []⟩
theorem ok151 : TOk Tryz.prog 151 ty151 := TOk.mk' (by kernel_rfl) (by kernel_rfl) (by kernel_rfl) (by kernel_rfl) (by kernel_rfl) no_ms (by kernel_rfl)
def ty152 : TI := ⟨.struct [(0, 150)], 10, 80, .cells [.ff, .ff, .ff, .int .u8 0, .nili, .flt .f64 0, .flt .f64 0, .flt .f64 0, .flt .f64 0, .nils], []⟩
theorem ok152 : TOk Tryz.prog 152 ty152 := TOk.mk' (by kernel_rfl) (by kernel_rfl) (by kernel_rfl) (by kernel_rfl) (by kernel_rfl) no_ms (by kernel_rfl)
def ty157 : TI := ⟨.ptr 150, 1, 8, .cells [.nilp], [⟨"Clockwise", 222, none⟩, ⟨"Convex", 226, none⟩, ⟨"Empty", 163, none⟩, ⟨"Index", 105, none⟩, ⟨"Move", 95, none⟩, ⟨"NumPoints", 205, none⟩, ⟨"NumSegments", 111, none⟩, ⟨"PointAt", 206, none⟩, ⟨"Rect", 164, none⟩, ⟨"Search", 172, none⟩, ⟨"SegmentAt", 112, none⟩, ⟨"Valid", 234, none⟩]⟩
theorem ok157 : TOk Tryz.prog 157 ty157 := TOk.mk' (by kernel_rfl) (by kernel_rfl) (by kernel_rfl) (by kernel_rfl) (by kernel_rfl) (cons_ms (MOk.of_chk (by kernel_rfl)) (cons_ms (MOk.of_chk (by kernel_rfl)) (cons_ms (MOk.of_chk (by kernel_rfl)) (cons_ms (MOk.of_chk (by kernel_rfl)) (cons_ms (MOk.of_chk (by kernel_rfl)) (cons_ms (MOk.of_chk (by kernel_rfl)) (cons_ms (MOk.of_chk (by kernel_rfl)) (cons_ms (MOk.of_chk (by kernel_rfl)) (cons_ms (MOk.of_chk (by kernel_rfl)) (cons_ms (MOk.of_chk (by kernel_rfl)) (cons_ms (MOk.of_chk (by kernel_rfl)) (cons_ms (MOk.of_chk (by kernel_rfl)) no_ms)))))))))))) (by kernel_rfl)
def ty172 : TI := ⟨.int .u64, 1, 8, .cells [.int .u64 0], []⟩
theorem ok172 : TOk Tryz.prog 172 ty172 := TOk.mk' (by kernel_rfl) (by kernel_rfl) (by kernel_rfl) (by kernel_rfl) (by kernel_rfl) no_ms (by kernel_rfl)
def ty174 : TI := ⟨.ptr 180, 1, 8, .cells [.nilp], []⟩
theorem ok174 : TOk Tryz.prog 174 ty174 := TOk.mk' (by kernel_rfl) (by kernel_rfl) (by kernel_rfl) (by kernel_rfl) (by kernel_rfl) no_ms (by kernel_rfl)
def ty175 : TI := ⟨.array 2 98, 2, 16, .cells [.flt .f64 0, .flt .f64 0], []⟩
theorem ok175 : TOk Tryz.prog 175 ty175 := TOk.mk' (by kernel_rfl) (by kernel_rfl) (by kernel_rfl) (by kernel_rfl) (by kernel_rfl) no_ms (by kernel_rfl)
def ty176 : TI := ⟨.struct [(0, 20), (1, 175), (3, 175)], 5, 48, .cells [.nili, .flt .f64 0, .flt .f64 0, .flt .f64 0, .flt .f64 0], []⟩
theorem ok176 : TOk Tryz.prog 176 ty176 := TOk.mk' (by kernel_rfl) (by kernel_rfl) (by kernel_rfl) (by kernel_rfl) (by kernel_rfl) no_ms (by kernel_rfl)
def ty177 : TI := ⟨.struct [(0, 20), (1, 175), (3, 175)], 5, 48, .cells [.nili, .flt .f64 0, .flt .f64 0, .flt .f64 0, .flt .f64 0], []⟩
theorem ok177 : TOk Tryz.prog 177 ty177 := TOk.mk' (by kernel_rfl) (by kernel_rfl) (by kernel_rfl) (by kernel_rfl) (by kernel_rfl) no_ms (by kernel_rfl)
def ty178 : TI := ⟨.slice 177, 1, 24, .cells [.nils], []⟩
theorem ok178 : TOk Tryz.prog 178 ty178 := TOk.mk' (by kernel_rfl) (by kernel_rfl) (by kernel_rfl) (by kernel_rfl) (by kernel_rfl) no_ms (by kernel_rfl)
def ty179 : TI := ⟨.struct [(0, 3), (1, 177), (6, 3), (7, 178)], 8, 88, .cells [.int .i64 0, .nili, .flt .f64 0, .flt .f64 0, .flt .f64 0, .flt .f64 0, .int .i64 0, .nils], []⟩
theorem ok179 : TOk Tryz.prog 179 ty179 := TOk.mk' (by kernel_rfl) (by kernel_rfl) (by kernel_rfl) (by kernel_rfl) (by kernel_rfl) no_ms (by kernel_rfl)
def ty180 : TI := ⟨.struct [(0, 3), (1, 177), (6, 3), (7, 178)], 8, 88, .cells [.int .i64 0, .nili, .flt .f64 0, .flt .f64 0, .flt .f64 0, .flt .f64 0, .int .i64 0, .nils], []⟩
theorem ok180 : TOk Tryz.prog 180 ty180 := TOk.mk' (by kernel_rfl) (by kernel_rfl) (by kernel_rfl) (by kernel_rfl) (by kernel_rfl) no_ms (by kernel_rfl)
def ty183 : TI := ⟨.slice 98, 1, 24, .cells [.nils], []⟩
theorem ok183 : TOk Tryz.prog 183 ty183 := TOk.mk' (by kernel_rfl) (by kernel_rfl) (by kernel_rfl) (by kernel_rfl) (by kernel_rfl) no_ms (by kernel_rfl)
def ty185 : TI := ⟨.slice 5, 1, 24, .cells [.nils], []⟩
theorem ok185 : TOk Tryz.prog 185 ty185 := TOk.mk' (by kernel_rfl) (by kernel_rfl) (by kernel_rfl) (by kernel_rfl) (by kernel_rfl) no_ms (by kernel_rfl)
def ty187 : TI := ⟨.ptr 191, 1, 8, .cells [.nilp], []⟩
theorem ok187 : TOk Tryz.prog 187 ty187 := TOk.mk' (by kernel_rfl) (by kernel_rfl) (by kernel_rfl) (by kernel_rfl) (by kernel_rfl) no_ms (by kernel_rfl)
def ty188 : TI := ⟨.slice 200, 1, 24, .cells [.nils], []⟩
theorem ok188 : TOk Tryz.prog 188 ty188 := TOk.mk' (by kernel_rfl) (by kernel_rfl) (by kernel_rfl) (by kernel_rfl) (by kernel_rfl) no_ms (by kernel_rfl)
def ty189 : TI := ⟨.array 4 187, 4, 32, .cells [.nilp, .nilp, .nilp, .nilp], []⟩
theorem ok189 : TOk Tryz.prog 189 ty189 := TOk.mk' (by kernel_rfl) (by kernel_rfl) (by kernel_rfl) (by kernel_rfl) (by kernel_rfl) no_ms (by kernel_rfl)
def ty190 : TI := ⟨.struct [(0, 4), (1, 188), (2, 189)], 6, 64, .cells [.ff, .nils, .nilp, .nilp, .nilp, .nilp], []⟩
theorem ok190 : TOk Tryz.prog 190 ty190 := TOk.mk' (by kernel_rfl) (by kernel_rfl) (by kernel_rfl) (by kernel_rfl) (by kernel_rfl) no_ms (by kernel_rfl)
def ty191 : TI := ⟨.struct [(0, 4), (1, 188), (2, 189)], 6, 64, .cells [.ff, .nils, .nilp, .nilp, .nilp, .nilp], []⟩
theorem ok191 : TOk Tryz.prog 191 ty191 := TOk.mk' (by kernel_rfl) (by kernel_rfl) (by kernel_rfl) (by kernel_rfl) (by kernel_rfl) no_ms (by kernel_rfl)
def ty195 : TI := ⟨.ptr 177, 1, 8, .cells [.nilp], []⟩
theorem ok195 : TOk Tryz.prog 195 ty195 := TOk.mk' (by kernel_rfl) (by kernel_rfl) (by kernel_rfl) (by kernel_rfl) (by kernel_rfl) no_ms (by kernel_rfl)
def ty197 : TI := ⟨.struct [], 0, 0, .cells [], []⟩
theorem ok197 : TOk Tryz.prog 197 ty197 := TOk.mk' (by kernel_rfl) (by kernel_rfl) (by kernel_rfl) (by kernel_rfl) (by kernel_rfl) no_ms (by kernel_rfl)
def ty198 : TI := ⟨.struct [], 0, 0, .cells [], []⟩
theorem ok198 : TOk Tryz.prog 198 ty198 := TOk.mk' (by kernel_rfl) (by kernel_rfl) (by kernel_rfl) (by kernel_rfl) (by kernel_rfl) no_ms (by kernel_rfl)
def ty200 : TI := ⟨.int .u32, 1, 4, .cells [.int .u32 0], []⟩
theorem ok200 : TOk Tryz.prog 200 ty200 := TOk.mk' (by kernel_rfl) (by kernel_rfl) (by kernel_rfl) (by kernel_rfl) (by kernel_rfl) no_ms (by kernel_rfl)
def ty206 : TI := ⟨.array 4 3, 4, 32, .cells [.int .i64 0, .int .i64 0, .int .i64 0, .int .i64 0], []⟩
theorem ok206 : TOk Tryz.prog 206 ty206 := TOk.mk' (by kernel_rfl) (by kernel_rfl) (by kernel_rfl) (by kernel_rfl) (by kernel_rfl) no_ms (by kernel_rfl)
def ty207 : TI := ⟨.ptr 210, 1, 8, .cells [.nilp], []⟩
theorem ok207 : TOk Tryz.prog 207 ty207 := TOk.mk' (by kernel_rfl) (by kernel_rfl) (by kernel_rfl) (by kernel_rfl) (by kernel_rfl) no_ms (by kernel_rfl)
def ty208 : TI := ⟨.array 17 177, 85, 816, .cells [.nili, .flt .f64 0, .flt .f64 0, .flt .f64 0, .flt .f64 0, .nili, .flt .f64 0, .flt .f64 0, .flt .f64 0, .flt .f64 0, .nili, .flt .f64 0, .flt .f64 0, .flt .f64 0, .flt .f64 0, .nili, .flt .f64 0, .flt .f64 0, .flt .f64 0, .flt .f64 0, .nili, .flt .f64 0, .flt .f64 0, .flt .f64 0, .flt .f64 0, .nili, .flt .f64 0, .flt .f64 0, .flt .f64 0, .flt .f64 0, .nili, .flt .f64 0, .flt .f64 0, .flt .f64 0, .flt .f64 0, .nili, .flt .f64 0, .flt .f64 0, .flt .f64 0, .flt .f64 0, .nili, .flt .f64 0, .flt .f64 0, .flt .f64 0, .flt .f64 0, .nili, .flt .f64 0, .flt .f64 0, .flt .f64 0, .flt .f64 0, .nili, .flt .f64 0, .flt .f64 0, .flt .f64 0, .flt .f64 0, .nili, .flt .f64 0, .flt .f64 0, .flt .f64 0, .flt .f64 0, .nili, .flt .f64 0, .flt .f64 0, .flt .f64 0, .flt .f64 0, .nili, .flt .f64 0, .flt .f64 0, .flt .f64 0, .flt .f64 0, .nili, .flt .f64 0, .flt .f64 0, .flt .f64 0, .flt .f64 0, .nili, .flt .f64 0, .flt .f64 0, .flt .f64 0, .flt .f64 0, .nili, .flt .f64 0, .flt .f64 0, .flt .f64 0, .flt .f64 0], []⟩
theorem ok208 : TOk Tryz.prog 208 ty208 := TOk.mk' (by kernel_rfl) (by kernel_rfl) (by kernel_rfl) (by kernel_rfl) (by kernel_rfl) no_ms (by kernel_rfl)
def ty209 : TI := ⟨.struct [(0, 3), (1, 208)], 86, 824, .cells [.int .i64 0, .nili, .flt .f64 0, .flt .f64 0, .flt .f64 0, .flt .f64 0, .nili, .flt .f64 0, .flt .f64 0, .flt .f64 0, .flt .f64 0, .nili, .flt .f64 0, .flt .f64 0, .flt .f64 0, .flt .f64 0, .nili, .flt .f64 0, .flt .f64 0, .flt .f64 0, .flt .f64 0, .nili, .flt .f64 0, .flt .f64 0, .flt .f64 0, .flt .f64 0, .nili, .flt .f64 0, .flt .f64 0, .flt .f64 0, .flt .f64 0, .nili, .flt .f64 0, .flt .f64 0, .flt .f64 0, .flt .f64 0, .nili, .flt .f64 0, .flt .f64 0, .flt .f64 0, .flt .f64 0, .nili, .flt .f64 0, .flt .f64 0, .flt .f64 0, .flt .f64 0, .nili, .flt .f64 0, .flt .f64 0, .flt .f64 0, .flt .f64 0, .nili, .flt .f64 0, .flt .f64 0, .flt .f64 0, .flt .f64 0, .nili, .flt .f64 0, .flt .f64 0, .flt .f64 0, .flt .f64 0, .nili, .flt .f64 0, .flt .f64 0, .flt .f64 0, .flt .f64 0, .nili, .flt .f64 0, .flt .f64 0, .flt .f64 0, .flt .f64 0, .nili, .flt .f64 0, .flt .f64 0, .flt .f64 0, .flt .f64 0, .nili, .flt .f64 0, .flt .f64 0, .flt .f64 0, .flt .f64 0, .nili, .flt .f64 0, .flt .f64 0, .flt .f64 0, .flt .f64 0], []⟩
theorem ok209 : TOk Tryz.prog 209 ty209 := TOk.mk' (by kernel_rfl) (by kernel_rfl) (by kernel_rfl) (by kernel_rfl) (by kernel_rfl) no_ms (by kernel_rfl)
def ty210 : TI := ⟨.struct [(0, 3), (1, 208)], 86, 824, .cells [.int .i64 0, .nili, .flt .f64 0, .flt .f64 0, .flt .f64 0, .flt .f64 0, .nili, .flt .f64 0, .flt .f64 0, .flt .f64 0, .flt .f64 0, .nili, .flt .f64 0, .flt .f64 0, .flt .f64 0, .flt .f64 0, .nili, .flt .f64 0, .flt .f64 0, .flt .f64 0, .flt .f64 0, .nili, .flt .f64 0, .flt .f64 0, .flt .f64 0, .flt .f64 0, .nili, .flt .f64 0, .flt .f64 0, .flt .f64 0, .flt .f64 0, .nili, .flt .f64 0, .flt .f64 0, .flt .f64 0, .flt .f64 0, .nili, .flt .f64 0, .flt .f64 0, .flt .f64 0, .flt .f64 0, .nili, .flt .f64 0, .flt .f64 0, .flt .f64 0, .flt .f64 0, .nili, .flt .f64 0, .flt .f64 0, .flt .f64 0, .flt .f64 0, .nili, .flt .f64 0, .flt .f64 0, .flt .f64 0, .flt .f64 0, .nili, .flt .f64 0, .flt .f64 0, .flt .f64 0, .flt .f64 0, .nili, .flt .f64 0, .flt .f64 0, .flt .f64 0, .flt .f64 0, .nili, .flt .f64 0, .flt .f64 0, .flt .f64 0, .flt .f64 0, .nili, .flt .f64 0, .flt .f64 0, .flt .f64 0, .flt .f64 0, .nili, .flt .f64 0, .flt .f64 0, .flt .f64 0, .flt .f64 0, .nili, .flt .f64 0, .flt .f64 0, .flt .f64 0, .flt .f64 0], []⟩
theorem ok210 : TOk Tryz.prog 210 ty210 := TOk.mk' (by kernel_rfl) (by kernel_rfl) (by kernel_rfl) (by kernel_rfl) (by kernel_rfl) no_ms (by kernel_rfl)
def ty212 : TI := ⟨.int .u64, 1, 8, .cells [.int .u64 0], []⟩
theorem ok212 : TOk Tryz.prog 212 ty212 := TOk.mk' (by kernel_rfl) (by kernel_rfl) (by kernel_rfl) (by kernel_rfl) (by kernel_rfl) no_ms (by kernel_rfl)
def ty214 : TI := ⟨.slice 3, 1, 24, .cells [.nils], []⟩
theorem ok214 : TOk Tryz.prog 214 ty214 := TOk.mk' (by kernel_rfl) (by kernel_rfl) (by kernel_rfl) (by kernel_rfl) (by kernel_rfl) no_ms (by kernel_rfl)
def ty216 : TI := ⟨.int .u16, 1, 2, .cells [.int .u16 0], []⟩
theorem ok216 : TOk Tryz.prog 216 ty216 := TOk.mk' (by kernel_rfl) (by kernel_rfl) (by kernel_rfl) (by kernel_rfl) (by kernel_rfl) no_ms (by kernel_rfl)
def ty221 : TI := ⟨.array 8 5, 8, 8, .cells [.int .u8 0, .int .u8 0, .int .u8 0, .int .u8 0, .int .u8 0, .int .u8 0, .int .u8 0, .int .u8 0], []⟩
theorem ok221 : TOk Tryz.prog 221 ty221 := TOk.mk' (by kernel_rfl) (by kernel_rfl) (by kernel_rfl) (by kernel_rfl) (by kernel_rfl) no_ms (by kernel_rfl)
def ty224 : TI := ⟨.struct [(0, 17), (1, 17), (2, 17), (3, 9)], 4, 40, .cells [.nilp, .nilp, .nilp, .str ⟨#[]⟩], []⟩
theorem ok224 : TOk Tryz.prog 224 ty224 := TOk.mk' (by kernel_rfl) (by kernel_rfl) (by kernel_rfl) (by kernel_rfl) (by kernel_rfl) no_ms (by kernel_rfl)
def ty225 : TI := ⟨.struct [(0, 17), (1, 17), (2, 17), (3, 9)], 4, 40, .cells [.nilp, .nilp, .nilp, .str ⟨#[]⟩], []⟩
theorem ok225 : TOk Tryz.prog 225 ty225 := TOk.mk' (by kernel_rfl) (by kernel_rfl) (by kernel_rfl) (by kernel_rfl) (by kernel_rfl) no_ms (by kernel_rfl)
def ty226 : TI := ⟨.array 0 16, 0, 0, .cells [], []⟩
theorem ok226 : TOk Tryz.prog 226 ty226 := TOk.mk' (by kernel_rfl) (by kernel_rfl) (by kernel_rfl) (by kernel_rfl) (by kernel_rfl) no_ms (by kernel_rfl)
def ty227 : TI := ⟨.struct [(0, 226)], 0, 0, .cells [], []⟩
theorem ok227 : TOk Tryz.prog 227 ty227 := TOk.mk' (by kernel_rfl) (by kernel_rfl) (by kernel_rfl) (by kernel_rfl) (by kernel_rfl) no_ms (by kernel_rfl)
def ty228 : TI := ⟨.struct [(0, 226)], 0, 0, .cells [], []⟩
theorem ok228 : TOk Tryz.prog 228 ty228 := TOk.mk' (by kernel_rfl) (by kernel_rfl) (by kernel_rfl) (by kernel_rfl) (by kernel_rfl) no_ms (by kernel_rfl)
def ty229 : TI := ⟨.int .u8, 1, 1, .cells [.int .u8 0], []⟩
theorem ok229 : TOk Tryz.prog 229 ty229 := TOk.mk' (by kernel_rfl) (by kernel_rfl) (by kernel_rfl) (by kernel_rfl) (by kernel_rfl) no_ms (by kernel_rfl)
def ty230 : TI := ⟨.int .u8, 1, 1, .cells [.int .u8 0], []⟩
theorem ok230 : TOk Tryz.prog 230 ty230 := TOk.mk' (by kernel_rfl) (by kernel_rfl) (by kernel_rfl) (by kernel_rfl) (by kernel_rfl) no_ms (by kernel_rfl)
def ty232 : TI := ⟨.ptr 5, 1, 8, .cells [.nilp], []⟩
theorem ok232 : TOk Tryz.prog 232 ty232 := TOk.mk' (by kernel_rfl) (by kernel_rfl) (by kernel_rfl) (by kernel_rfl) (by kernel_rfl) no_ms (by kernel_rfl)
def ty233 : TI := ⟨.int .i32, 1, 4, .cells [.int .i32 0], []⟩
theorem ok233 : TOk Tryz.prog 233 ty233 := TOk.mk' (by kernel_rfl) (by kernel_rfl) (by kernel_rfl) (by kernel_rfl) (by kernel_rfl) no_ms (by kernel_rfl)
def ty234 : TI := ⟨.int .i32, 1, 4, .cells [.int .i32 0], []⟩
theorem ok234 : TOk Tryz.prog 234 ty234 := TOk.mk' (by kernel_rfl) (by kernel_rfl) (by kernel_rfl) (by kernel_rfl) (by kernel_rfl) no_ms (by kernel_rfl)
def ty235 : TI := ⟨.struct [(0, 12), (1, 12), (2, 200), (3, 229), (4, 5), (5, 5), (6, 230), (7, 231), (8, 232), (9, 233), (10, 234)], 11, 48, .cells [.int .u64 0, .int .u64 0, .int .u32 0, .int .u8 0, .int .u8 0, .int .u8 0, .int .u8 0, .nilf, .nilp, .int .i32 0, .int .i32 0], []⟩
theorem ok235 : TOk Tryz.prog 235 ty235 := TOk.mk' (by kernel_rfl) (by kernel_rfl) (by kernel_rfl) (by kernel_rfl) (by kernel_rfl) no_ms (by kernel_rfl)
def ty236 : TI := ⟨.struct [(0, 12), (1, 12), (2, 200), (3, 229), (4, 5), (5, 5), (6, 230), (7, 231), (8, 232), (9, 233), (10, 234)], 11, 48, .cells [.int .u64 0, .int .u64 0, .int .u32 0, .int .u8 0, .int .u8 0, .int .u8 0, .int .u8 0, .nilf, .nilp, .int .i32 0, .int .i32 0], []⟩
theorem ok236 : TOk Tryz.prog 236 ty236 := TOk.mk' (by kernel_rfl) (by kernel_rfl) (by kernel_rfl) (by kernel_rfl) (by kernel_rfl) no_ms (by kernel_rfl)
def ty237 : TI := ⟨.struct [(0, 4), (1, 3)], 2, 16, .cells [.ff, .int .i64 0], []⟩
theorem ok237 : TOk Tryz.prog 237 ty237 := TOk.mk' (by kernel_rfl) (by kernel_rfl) (by kernel_rfl) (by kernel_rfl) (by kernel_rfl) no_ms (by kernel_rfl)
def ty238 : TI := ⟨.struct [(0, 4), (1, 3)], 2, 16, .cells [.ff, .int .i64 0], []⟩
theorem ok238 : TOk Tryz.prog 238 ty238 := TOk.mk' (by kernel_rfl) (by kernel_rfl) (by kernel_rfl) (by kernel_rfl) (by kernel_rfl) no_ms (by kernel_rfl)
def ty249 : TI := ⟨.ptr 3, 1, 8, .cells [.nilp], []⟩
theorem ok249 : TOk Tryz.prog 249 ty249 := TOk.mk' (by kernel_rfl) (by kernel_rfl) (by kernel_rfl) (by kernel_rfl) (by kernel_rfl) no_ms (by kernel_rfl)
def ty250 : TI := ⟨.ptr 4, 1, 8, .cells [.nilp], []⟩
theorem ok250 : TOk Tryz.prog 250 ty250 := TOk.mk' (by kernel_rfl) (by kernel_rfl) (by kernel_rfl) (by kernel_rfl) (by kernel_rfl) no_ms (by kernel_rfl)
def ty255 : TI := ⟨.slice 111, 1, 24, .cells [.nils], []⟩
theorem ok255 : TOk Tryz.prog 255 ty255 := TOk.mk' (by kernel_rfl) (by kernel_rfl) (by kernel_rfl) (by kernel_rfl) (by kernel_rfl) no_ms (by kernel_rfl)
def ty258 : TI := ⟨.array 5 100, 10, 80, .cells [.flt .f64 0, .flt .f64 0, .flt .f64 0, .flt .f64 0, .flt .f64 0, .flt .f64 0, .flt .f64 0, .flt .f64 0, .flt .f64 0, .flt .f64 0], []⟩
theorem ok258 : TOk Tryz.prog 258 ty258 := TOk.mk' (by kernel_rfl) (by kernel_rfl) (by kernel_rfl) (by kernel_rfl) (by kernel_rfl) no_ms (by kernel_rfl)
def ty259 : TI := ⟨.array 2 100, 4, 32, .cells [.flt .f64 0, .flt .f64 0, .flt .f64 0, .flt .f64 0], []⟩
theorem ok259 : TOk Tryz.prog 259 ty259 := TOk.mk' (by kernel_rfl) (by kernel_rfl) (by kernel_rfl) (by kernel_rfl) (by kernel_rfl) no_ms (by kernel_rfl)
def tys : Tys := [(2, ty2), (3, ty3), (4, ty4), (5, ty5), (6, ty6), (7, ty7), (8, ty8), (9, ty9), (10, ty10), (11, ty11), (12, ty12), (13, ty13), (14, ty14), (15, ty15), (16, ty16), (17, ty17), (18, ty18), (19, ty19), (20, ty20), (21, ty21), (22, ty22), (23, ty23), (24, ty24), (25, ty25), (26, ty26), (28, ty28), (29, ty29), (37, ty37), (38, ty38), (39, ty39), (47, ty47), (48, ty48), (50, ty50), (51, ty51), (68, ty68), (69, ty69), (70, ty70), (75, ty75), (76, ty76), (79, ty79), (92, ty92), (93, ty93), (95, ty95), (98, ty98), (99, ty99), (100, ty100), (101, ty101), (102, ty102), (105, ty105), (106, ty106), (110, ty110), (111, ty111), (116, ty116), (118, ty118), (121, ty121), (135, ty135), (136, ty136), (137, ty137), (141, ty141), (142, ty142), (144, ty144), (146, ty146), (147, ty147), (148, ty148), (149, ty149), (150, ty150), (151, ty151), (152, ty152), (157, ty157), (172, ty172), (174, ty174), (175, ty175), (176, ty176), (177, ty177), (178, ty178), (179, ty179), (180, ty180), (183, ty183), (185, ty185), (187, ty187), (188, ty188), (189, ty189), (190, ty190), (191, ty191), (195, ty195), (197, ty197), (198, ty198), (200, ty200), (206, ty206), (207, ty207), (208, ty208), (209, ty209), (210, ty210), (212, ty212), (214, ty214), (216, ty216), (221, ty221), (224, ty224), (225, ty225), (226, ty226), (227, ty227), (228, ty228), (229, ty229), (230, ty230), (232, ty232), (233, ty233), (234, ty234), (235, ty235), (236, ty236), (237, ty237), (238, ty238), (249, ty249), (250, ty250), (255, ty255), (258, ty258), (259, ty259)]
theorem tysOk : TysOk Tryz.prog tys := by
  unfold tys
  refine TysOk.cons ok2 ?_
  refine TysOk.cons ok3 ?_
  refine TysOk.cons ok4 ?_
  refine TysOk.cons ok5 ?_
  refine TysOk.cons ok6 ?_
  refine TysOk.cons ok7 ?_
  refine TysOk.cons ok8 ?_
  refine TysOk.cons ok9 ?_
  refine TysOk.cons ok10 ?_
  refine TysOk.cons ok11 ?_
  refine TysOk.cons ok12 ?_
  refine TysOk.cons ok13 ?_
  refine TysOk.cons ok14 ?_
  refine TysOk.cons ok15 ?_
  refine TysOk.cons ok16 ?_
  refine TysOk.cons ok17 ?_
  refine TysOk.cons ok18 ?_
  refine TysOk.cons ok19 ?_
  refine TysOk.cons ok20 ?_
  refine TysOk.cons ok21 ?_
  refine TysOk.cons ok22 ?_
  refine TysOk.cons ok23 ?_
  refine TysOk.cons ok24 ?_
  refine TysOk.cons ok25 ?_
  refine TysOk.cons ok26 ?_
  refine TysOk.cons ok28 ?_
  refine TysOk.cons ok29 ?_
  refine TysOk.cons ok37 ?_
  refine TysOk.cons ok38 ?_
  refine TysOk.cons ok39 ?_
  refine TysOk.cons ok47 ?_
  refine TysOk.cons ok48 ?_
  refine TysOk.cons ok50 ?_
  refine TysOk.cons ok51 ?_
  refine TysOk.cons ok68 ?_
  refine TysOk.cons ok69 ?_
  refine TysOk.cons ok70 ?_
  refine TysOk.cons ok75 ?_
  refine TysOk.cons ok76 ?_
  refine TysOk.cons ok79 ?_
  refine TysOk.cons ok92 ?_
  refine TysOk.cons ok93 ?_
  refine TysOk.cons ok95 ?_
  refine TysOk.cons ok98 ?_
  refine TysOk.cons ok99 ?_
  refine TysOk.cons ok100 ?_
  refine TysOk.cons ok101 ?_
  refine TysOk.cons ok102 ?_
  refine TysOk.cons ok105 ?_
  refine TysOk.cons ok106 ?_
  refine TysOk.cons ok110 ?_
  refine TysOk.cons ok111 ?_
  refine TysOk.cons ok116 ?_
  refine TysOk.cons ok118 ?_
  refine TysOk.cons ok121 ?_
  refine TysOk.cons ok135 ?_
  refine TysOk.cons ok136 ?_
  refine TysOk.cons ok137 ?_
  refine TysOk.cons ok141 ?_
  refine TysOk.cons ok142 ?_
  refine TysOk.cons ok144 ?_
  refine TysOk.cons ok146 ?_
  refine TysOk.cons ok147 ?_
  refine TysOk.cons ok148 ?_
  refine TysOk.cons ok149 ?_
  refine TysOk.cons ok150 ?_
  refine TysOk.cons ok151 ?_
  refine TysOk.cons ok152 ?_
  refine TysOk.cons ok157 ?_
  refine TysOk.cons ok172 ?_
  refine TysOk.cons ok174 ?_
  refine TysOk.cons ok175 ?_
  refine TysOk.cons ok176 ?_
  refine TysOk.cons ok177 ?_
  refine TysOk.cons ok178 ?_
  refine TysOk.cons ok179 ?_
  refine TysOk.cons ok180 ?_
  refine TysOk.cons ok183 ?_
  refine TysOk.cons ok185 ?_
  refine TysOk.cons ok187 ?_
  refine TysOk.cons ok188 ?_
  refine TysOk.cons ok189 ?_
  refine TysOk.cons ok190 ?_
  refine TysOk.cons ok191 ?_
  refine TysOk.cons ok195 ?_
  refine TysOk.cons ok197 ?_
  refine TysOk.cons ok198 ?_
  refine TysOk.cons ok200 ?_
  refine TysOk.cons ok206 ?_
  refine TysOk.cons ok207 ?_
  refine TysOk.cons ok208 ?_
  refine TysOk.cons ok209 ?_
  refine TysOk.cons ok210 ?_
  refine TysOk.cons ok212 ?_
  refine TysOk.cons ok214 ?_
  refine TysOk.cons ok216 ?_
  refine TysOk.cons ok221 ?_
  refine TysOk.cons ok224 ?_
  refine TysOk.cons ok225 ?_
  refine TysOk.cons ok226 ?_
  refine TysOk.cons ok227 ?_
  refine TysOk.cons ok228 ?_
  refine TysOk.cons ok229 ?_
  refine TysOk.cons ok230 ?_
  refine TysOk.cons ok232 ?_
  refine TysOk.cons ok233 ?_
  refine TysOk.cons ok234 ?_
  refine TysOk.cons ok235 ?_
  refine TysOk.cons ok236 ?_
  refine TysOk.cons ok237 ?_
  refine TysOk.cons ok238 ?_
  refine TysOk.cons ok249 ?_
  refine TysOk.cons ok250 ?_
  refine TysOk.cons ok255 ?_
  refine TysOk.cons ok258 ?_
  refine TysOk.cons ok259 ?_
  exact TysOk.nil
end Go.Proofs.Tryz.Sx

/- Cutting a walk: what is kept, what is known. -/
namespace Go.Sx
open Go.RowKit

/-- The code, from S on, comes to K: said of the machine. -/
def Wp (P : Program) (N0 : Nat) (c : Code) (S : St) (K : Xt → St → Prop) : Prop :=
  ∀ (W0 : World) (Fr : Nat → Prop) (ρ0 ρ : Rho) (a : Act) (w : World) (Q : Exit → Act → World → Prop), Sat W0 Fr S ρ a w → N0 ≤ S.N → (∀ n, n < N0 → ρ n = ρ0 n) → AfterX W0 Fr N0 ρ0 K Q → c.wp P Q a w

section
variable {P : Program} {G : Ctx} {N0 : Nat} {S : St} {K : Xt → St → Prop}

theorem Wp.run (hG : CtxOk P G) {c : Code} (h : runC G N0 c S K) : Wp P N0 c S K :=
  fun _ _ _ _ _ _ _ hS hN hρ hK => runC_sound hG c h hS hN hρ hK

theorem Wp.mono {c : Code} {K' : Xt → St → Prop} (h : Wp P N0 c S K) (hk : ∀ e S', K e S' → K' e S') : Wp P N0 c S K' :=
  fun W0 Fr ρ0 ρ a w Q hS hN hρ hK => h W0 Fr ρ0 ρ a w Q hS hN hρ fun e S' ρ' a' w' h' => hK e S' ρ' a' w' (hk e S' h')

theorem Wp.seq {x y : Code} {K1 : Xt → St → Prop} (h : Wp P N0 x S K1) (hn : ∀ S', K1 .normal S' → Wp P N0 y S' K) (hx : ∀ id S', K1 (.exit id) S' → K (.exit id) S') (hr : ∀ S', K1 .ret S' → K .ret S') : Wp P N0 (.seq x y) S K := by
  intro W0 Fr ρ0 ρ a w Q hS hN hρ hK
  refine wp_seq (h W0 Fr ρ0 ρ a w _ hS hN hρ fun e S' ρ' a' w' h' hS' hN' hρ' => ?_)
  cases e with
  | normal => exact hn S' h' W0 Fr ρ0 ρ' a' w' Q hS' hN' hρ' hK
  | exit id => exact hK (.exit id) S' ρ' a' w' (hx id S' h') hS' hN' hρ'
  | ret => exact hK .ret S' ρ' a' w' (hr S' h') hS' hN' hρ'

theorem Wp.block {id : Nat} {x : Code} (h : Wp P N0 x S (fun e S' => match e with
    | .exit j => match Nat.beq j id with
      | true => K .normal S'
      | false => K (.exit j) S'
    | e => K e S')) : Wp P N0 (.block id x) S K := by
  intro W0 Fr ρ0 ρ a w Q hS hN hρ hK
  refine wp_block (h W0 Fr ρ0 ρ a w _ hS hN hρ fun e S' ρ' a' w' h' hS' hN' hρ' => ?_)
  cases e with
  | normal => exact hK .normal S' ρ' a' w' h' hS' hN' hρ'
  | ret => exact hK .ret S' ρ' a' w' h' hS' hN' hρ'
  | exit j =>
    simp only at h'
    simp only [Exit.inBlock]
    split at h'
    · rename_i hj
      rw [if_pos (Nat.eq_of_beq_eq_true hj)]
      exact hK .normal S' ρ' a' w' h' hS' hN' hρ'
    · rename_i hj
      rw [if_neg (fun e => by subst e; simp at hj)]
      exact hK (.exit j) S' ρ' a' w' h' hS' hN' hρ'

/-- A loop whose rounds are walked by hand. -/
theorem Wp.loop {x : Code} {ι : Type} (I : ι → St) (μ : ι → Nat) (i0 : ι) (h0 : Refines N0 S (I i0))
    (hr : ∀ i, Wp P N0 x (I i) (fun e S' => match e with
      | .normal => ∃ i', μ i' < μ i ∧ Refines N0 S' (I i')
      | e => K e S')) : Wp P N0 (.loop x) S K := by
  intro W0 Fr ρ0 ρ a w Q hS hN hρ hK
  have start : ∀ {S1 : St} {i : ι}, Refines N0 S1 (I i) → ∀ {ρ1 a1 w1}, Sat W0 Fr S1 ρ1 a1 w1 → (∀ n, n < N0 → ρ1 n = ρ0 n) →
      ∃ ρ', Sat W0 Fr (I i) ρ' a1 w1 ∧ N0 ≤ (I i).N ∧ ∀ n, n < N0 → ρ' n = ρ0 n := by
    intro S1 i hR ρ1 a1 w1 hS1 hρ1
    obtain ⟨ρ', h1, h2⟩ := hR.2 W0 Fr ρ1 a1 w1 hS1
    exact ⟨ρ', h1, hR.1, fun n hn => (h2 n hn).trans (hρ1 n hn)⟩
  refine wp_loop_ghost (fun i a w => ∃ ρ', Sat W0 Fr (I i) ρ' a w ∧ N0 ≤ (I i).N ∧ ∀ n, n < N0 → ρ' n = ρ0 n) μ ?_ (start h0 hS hρ)
  rintro i a1 w1 ⟨ρ1, hS1, hN1, hρ1⟩
  refine hr i W0 Fr ρ0 ρ1 a1 w1 _ hS1 hN1 hρ1 fun e S' ρ' a' w' h' hS' hN' hρ' => ?_
  cases e with
  | normal =>
    obtain ⟨i', hlt, hR⟩ := h'
    exact ⟨i', start hR hS' hρ', hlt⟩
  | exit id => exact hK (.exit id) S' ρ' a' w' h' hS' hN' hρ'
  | ret => exact hK .ret S' ρ' a' w' h' hS' hN' hρ'

/-! ### What is kept -/
def keyIn (t : Nat) : Slots → Bool
  | [] => false
  | (m, _) :: r => Nat.beq m t || keyIn t r
def keysApart : Slots → Slots → Bool
  | [], _ => true
  | (t, _) :: r, s => !keyIn t s && keysApart r s
def nmIn (t : Nat) : Heap → Bool
  | [] => false
  | (m, _) :: r => Nat.beq m t || nmIn t r
def nmsApart : Heap → Heap → Bool
  | [], _ => true
  | (t, _) :: r, s => !nmIn t s && nmsApart r s

/-- S' is S with more. -/
structure Keep (S S' : St) : Prop where
  nt : S'.nt = S.nt
  sl : S'.sl.drop (S'.sl.length - S.sl.length) = S.sl
  ks : keysApart (S'.sl.take (S'.sl.length - S.sl.length)) S.sl = true
  hp : S'.H.drop (S'.H.length - S.H.length) = S.H
  kh : nmsApart (S'.H.take (S'.H.length - S.H.length)) S.H = true

theorem slot_none {t : Nat} : ∀ {s : Slots}, keyIn t s = false → slot s t = none
  | [], _ => rfl
  | (m, v) :: r, h => by
    simp only [keyIn, Bool.or_eq_false_iff] at h
    rw [slot_cons, if_neg (fun e => by subst e; simp at h), slot_none h.2]

theorem keys_skip {s : Slots} : ∀ {p : Slots}, keysApart p s = true → ∀ t v, slot s t = some v → slot (p ++ s) t = some v
  | [], _, _, _, h => h
  | (m, u) :: r, h, t, v, hv => by
    simp only [keysApart, Bool.and_eq_true, Bool.not_eq_true'] at h
    have hm : m ≠ t := fun e => by subst e; rw [slot_none h.1] at hv; cases hv
    rw [List.cons_append, slot_cons, if_neg hm]
    exact keys_skip h.2 t v hv

theorem look_none {t : Nat} : ∀ {s : Heap}, nmIn t s = false → look s t = none
  | [], _ => rfl
  | (m, v) :: r, h => by
    simp only [nmIn, Bool.or_eq_false_iff] at h
    rw [look_cons, if_neg (fun e => by subst e; simp at h), look_none h.2]

theorem nms_skip {s : Heap} : ∀ {p : Heap}, nmsApart p s = true → ∀ t v, look s t = some v → look (p ++ s) t = some v
  | [], _, _, _, h => h
  | (m, u) :: r, h, t, v, hv => by
    simp only [nmsApart, Bool.and_eq_true, Bool.not_eq_true'] at h
    have hm : m ≠ t := fun e => by subst e; rw [look_none h.1] at hv; cases hv
    rw [List.cons_append, look_cons, if_neg hm]
    exact nms_skip h.2 t v hv

theorem Keep.slot {S' : St} (h : Keep S S') {t : Nat} {v : SV} (hv : slot S.sl t = some v) : Sx.slot S'.sl t = some v := by
  have := keys_skip h.ks t v hv
  rw [← List.take_append_drop (S'.sl.length - S.sl.length) S'.sl, h.sl]
  exact this

theorem Keep.look {S' : St} (h : Keep S S') {n : Nm} {o : Ob} (hv : Sx.look S.H n = some o) : Sx.look S'.H n = some o := by
  have := nms_skip h.kh n o hv
  rw [← List.take_append_drop (S'.H.length - S.H.length) S'.H, h.hp]
  exact this

/-- x only tests: behind it stands S again, and Φ. -/
theorem Wp.keep {x y : Code} (Φ : Prop) (h : Wp P S.N x S (fun e S' => match e with
      | .normal => Φ ∧ Keep S S'
      | e => K e S'))
    (hy : Φ → Wp P N0 y S K) : Wp P N0 (.seq x y) S K := by
  intro W0 Fr ρ0 ρ a w Q hS hN hρ hK
  refine wp_seq (h W0 Fr ρ ρ a w _ hS (Nat.le_refl _) (fun _ _ => rfl) fun e S' ρ' a' w' h' hS' hN' hρ' => ?_)
  have hρ0 : ∀ n, n < N0 → ρ' n = ρ0 n := fun n hn => (hρ' n (Nat.lt_of_lt_of_le hn hN)).trans (hρ n hn)
  cases e with
  | normal =>
    obtain ⟨hΦ, hk⟩ := h'
    refine hy hΦ W0 Fr ρ0 ρ' a' w' Q ⟨?_, ?_⟩ hN hρ0 hK
    · exact {
        os := hS'.h.os, tape := hS'.h.tape, output := hS'.h.output, size := hS'.h.size, frlt := hS'.h.frlt, frame := hS'.h.frame
        used := hS.h.used
        bd := hS.h.bd
        obj := fun n o hn => hS'.h.obj n o (hk.look hn)
        inj := fun n m o o' p q hn hm => hS'.h.inj n m o o' p q (hk.look hn) (hk.look hm)
        free := fun n o p hn => hS'.h.free n o p (hk.look hn) }
    · exact {
        nd := hS'.s.nd
        size := by rw [hS'.s.size, hk.nt]
        bd := hS.s.bd
        val := fun t v hv => hS'.s.val t v (hk.slot hv) }
  | exit id => exact hK (.exit id) S' ρ' a' w' h' hS' (Nat.le_trans hN hN') hρ0
  | ret => exact hK .ret S' ρ' a' w' h' hS' (Nat.le_trans hN hN') hρ0

end

theorem pure_of_wp {P : Program} {G : Ctx} (hG : CtxOk P G) {f : Nat} {fn : Func} {c : Code} (hf : P.funcs[f]? = some fn) (hb : fn.body = some c) (hnm : (fn.name == "runtime.NumGoroutine") = false) {F : PF}
    (h : ∀ args v p, F args = some (v, p) → okP p → v.closed = true ∧ closedL args = true ∧ Nat.ble args.length fn.ntmps = true ∧
      Wp P 0 c (init fn.ntmps args [] 0) (endK G.E.T fn.results.toList fun _ v' => eqv v' v)) : PureOk P f F := by
  intro args v p hF hp
  obtain ⟨h1, h2, h3, h4⟩ := h args v p hF hp
  refine ⟨h1, fun ρ w => .inl ⟨⟨fn, hf, hnm, by rw [hb]; rfl⟩, ?_⟩⟩
  refine calls_of_wp hf hb ?_
  have hH : HSat w (· < w.heap.size) (· < 0) [] ρ w :=
    { os := rfl, tape := rfl, output := rfl, size := Nat.le_refl _, frlt := fun _ h => h, frame := fun _ _ => rfl
      used := fun n o hn => by simp [look] at hn
      bd := fun n o hn => by simp [look] at hn
      obj := fun n o hn => by simp [look] at hn
      inj := fun n m o o' p q hn => by simp [look] at hn
      free := fun n o p hn => by simp [look] at hn }
  refine h4 w (· < w.heap.size) ρ ρ _ w _ (sat_init hH (bdL_closed _ _ h2) (Nat.le_of_ble_eq_true h3)) (Nat.zero_le _) (fun _ _ => rfl) ?_
  intro e S' ρ' a' w' hK hS hN hρ
  have fin : retK G.E.T fn.results.toList (fun _ v' => eqv v' v) S' → a'.defers = [] ∧ ∃ u, (results fn a'.tmps).run P w' = .ok u w' ∧ (Ending.returned u = .returned (v.den ρ) ∧ Below w.heap.size w w') := by
    intro hr
    unfold retK at hr
    split at hr
    · rename_i vs q hvs
      obtain ⟨hq, he⟩ := okK_iff hr
      obtain ⟨h5, h6⟩ := resS_sound hG.E.T hS hvs hq
      refine ⟨hS.s.nd, _, h5, ?_, ⟨hS.h.os, hS.h.tape, hS.h.output, hS.h.size, fun k hk => hS.h.frame k hk⟩⟩
      rw [eqv_den ρ' _ _ he, SV.den_closed ρ ρ' h1]
    · exact hr.elim
  cases e with
  | normal => exact fin hK
  | ret => exact fin hK
  | exit id => exact hK.elim

/-- A function that the model carries out itself, and that makes nothing. -/
theorem pure_of_extern {P : Program} {f : Nat} {fn : Func} {e : Array Value → Sem Value} (hf : P.funcs[f]? = some fn) (hb : fn.body.isNone = true) (hnm : (fn.name == "runtime.NumGoroutine") = false) (h1 : Extern.findNext fn = none) (h2 : Extern.find fn = some e) {F : PF}
    (h : ∀ args v p, F args = some (v, p) → okP p → v.closed = true ∧ ∀ (ρ : Rho) (w : World), (e (denL ρ args).toArray).run P w = .ok (v.den ρ) w) : PureOk P f F := by
  intro args v p hF hp
  obtain ⟨h3, h4⟩ := h args v p hF hp
  refine ⟨h3, fun ρ w => .inr ⟨v.den ρ, w, ?_, rfl, Below.refl _ _⟩⟩
  simp only [callFunc, Sem.run_bind, run_program, Result.andThen_ok, hf, hnm, hb, Bool.false_eq_true, if_false, if_true, run_mark, h1, h2, h4, Sem.run_pure]

end Go.Sx

/- One state fits another by other names. -/
namespace Go.Sx
open Go.RowKit

/-- Names to names (or to nothing: an empty piece). -/
abbrev Sig := Nm → Option Nm

def Rho.under (ρ : Rho) (σ : Sig) : Rho := fun n => match σ n with
  | some m => ρ m
  | none => none

def sameN : Option Nm → Nm → Prop
  | some m, n => match Nat.beq m n with
    | true => True
    | false => False
  | none, _ => False

theorem sameN_eq {o : Option Nm} {n : Nm} (h : sameN o n) : o = some n := by
  cases o with
  | none => exact h.elim
  | some m =>
    simp only [sameN] at h
    split at h
    · rename_i hb; rw [Nat.eq_of_beq_eq_true hb]
    · exact h.elim

mutual
/-- The first is the second by other names. -/
def eqvR (σ : Sig) : SV → SV → Prop
  | .tt, .tt => True
  | .ff, .ff => True
  | .tt, .bool b => b = true
  | .ff, .bool b => b = false
  | .bool b, .tt => b = true
  | .bool b, .ff => b = false
  | .bool a, .bool b => a = b
  | .int k a, .int k' b => match kEq k k' with
    | true => a = b
    | false => False
  | .flt k a, .flt k' b => match fkEq k k' with
    | true => a = b
    | false => False
  | .str a, .str b => a = b
  | .ptr n o, .ptr n' o' => sameN (σ n') n ∧ o = o'
  | .nilp, .nilp => True
  | .slc n o l c, .slc n' o' l' c' => sameN (σ n') n ∧ o = o' ∧ l = l' ∧ c = c'
  | .nils, .nils => True
  | .slcc n l, .slcc n' l' => sameN (σ n') n ∧ l = l'
  | .nils, .slcc n' l' => match σ n' with
    | none => l' = 0
    | some _ => False
  | .agg a, .agg b => eqvRL σ a b
  | .tup a, .tup b => eqvRL σ a b
  | .ifc t v, .ifc t' v' => match Nat.beq t t' with
    | true => eqvR σ v v'
    | false => False
  | .nili, .nili => True
  | .fn f a c, .fn f' a' c' => f = f' ∧ eqvRL σ a a' ∧ eqvRL σ c c'
  | .nilf, .nilf => True
  | _, _ => False
def eqvRL (σ : Sig) : List SV → List SV → Prop
  | [], [] => True
  | x :: xs, y :: ys => eqvR σ x y ∧ eqvRL σ xs ys
  | _, _ => False
end

theorem under_addr {ρ : Rho} {σ : Sig} {n n' : Nm} (h : sameN (σ n') n) (o : Nat) : ρ.addr n o = (ρ.under σ).addr n' o := by
  simp [Rho.addr, Rho.under, sameN_eq h]
theorem under_cap {ρ : Rho} {σ : Sig} {n n' : Nm} (h : sameN (σ n') n) : ρ.cap n = (ρ.under σ).cap n' := by
  simp [Rho.cap, Rho.under, sameN_eq h]

mutual
theorem eqvR_den (ρ : Rho) (σ : Sig) : ∀ (x y : SV), eqvR σ x y → x.den ρ = y.den (ρ.under σ)
  | .agg a, y, h => by cases y <;> simp only [eqvR] at h; simp [SV.den, eqvRL_den ρ σ a _ h]
  | .tup a, y, h => by cases y <;> simp only [eqvR] at h; simp [SV.den, eqvRL_den ρ σ a _ h]
  | .ifc t v, y, h => by
    cases y <;> simp only [eqvR] at h
    split at h
    · rename_i ht; have := Nat.eq_of_beq_eq_true ht; subst this; simp [SV.den, eqvR_den ρ σ v _ h]
    · exact h.elim
  | .fn f a c, y, h => by
    cases y <;> simp only [eqvR] at h
    obtain ⟨rfl, h1, h2⟩ := h
    simp [SV.den, eqvRL_den ρ σ a _ h1, eqvRL_den ρ σ c _ h2]
  | .int k a, y, h => by
    cases y <;> simp only [eqvR] at h
    split at h
    · rename_i ht; have := kEq_eq ht; subst this; simp [SV.den, h]
    · exact h.elim
  | .flt k a, y, h => by
    cases y <;> simp only [eqvR] at h
    split at h
    · rename_i ht; have := fkEq_eq ht; subst this; simp [SV.den, h]
    · exact h.elim
  | .ptr n o, y, h => by
    cases y <;> simp only [eqvR] at h
    obtain ⟨h1, rfl⟩ := h
    simp [SV.den, under_addr h1]
  | .slc n o l c, y, h => by
    cases y <;> simp only [eqvR] at h
    obtain ⟨h1, rfl, rfl, rfl⟩ := h
    simp [SV.den, under_addr h1]
  | .slcc n l, y, h => by
    cases y <;> simp only [eqvR] at h
    obtain ⟨h1, rfl⟩ := h
    simp [SV.den, under_addr h1, under_cap h1]
  | .nils, y, h => by
    cases y <;> simp only [eqvR] at h
    · rfl
    · split at h
      · rename_i hs; subst h; simp [SV.den, Rho.addr, Rho.cap, Rho.under, hs]
      · exact h.elim
  | .tt, y, h | .ff, y, h | .bool _, y, h | .str _, y, h | .nilp, y, h | .nili, y, h | .nilf, y, h => by
    cases y <;> simp_all [eqvR, SV.den]
theorem eqvRL_den (ρ : Rho) (σ : Sig) : ∀ (x y : List SV), eqvRL σ x y → denL ρ x = denL (ρ.under σ) y
  | [], y, h => by cases y <;> simp_all [eqvRL, denL]
  | x :: r, y, h => by
    cases y with
    | nil => simp [eqvRL] at h
    | cons u s => simp only [eqvRL] at h; simp [denL, eqvR_den ρ σ x u h.1, eqvRL_den ρ σ r s h.2]
end

/-! ### Names below a bound -/
mutual
def SV.und (N : Nat) : SV → Bool
  | .ptr n _ => Nat.blt n N
  | .slc n _ _ _ => Nat.blt n N
  | .slcc n _ => Nat.blt n N
  | .agg cs => undL N cs
  | .tup vs => undL N vs
  | .ifc _ v => v.und N
  | .fn _ a c => undL N a && undL N c
  | _ => true
def undL (N : Nat) : List SV → Bool
  | [] => true
  | v :: r => v.und N && undL N r
end

theorem blt_lt {n m : Nat} (h : Nat.blt n m = true) : n < m := by
  have := Nat.le_of_ble_eq_true h
  omega

mutual
theorem SV.und_bd {N : Nat} : ∀ v : SV, v.und N = true → v.bd (· < N)
  | .ptr n _ => by intro h; exact blt_lt h
  | .slc n _ _ _ => by intro h; exact blt_lt h
  | .slcc n _ => by intro h; exact blt_lt h
  | .agg cs => by simpa [SV.bd, SV.und] using undL_bd cs
  | .tup cs => by simpa [SV.bd, SV.und] using undL_bd cs
  | .ifc _ v => by simpa [SV.bd, SV.und] using SV.und_bd v
  | .fn _ a c => by simpa [SV.bd, SV.und] using fun h1 h2 => ⟨undL_bd a h1, undL_bd c h2⟩
  | .tt | .ff | .bool _ | .int _ _ | .flt _ _ | .str _ | .nilp | .nils | .nili | .nilf => by simp [SV.bd]
theorem undL_bd {N : Nat} : ∀ l : List SV, undL N l = true → bdL (· < N) l
  | [] => by simp [bdL]
  | v :: r => by simpa [bdL, undL] using fun h1 h2 => ⟨SV.und_bd v h1, undL_bd r h2⟩
end

/-! ### Pieces -/
/-- The first piece's cells hold what the second's say, by other names. -/
def contR (σ : Sig) (c c' : Cont) : Prop :=
  match c, c' with
  | .cells l, .cells l' => eqvRL σ l l'
  | .ints k n g, .ints k' n' g' => match kEq k k' with
    | true => n' ≤ n ∧ ∀ i, i < n' → g i = g' i
    | false => False
  | .flts k n g, .flts k' n' g' => match fkEq k k' with
    | true => n' ≤ n ∧ ∀ i, i < n' → g i = g' i
    | false => False
  | .cells l, .ints k n g => match intsOf k l with
    | some xs => n ≤ xs.length ∧ ∀ i, i < n → xs.getD i 0 = g i
    | none => False
  | .cells l, .flts k n g => match fltsOf k l with
    | some xs => n ≤ xs.length ∧ ∀ i, i < n → xs.getD i 0 = g i
    | none => False
  | c, c' => c'.size ≤ c.size ∧ ∀ i, i < c'.size → eqvR σ (c.at i) (c'.at i)

theorem eqvRL_len {σ : Sig} : ∀ {x y : List SV}, eqvRL σ x y → x.length = y.length
  | [], [], _ => rfl
  | [], _ :: _, h => by simp [eqvRL] at h
  | _ :: _, [], h => by simp [eqvRL] at h
  | x :: r, y :: s, h => by simp only [eqvRL] at h; simp [eqvRL_len h.2]

theorem eqvRL_get {σ : Sig} : ∀ {x y : List SV}, eqvRL σ x y → ∀ {i : Nat}, i < y.length → eqvR σ ((getL x i).getD .nilp) ((getL y i).getD .nilp)
  | [], [], _, i, h => by simp at h
  | [], _ :: _, h, _, _ => by simp [eqvRL] at h
  | _ :: _, [], h, _, _ => by simp [eqvRL] at h
  | x :: r, y :: s, h, i, hi => by
    simp only [eqvRL] at h
    cases i with
    | zero => simpa [getL] using h.1
    | succ i => simpa [getL] using eqvRL_get h.2 (by simpa using hi)

theorem contR_spec {σ : Sig} {c c' : Cont} (h : contR σ c c') : c'.size ≤ c.size ∧ ∀ (ρ : Rho) i, i < c'.size → (c.at i).den ρ = (c'.at i).den (ρ.under σ) := by
  unfold contR at h
  split at h
  · refine ⟨by simp [Cont.size, eqvRL_len h], fun ρ i hi => eqvR_den ρ σ _ _ (eqvRL_get h hi)⟩
  · split at h
    · rename_i hk
      have := kEq_eq hk; subst this
      exact ⟨h.1, fun ρ i hi => by simp [Cont.at, SV.den, h.2 i hi]⟩
    · exact h.elim
  · split at h
    · rename_i hk
      have := fkEq_eq hk; subst this
      exact ⟨h.1, fun ρ i hi => by simp [Cont.at, SV.den, h.2 i hi]⟩
    · exact h.elim
  · split at h
    · rename_i xs hx
      have := intsOf_spec hx; subst this
      refine ⟨by simpa [Cont.size] using h.1, fun ρ i hi => ?_⟩
      have hi' : i < xs.length := Nat.lt_of_lt_of_le hi h.1
      have := h.2 i hi
      simp only [Cont.at, getL_eq, List.getElem?_map, List.getElem?_eq_getElem hi', Option.map_some, Option.getD_some, SV.den]
      rw [List.getD_eq_getElem?_getD, List.getElem?_eq_getElem hi', Option.getD_some] at this
      rw [this]
    · exact h.elim
  · split at h
    · rename_i xs hx
      have := fltsOf_spec hx; subst this
      refine ⟨by simpa [Cont.size] using h.1, fun ρ i hi => ?_⟩
      have hi' : i < xs.length := Nat.lt_of_lt_of_le hi h.1
      have := h.2 i hi
      simp only [Cont.at, getL_eq, List.getElem?_map, List.getElem?_eq_getElem hi', Option.map_some, Option.getD_some, SV.den]
      rw [List.getD_eq_getElem?_getD, List.getElem?_eq_getElem hi', Option.getD_some] at this
      rw [this]
    · exact h.elim
  · exact ⟨h.1, fun ρ i hi => eqvR_den ρ σ _ _ (h.2 i hi)⟩

/-- The first piece will do for the second. -/
def obR (σ : Sig) (o o' : Ob) : Prop :=
  match o'.rw with
  | false => contR σ o.c o'.c
  | true => match o.rw with
    | false => False
    | true => o.elem = o'.elem ∧ o.es = o'.es ∧ contR σ o.c o'.c

theorem obR_spec {σ : Sig} {o o' : Ob} (h : obR σ o o') : contR σ o.c o'.c ∧ (o'.rw = true → o.rw = true ∧ o.elem = o'.elem ∧ o.es = o'.es) := by
  unfold obR at h
  split at h
  · rename_i hr; exact ⟨h, fun h' => by rw [hr] at h'; cases h'⟩
  · split at h
    · exact h.elim
    · rename_i hr; exact ⟨h.2.2, fun _ => ⟨hr, h.1, h.2.1⟩⟩

theorem OSat.other {w : World} {ρ : Rho} {σ : Sig} {o o' : Ob} (h : obR σ o o') {p : Option (Nat × Nat × Nat)} (hs : OSat w ρ o p) : OSat w (ρ.under σ) o' p := by
  obtain ⟨hc, hr⟩ := obR_spec h
  obtain ⟨h1, h2⟩ := contR_spec hc
  cases p with
  | none =>
    have : o.c.size = 0 := hs
    show o'.c.size = 0
    omega
  | some q =>
    obtain ⟨b, off, cp⟩ := q
    refine ⟨fun i hi => ?_, fun h' => ?_⟩
    · rw [← h2 ρ i hi]; exact hs.1 i (by omega)
    · obtain ⟨h3, h4, h5⟩ := hr h'
      obtain ⟨h6, arr, h7, h8, h9, h10⟩ := hs.2 h3
      exact ⟨h6, arr, by rw [← h4]; exact h7, by omega, fun hh => by rw [← h5]; exact h9 (by rw [h5]; exact hh), h10⟩

/-! ### Contents below a bound -/
def Cont.und (N : Nat) : Cont → Prop
  | .cells l => undL N l = true
  | .ints _ _ _ => True
  | .flts _ _ _ => True
  | .gen n f => ∀ i, i < n → (f i).und N = true

theorem Cont.und_bd {N : Nat} {c : Cont} (h : c.und N) : c.bd (· < N) := by
  intro i hi
  cases c with
  | cells l =>
    have := undL_bd l h
    have hi' : i < l.length := hi
    simp only [Cont.at, getL_eq, List.getElem?_eq_getElem hi', Option.getD_some]
    exact (bdL_iff _ l).1 this _ (List.getElem_mem hi')
  | ints k n g => trivial
  | flts k n g => trivial
  | gen n f => exact SV.und_bd _ (h i hi)

/-! ### A state fits another -/
abbrev SigL := List (Nm × Option Nm)
def sigAt : SigL → Sig
  | [], n => some n
  | (m, x) :: r, n => match Nat.beq m n with
    | true => x
    | false => sigAt r n

def slotsR (σ : Sig) (sl : Slots) (N : Nat) : Slots → Prop
  | [] => True
  | (t, v') :: r => (match slot sl t with
    | some v => v'.und N = true ∧ eqvR σ v v'
    | none => False) ∧ slotsR σ sl N r

def heapR (σ : Sig) (H : Heap) (N : Nat) : Heap → Prop
  | [] => True
  | (n, o') :: r => (Nat.blt n N = true ∧ o'.c.und N ∧ match σ n with
    | some m => match look H m with
      | some o => obR σ o o'
      | none => False
    | none => o'.c.size = 0) ∧ heapR σ H N r

def memN (n : Nm) : List Nm → Bool
  | [] => false
  | m :: r => Nat.beq m n || memN n r
def distN : List Nm → Bool
  | [] => true
  | n :: r => !memN n r && distN r
def images (σ : Sig) : Heap → List Nm
  | [] => []
  | (n, _) :: r => match σ n with
    | some m => m :: images σ r
    | none => images σ r
def fixN (N0 : Nat) : SigL → Bool
  | [] => true
  | (n, _) :: r => Nat.ble N0 n && fixN N0 r

theorem fixN_spec {N0 : Nat} : ∀ {s : SigL}, fixN N0 s = true → ∀ n, n < N0 → sigAt s n = some n
  | [], _, n, _ => rfl
  | (m, x) :: r, h, n, hn => by
    simp only [fixN, Bool.and_eq_true] at h
    have hm := Nat.le_of_ble_eq_true h.1
    simp only [sigAt]
    cases hb : Nat.beq m n
    · exact fixN_spec h.2 n hn
    · have := Nat.eq_of_beq_eq_true hb; omega

theorem memN_of {σ : Sig} {n m : Nm} : ∀ {H : Heap} {o : Ob}, look H n = some o → σ n = some m → memN m (images σ H) = true
  | [], o, h, _ => by simp [look] at h
  | (k, u) :: r, o, h, hs => by
    rw [look_cons] at h
    simp only [images]
    split at h
    · rename_i e; subst e; simp [hs, memN]
    · have := memN_of h hs
      split
      · simp [memN, this]
      · exact this

theorem dist_inj {σ : Sig} : ∀ {H : Heap}, distN (images σ H) = true → ∀ {n m : Nm} {o o' : Ob} {x : Nm}, look H n = some o → look H m = some o' → n ≠ m → σ n = some x → σ m = some x → False
  | [], _, n, m, o, o', x, h, _, _, _, _ => by simp [look] at h
  | (k, u) :: r, hd, n, m, o, o', x, hn, hm, hne, h1, h2 => by
    rw [look_cons] at hn hm
    simp only [images] at hd
    split at hn
    · rename_i e; subst e
      rw [if_neg hne] at hm
      rw [h1] at hd
      simp only [distN, Bool.and_eq_true, Bool.not_eq_true'] at hd
      rw [memN_of hm h2] at hd
      exact absurd hd.1 (by decide)
    · split at hm
      · rename_i e; subst e
        rw [h2] at hd
        simp only [distN, Bool.and_eq_true, Bool.not_eq_true'] at hd
        rw [memN_of hn h1] at hd
        exact absurd hd.1 (by decide)
      · refine dist_inj ?_ hn hm hne h1 h2
        split at hd
        · simp only [distN, Bool.and_eq_true] at hd; exact hd.2
        · exact hd

theorem slotsR_spec {σ : Sig} {sl : Slots} {N : Nat} : ∀ {sl' : Slots}, slotsR σ sl N sl' → ∀ t v', slot sl' t = some v' → v'.und N = true ∧ ∃ v, slot sl t = some v ∧ eqvR σ v v'
  | [], _, t, v', h => by simp [slot] at h
  | (s, u) :: r, h, t, v', hv => by
    simp only [slotsR] at h
    rw [slot_cons] at hv
    split at hv
    · rename_i e; subst e
      simp only [Option.some.injEq] at hv
      subst hv
      have h1 := h.1
      split at h1
      · rename_i v hsv; exact ⟨h1.1, v, hsv, h1.2⟩
      · exact h1.elim
    · exact slotsR_spec h.2 t v' hv

theorem heapR_spec {σ : Sig} {H : Heap} {N : Nat} : ∀ {H' : Heap}, heapR σ H N H' → ∀ n o', look H' n = some o' → n < N ∧ o'.c.bd (· < N) ∧
    ((∃ m o, σ n = some m ∧ look H m = some o ∧ obR σ o o') ∨ (σ n = none ∧ o'.c.size = 0))
  | [], _, n, o', h => by simp [look] at h
  | (s, u) :: r, h, n, o', ho => by
    simp only [heapR] at h
    rw [look_cons] at ho
    split at ho
    · rename_i e; subst e
      simp only [Option.some.injEq] at ho
      subst ho
      obtain ⟨⟨h1, h2, h3⟩, _⟩ := h
      refine ⟨blt_lt h1, Cont.und_bd h2, ?_⟩
      split at h3
      · rename_i m hm
        split at h3
        · rename_i o hmo; exact .inl ⟨m, o, hm, hmo, h3⟩
        · exact h3.elim
      · rename_i hm; exact .inr ⟨hm, h3⟩
    · exact heapR_spec h.2 n o' ho

theorem HSat.other {W0 : World} {Fr : Nat → Prop} {U : Nm → Prop} {H H' : Heap} {ρ : Rho} {w : World} {σ : Sig} {N : Nat} (h : HSat W0 Fr U H ρ w) (hh : heapR σ H N H') (hd : distN (images σ H') = true) :
    HSat W0 Fr (· < N) H' (ρ.under σ) w where
  os := h.os
  tape := h.tape
  output := h.output
  size := h.size
  frlt := h.frlt
  frame := h.frame
  used := fun n o' hn => (heapR_spec hh n o' hn).1
  bd := fun n o' hn => (heapR_spec hh n o' hn).2.1
  obj := fun n o' hn => by
    rcases (heapR_spec hh n o' hn).2.2 with ⟨m, o, h1, h2, h3⟩ | ⟨h1, h2⟩
    · have := OSat.other h3 (h.obj m o h2)
      simpa [Rho.under, h1] using this
    · simp only [Rho.under, h1]; exact h2
  inj := fun n m o o' p q hn hm hne hr hr2 hp hq => by
    rcases (heapR_spec hh n o hn).2.2 with ⟨n1, o1, h1, h2, h3⟩ | ⟨h1, h2⟩
    · rcases (heapR_spec hh m o' hm).2.2 with ⟨n2, o2, h4, h5, h6⟩ | ⟨h4, h5⟩
      · simp only [Rho.under, h1, h4] at hp hq
        have hne2 : n1 ≠ n2 := fun e => dist_inj hd hn hm hne h1 (e ▸ h4)
        obtain ⟨hc, hr'⟩ := obR_spec h3
        obtain ⟨hc2, hr2'⟩ := obR_spec h6
        refine h.inj n1 n2 o1 o2 p q h2 h5 hne2 (hr' hr).1 ?_ hp hq
        rcases hr2 with hr2 | hr2
        · exact .inl (hr2' hr2).1
        · exact .inr (Nat.lt_of_lt_of_le hr2 (contR_spec hc2).1)
      · simp only [Rho.under, h4] at hq; cases hq
    · simp only [Rho.under, h1] at hp; cases hp
  free := fun n o' p hn hr hp => by
    rcases (heapR_spec hh n o' hn).2.2 with ⟨m, o, h1, h2, h3⟩ | ⟨h1, h2⟩
    · simp only [Rho.under, h1] at hp
      exact h.free m o p h2 ((obR_spec h3).2 hr).1 hp
    · simp only [Rho.under, h1] at hp; cases hp

structure FitsOk (N0 : Nat) (s : SigL) (S S' : St) : Prop where
  N : Nat.ble N0 S'.N = true
  fx : fixN N0 s = true
  nt : S'.nt = S.nt
  dist : distN (images (sigAt s) S'.H) = true
  sl : slotsR (sigAt s) S.sl S'.N S'.sl
  hp : heapR (sigAt s) S.H S'.N S'.H

theorem Refines.by_names {N0 : Nat} {S S' : St} (s : SigL) (h : FitsOk N0 s S S') : Refines N0 S S' := by
  refine ⟨Nat.le_of_ble_eq_true h.N, fun W0 Fr ρ a w hS => ⟨ρ.under (sigAt s), ⟨hS.h.other h.hp h.dist, ?_⟩, fun n hn => by simp [Rho.under, fixN_spec h.fx n hn]⟩⟩
  exact {
    nd := hS.s.nd
    size := by rw [hS.s.size, h.nt]
    bd := fun t v hv => SV.und_bd _ (slotsR_spec h.sl t v hv).1
    val := fun t v hv => by
      obtain ⟨_, u, hu, he⟩ := slotsR_spec h.sl t v hv
      rw [← eqvR_den ρ (sigAt s) u v he]
      exact hS.s.val t u hu }

end Go.Sx

/- Contracts that read and write memory, by names of their own. -/
namespace Go.Sx
open Go.RowKit

mutual
def SV.ren (θ : Nm → Nm) : SV → SV
  | .ptr n o => .ptr (θ n) o
  | .slc n o l c => .slc (θ n) o l c
  | .slcc n l => .slcc (θ n) l
  | .agg cs => .agg (renL θ cs)
  | .tup vs => .tup (renL θ vs)
  | .ifc t v => .ifc t (v.ren θ)
  | .fn f a c => .fn f (renL θ a) (renL θ c)
  | .tt => .tt
  | .ff => .ff
  | .bool b => .bool b
  | .int k n => .int k n
  | .flt k n => .flt k n
  | .str s => .str s
  | .nilp => .nilp
  | .nils => .nils
  | .nili => .nili
  | .nilf => .nilf
def renL (θ : Nm → Nm) : List SV → List SV
  | [] => []
  | v :: r => v.ren θ :: renL θ r
end

mutual
theorem SV.ren_den (ρ : Rho) (θ : Nm → Nm) : ∀ v : SV, (v.ren θ).den ρ = v.den fun i => ρ (θ i)
  | .ptr n o => by simp [SV.ren, SV.den, Rho.addr]
  | .slc n o l c => by simp [SV.ren, SV.den, Rho.addr]
  | .slcc n l => by simp [SV.ren, SV.den, Rho.addr, Rho.cap]
  | .agg cs => by simp [SV.ren, SV.den, renL_den ρ θ cs]
  | .tup cs => by simp [SV.ren, SV.den, renL_den ρ θ cs]
  | .ifc t v => by simp [SV.ren, SV.den, SV.ren_den ρ θ v]
  | .fn f a c => by simp [SV.ren, SV.den, renL_den ρ θ a, renL_den ρ θ c]
  | .tt | .ff | .bool _ | .int _ _ | .flt _ _ | .str _ | .nilp | .nils | .nili | .nilf => by simp [SV.ren, SV.den]
theorem renL_den (ρ : Rho) (θ : Nm → Nm) : ∀ l : List SV, denL ρ (renL θ l) = denL (fun i => ρ (θ i)) l
  | [] => by simp [renL, denL]
  | v :: r => by simp [renL, denL, SV.ren_den ρ θ v, renL_den ρ θ r]
end

mutual
theorem SV.ren_bd {U V : Nm → Prop} {θ : Nm → Nm} (h : ∀ n, U n → V (θ n)) : ∀ v : SV, v.bd U → (v.ren θ).bd V
  | .ptr n o => by simpa [SV.ren, SV.bd] using h n
  | .slc n o l c => by simpa [SV.ren, SV.bd] using h n
  | .slcc n l => by simpa [SV.ren, SV.bd] using h n
  | .agg cs => by simpa [SV.ren, SV.bd] using renL_bd h cs
  | .tup cs => by simpa [SV.ren, SV.bd] using renL_bd h cs
  | .ifc t v => by simpa [SV.ren, SV.bd] using SV.ren_bd h v
  | .fn f a c => by simpa [SV.ren, SV.bd] using fun h1 h2 => ⟨renL_bd h a h1, renL_bd h c h2⟩
  | .tt | .ff | .bool _ | .int _ _ | .flt _ _ | .str _ | .nilp | .nils | .nili | .nilf => by simp [SV.ren, SV.bd]
theorem renL_bd {U V : Nm → Prop} {θ : Nm → Nm} (h : ∀ n, U n → V (θ n)) : ∀ l : List SV, bdL U l → bdL V (renL θ l)
  | [] => by simp [renL, bdL]
  | v :: r => by simpa [renL, bdL] using fun h1 h2 => ⟨SV.ren_bd h v h1, renL_bd h r h2⟩
end

theorem renL_len (θ : Nm → Nm) : ∀ l : List SV, (renL θ l).length = l.length
  | [] => rfl
  | v :: r => by simp [renL, renL_len θ r]
theorem renL_get (θ : Nm → Nm) : ∀ (l : List SV) (i : Nat), i < l.length → (getL (renL θ l) i).getD .nilp = ((getL l i).getD .nilp).ren θ
  | [], i, h => by simp at h
  | v :: r, 0, _ => by simp [renL, getL]
  | v :: r, i + 1, h => by simpa [renL, getL] using renL_get θ r i (by simpa using h)

def Cont.ren (θ : Nm → Nm) : Cont → Cont
  | .cells l => .cells (renL θ l)
  | .ints k n g => .ints k n g
  | .flts k n g => .flts k n g
  | .gen n f => .gen n fun i => (f i).ren θ

theorem Cont.ren_spec (θ : Nm → Nm) (c : Cont) : (c.ren θ).size = c.size ∧ ∀ i, i < c.size → (c.ren θ).at i = (c.at i).ren θ := by
  cases c with
  | cells l => exact ⟨by simp [Cont.ren, Cont.size, renL_len], fun i hi => by simp only [Cont.ren, Cont.at]; exact renL_get θ l i hi⟩
  | ints k n g => exact ⟨rfl, fun i hi => by simp [Cont.ren, Cont.at, SV.ren]⟩
  | flts k n g => exact ⟨rfl, fun i hi => by simp [Cont.ren, Cont.at, SV.ren]⟩
  | gen n f => exact ⟨rfl, fun i hi => rfl⟩

def Ob.ren (θ : Nm → Nm) (o : Ob) : Ob := ⟨o.rw, o.elem, o.c.ren θ, o.es⟩
def renH (θ : Nm → Nm) : Heap → Heap
  | [] => []
  | (n, o) :: r => (θ n, o.ren θ) :: renH θ r

theorem look_ren {θ : Nm → Nm} {n : Nm} {o : Ob} : ∀ {h : Heap}, look (renH θ h) n = some o → ∃ i o0, look h i = some o0 ∧ θ i = n ∧ o = o0.ren θ
  | [], h => by simp [renH, look] at h
  | (m, u) :: r, h => by
    simp only [renH, look_cons] at h
    split at h
    · rename_i e
      simp only [Option.some.injEq] at h
      exact ⟨m, u, by simp [look_cons], e, h.symm⟩
    · rename_i e
      obtain ⟨i, o0, h1, h2, h3⟩ := look_ren h
      exact ⟨i, o0, by rw [look_cons, if_neg (fun e' => e (by rw [e', h2]))]; exact h1, h2, h3⟩

theorem look_ren_some {θ : Nm → Nm} {i : Nm} {o : Ob} : ∀ {h : Heap}, look h i = some o → ∃ o', look (renH θ h) (θ i) = some o'
  | [], h => by simp [look] at h
  | (m, u) :: r, h => by
    rw [look_cons] at h
    simp only [renH, look_cons]
    split
    · exact ⟨_, rfl⟩
    · rename_i e
      split at h
      · rename_i e'; subst e'; exact absurd rfl e
      · exact look_ren_some h

/-! ### What a contract reads, and what it gives -/
structure HC where
  args : List SV
  heap : Heap
  val : SV
  wr : Heap
  news : Heap
  obl : Option Prop

inductive RdM where
  | fail
  | ret (hc : HC)
  | read (n : Nm) (k : Ob → RdM)

def RdM.run (rd : Nm → Option Ob) : RdM → List Nm → Option (List Nm × HC)
  | .fail, _ => none
  | .ret hc, sg => some (sg, hc)
  | .read n k, sg => match rd n with
    | some o => (k o).run rd (sg ++ [n])
    | none => none

/-- What holds of all that it may come to. -/
def RdM.All (Q : List (Nm × Ob) → HC → Prop) : RdM → List (Nm × Ob) → Prop
  | .fail, _ => True
  | .ret hc, acc => Q acc hc
  | .read n k, acc => ∀ o, (k o).All Q (acc ++ [(n, o)])

def fsts : List (Nm × Ob) → List Nm
  | [] => []
  | (n, _) :: r => n :: fsts r
theorem fsts_append : ∀ a b, fsts (a ++ b) = fsts a ++ fsts b
  | [], b => rfl
  | (n, o) :: r, b => by simp [fsts, fsts_append r b]

theorem RdM.all_run {rd : Nm → Option Ob} {Q : List (Nm × Ob) → HC → Prop} : ∀ {m : RdM} {acc : List (Nm × Ob)} {sg : List Nm} {hc : HC}, m.All Q acc → (∀ p ∈ acc, rd p.1 = some p.2) → m.run rd (fsts acc) = some (sg, hc) →
    ∃ acc', fsts acc' = sg ∧ (∀ p ∈ acc', rd p.1 = some p.2) ∧ Q acc' hc
  | .fail, _, _, _, _, _, h => by simp [RdM.run] at h
  | .ret hc', acc, sg, hc, hq, hacc, h => by
    simp only [RdM.run, Option.some.injEq, Prod.mk.injEq] at h
    obtain ⟨rfl, rfl⟩ := h
    exact ⟨acc, rfl, hacc, hq⟩
  | .read n k, acc, sg, hc, hq, hacc, h => by
    simp only [RdM.run] at h
    split at h
    · rename_i o ho
      refine RdM.all_run (hq o) (acc := acc ++ [(n, o)]) (fun p hp => ?_) (by rw [fsts_append]; exact h)
      rcases List.mem_append.1 hp with hp | hp
      · exact hacc p hp
      · simp only [List.mem_singleton] at hp; subst hp; exact ho
    · cases h

theorem RdM.run_sg {rd : Nm → Option Ob} : ∀ {m : RdM} {sg sg' : List Nm} {hc : HC}, m.run rd sg = some (sg', hc) → ∀ n ∈ sg, n ∈ sg'
  | .fail, _, _, _, h => by simp [RdM.run] at h
  | .ret hc', sg, sg', hc, h => by
    simp only [RdM.run, Option.some.injEq, Prod.mk.injEq] at h
    obtain ⟨rfl, rfl⟩ := h
    exact fun n hn => hn
  | .read n k, sg, sg', hc, h => by
    simp only [RdM.run] at h
    split at h
    · exact fun m hm => RdM.run_sg h m (List.mem_append_left _ hm)
    · cases h

theorem RdM.run_loc {rd rd' : Nm → Option Ob} : ∀ {m : RdM} {sg sg' : List Nm} {hc : HC}, m.run rd sg = some (sg', hc) → (∀ n ∈ sg', rd' n = rd n) → m.run rd' sg = some (sg', hc)
  | .fail, _, _, _, h, _ => by simp [RdM.run] at h
  | .ret hc', sg, sg', hc, h, _ => h
  | .read n k, sg, sg', hc, h, hr => by
    simp only [RdM.run] at h ⊢
    split at h
    · rename_i o ho
      have hn : n ∈ sg' := RdM.run_sg h n (by simp)
      rw [hr n hn, ho]
      exact RdM.run_loc h hr
    · cases h

def theta (sg : List Nm) (nm : Nm) : Nm → Nm := fun i => match nth sg i with
  | some n => n
  | none => nm + (i - sg.length)

def conR (C : List SV → RdM) : Con := fun args rd nm => match (C args).run rd [] with
  | some (sg, hc) => match distN sg with
    | true => some ⟨some (hc.val.ren (theta sg nm)), renH (theta sg nm) hc.wr, renH (theta sg nm) hc.news, sg, hc.obl⟩
    | false => none
  | none => none

/-- The pieces that were read are those that the call begins with. -/
def preR (σ : Sig) (N : Nat) : Nat → List (Nm × Ob) → Heap → Prop
  | _, [], [] => True
  | i, (_, o) :: r, (j, o') :: r' => Nat.beq i j = true ∧ o'.c.und N ∧ obR σ o o' ∧ preR σ N (i + 1) r r'
  | _, _, _ => False

/-- Written: only what came in to be written, and all of that. New: only what may be written. -/
def keysLt (k : Nat) (H0 : Heap) : Heap → Bool
  | [] => true
  | (i, _) :: r => (Nat.blt i k && match look H0 i with
    | some o => o.rw
    | none => false) && keysLt k H0 r
def keysGe (k : Nat) : Heap → Bool
  | [] => true
  | (i, o) :: r => (Nat.ble k i && Nat.blt i (k + 4) && o.rw) && keysGe k r
def rwIn (wr : Heap) : Heap → Bool
  | [] => true
  | (i, o) :: r => (match o.rw with
    | true => match look wr i with
      | some _ => true
      | none => false
    | false => true) && rwIn wr r

def sgSig (sg : List Nm) : Sig := fun i => nth sg i
def tauSig (k : Nat) (tau : List (Option Nm)) : Sig := fun i => match Nat.blt i k with
  | true => some i
  | false => match nth tau (i - k) with
    | some x => x
    | none => none

structure PostOk (k : Nat) (hc : HC) (S : St) (v : SV) (tau : List (Option Nm)) : Prop where
  val : eqvR (tauSig k tau) v hc.val
  vu : hc.val.und (k + 4) = true
  hp : heapR (tauSig k tau) S.H (k + 4) (hc.wr ++ hc.news)
  dist : distN (images (tauSig k tau) (hc.wr ++ hc.news)) = true

structure CallOkW (P : Program) (G : Ctx) (c : Code) (fn : Func) (args : List SV) (acc : List (Nm × Ob)) (hc : HC) : Prop where
  args : eqvRL (sgSig (fsts acc)) args hc.args
  argsU : undL acc.length hc.args = true
  argsN : Nat.ble hc.args.length fn.ntmps = true
  pre : preR (sgSig (fsts acc)) acc.length 0 acc hc.heap
  wr : keysLt acc.length hc.heap hc.wr = true
  news : keysGe acc.length hc.news = true
  rw : rwIn hc.wr hc.heap = true
  run : Wp P acc.length c (init fn.ntmps hc.args hc.heap acc.length) (endK G.E.T fn.results.toList fun S v => ∃ tau, PostOk acc.length hc S v tau)

structure CallOk (G : Ctx) (c : Code) (fn : Func) (args : List SV) (acc : List (Nm × Ob)) (hc : HC) : Prop where
  args : eqvRL (sgSig (fsts acc)) args hc.args
  argsU : undL acc.length hc.args = true
  argsN : Nat.ble hc.args.length fn.ntmps = true
  pre : preR (sgSig (fsts acc)) acc.length 0 acc hc.heap
  wr : keysLt acc.length hc.heap hc.wr = true
  news : keysGe acc.length hc.news = true
  rw : rwIn hc.wr hc.heap = true
  run : runC G acc.length c (init fn.ntmps hc.args hc.heap acc.length) (endK G.E.T fn.results.toList fun S v => ∃ tau, PostOk acc.length hc S v tau)

theorem fsts_len : ∀ a, (fsts a).length = a.length
  | [] => rfl
  | (n, o) :: r => by simp [fsts, fsts_len r]

theorem fsts_get : ∀ (a : List (Nm × Ob)) (i : Nat), nth (fsts a) i = (a[i]?).map (·.1)
  | [], i => by simp [fsts, nth]
  | (n, o) :: r, 0 => by simp [fsts, nth]
  | (n, o) :: r, i + 1 => by simp [fsts, nth, fsts_get r i]

theorem preR_heapR {σ : Sig} {N : Nat} {H : Heap} : ∀ {i : Nat} {acc : List (Nm × Ob)} {h : Heap}, preR σ N i acc h → (∀ p ∈ acc, look H p.1 = some p.2) → (∀ j, j < acc.length → σ (i + j) = (acc[j]?).map (·.1)) → i + acc.length ≤ N → heapR σ H N h
  | _, [], [], _, _, _, _ => trivial
  | _, [], _ :: _, h, _, _, _ => by simp [preR] at h
  | _, _ :: _, [], h, _, _, _ => by simp [preR] at h
  | i, (n, o) :: r, (j, o') :: r', h, hl, hs, hN => by
    obtain ⟨h1, h2, h3, h4⟩ := h
    have hij := Nat.eq_of_beq_eq_true h1
    subst hij
    have h0 := hs 0 (by simp)
    simp only [Nat.add_zero, List.getElem?_cons_zero, Option.map_some] at h0
    simp only [heapR]
    refine ⟨⟨?_, h2, ?_⟩, preR_heapR h4 (fun p hp => hl p (by simp [hp])) (fun j hj => by
      have := hs (j + 1) (by simpa using hj)
      simpa [Nat.add_assoc, Nat.add_comm 1 j] using this) (by simp at hN; omega)⟩
    · refine Nat.ble_eq_true_of_le ?_
      simp at hN; omega
    · rw [h0]
      have := hl (n, o) (by simp)
      simp only at this
      simp only [this]
      exact h3

theorem preR_keys {σ : Sig} {N : Nat} : ∀ {i : Nat} {acc : List (Nm × Ob)} {h : Heap}, preR σ N i acc h → ∀ (j : Nat) o, look h j = some o → i ≤ j ∧ j < i + acc.length
  | _, [], [], _, j, o, h => by simp [look] at h
  | _, [], _ :: _, h, _, _, _ => by simp [preR] at h
  | _, _ :: _, [], h, _, _, _ => by simp [preR] at h
  | i, (n, o) :: r, (k, o') :: r', h, j, u, hu => by
    obtain ⟨h1, h2, h3, h4⟩ := h
    have hij := Nat.eq_of_beq_eq_true h1
    subst hij
    rw [look_cons] at hu
    split at hu
    · rename_i e; subst e; simp only [List.length_cons]; omega
    · have := preR_keys h4 j u hu
      simp only [List.length_cons]
      omega

theorem images_dist {sg : List Nm} (hd : distN sg = true) {σ : Sig} {N : Nat} : ∀ {i : Nat} {acc : List (Nm × Ob)} {h : Heap}, preR σ N i acc h → (∀ j, j < acc.length → σ (i + j) = (acc[j]?).map (·.1)) → images σ h = fsts acc
  | _, [], [], _, _ => rfl
  | _, [], _ :: _, h, _ => by simp [preR] at h
  | _, _ :: _, [], h, _ => by simp [preR] at h
  | i, (n, o) :: r, (k, o') :: r', h, hs => by
    obtain ⟨h1, h2, h3, h4⟩ := h
    have hij := Nat.eq_of_beq_eq_true h1
    subst hij
    have h0 := hs 0 (by simp)
    simp only [Nat.add_zero, List.getElem?_cons_zero, Option.map_some] at h0
    simp only [images, h0, fsts]
    rw [images_dist hd h4 (fun j hj => by
      have := hs (j + 1) (by simpa using hj)
      simpa [Nat.add_assoc, Nat.add_comm 1 j] using this)]

theorem keysLt_spec {k : Nat} {H0 : Heap} : ∀ {h : Heap}, keysLt k H0 h = true → ∀ (i : Nat) o, look h i = some o → i < k ∧ ∃ o0, look H0 i = some o0 ∧ o0.rw = true
  | [], _, i, o, h => by simp [look] at h
  | (m, u) :: r, h, i, o, hi => by
    simp only [keysLt, Bool.and_eq_true] at h
    rw [look_cons] at hi
    split at hi
    · rename_i e; subst e
      refine ⟨blt_lt h.1.1, ?_⟩
      have h2 := h.1.2
      split at h2
      · rename_i o0 h0; exact ⟨o0, h0, h2⟩
      · cases h2
    · exact keysLt_spec h.2 i o hi

theorem keysGe_spec {k : Nat} : ∀ {h : Heap}, keysGe k h = true → ∀ (i : Nat) o, look h i = some o → k ≤ i ∧ i < k + 4 ∧ o.rw = true
  | [], _, i, o, h => by simp [look] at h
  | (m, u) :: r, h, i, o, hi => by
    simp only [keysGe, Bool.and_eq_true] at h
    rw [look_cons] at hi
    split at hi
    · rename_i e; subst e
      simp only [Option.some.injEq] at hi
      subst hi
      exact ⟨Nat.le_of_ble_eq_true h.1.1.1, blt_lt h.1.1.2, h.1.2⟩
    · exact keysGe_spec h.2 i o hi

theorem rwIn_spec {wr : Heap} : ∀ {h : Heap}, rwIn wr h = true → ∀ i o, look h i = some o → o.rw = true → ∃ o', look wr i = some o'
  | [], _, i, o, h, _ => by simp [look] at h
  | (m, u) :: r, h, i, o, hi, hr => by
    simp only [rwIn, Bool.and_eq_true] at h
    rw [look_cons] at hi
    split at hi
    · rename_i e; subst e
      simp only [Option.some.injEq] at hi
      subst hi
      have h1 := h.1
      rw [hr] at h1
      simp only at h1
      split at h1
      · rename_i o' ho'; exact ⟨o', ho'⟩
      · cases h1
    · exact rwIn_spec h.2 i o hi hr

theorem Ob.ren_sat {w : World} {ρ ρ2 : Rho} {θ : Nm → Nm} {N : Nat} {o : Ob} {p : Option (Nat × Nat × Nat)} (h : OSat w ρ o p) (hb : o.c.bd (· < N)) (hθ : ∀ i, i < N → ρ2 (θ i) = ρ i) : OSat w ρ2 (o.ren θ) p := by
  obtain ⟨h1, h2⟩ := Cont.ren_spec θ o.c
  have hd : ∀ i, i < o.c.size → ((o.c.ren θ).at i).den ρ2 = (o.c.at i).den ρ := fun i hi => by
    rw [h2 i hi, SV.ren_den]
    exact SV.den_congr (U := (· < N)) hθ _ (hb i hi)
  cases p with
  | none =>
    have h0 : o.c.size = 0 := h
    show (o.c.ren θ).size = 0
    omega
  | some q =>
    obtain ⟨b, off, cp⟩ := q
    refine ⟨fun i hi => ?_, fun hr => ?_⟩
    · have hi' : i < o.c.size := by rw [← h1]; exact hi
      show _ = some (((o.c.ren θ).at i).den ρ2)
      rw [hd i hi']
      exact h.1 i hi'
    · obtain ⟨h3, arr, h4, h5⟩ := h.2 hr
      refine ⟨h3, arr, h4, ?_⟩
      show (o.c.ren θ).size ≤ _ ∧ _
      rw [h1]
      exact h5

theorem conR_okW {P : Program} {G : Ctx} (hG : CtxOk P G) {f : Nat} {fn : Func} {c : Code} (hf : P.funcs[f]? = some fn) (hb : fn.body = some c) (hnm : (fn.name == "runtime.NumGoroutine") = false) {C : List SV → RdM}
    (h : ∀ args, (C args).All (fun acc hc => okP hc.obl → CallOkW P G c fn args acc hc) []) : ConOk P f (conR C) where
  loc := by
    intro args rd rd' nm e hc hr
    unfold conR at *
    split at hc
    · rename_i sg hc0 hrun
      split at hc
      · rename_i hd
        have he := hc
        simp only [Option.some.injEq] at he
        subst he
        simp only [RdM.run_loc hrun hr, hd]
      · cases hc
    · cases hc
  calls := by
    intro W0 Fr U H ρ w nm args e hH hbd hn hc ho
    unfold conR at hc
    split at hc
    case h_2 => cases hc
    rename_i sg hc0 hrun
    split at hc
    case h_2 => cases hc
    rename_i hd
    simp only [Option.some.injEq] at hc
    subst hc
    obtain ⟨acc, hacc, hlook, hQ⟩ := RdM.all_run (rd := look H) (h args) (acc := []) (by simp) hrun
    have hcall := hQ ho
    subst hacc
    have hσ : ∀ j, j < acc.length → sgSig (fsts acc) (0 + j) = (acc[j]?).map (·.1) := fun j _ => by rw [Nat.zero_add]; exact fsts_get acc j
    have hhp : heapR (sgSig (fsts acc)) H acc.length hc0.heap := preR_heapR hcall.pre hlook hσ (by omega)
    have hs0 := hH.other hhp (by rw [images_dist hd hcall.pre hσ]; exact hd)
    -- where the call may not write
    let ρc : Rho := ρ.under (sgSig (fsts acc))
    let Frc : Nat → Prop := fun b => b < w.heap.size ∧ ∀ i o p, look hc0.heap i = some o → o.rw = true → ρc i = some p → p.1 ≠ b
    have hs1 : HSat w Frc (· < acc.length) hc0.heap ρc w :=
      { hs0 with
        os := rfl, tape := rfl, output := rfl, size := Nat.le_refl _
        frlt := fun b hb => hb.1
        frame := fun _ _ => rfl
        free := fun n o p hn hr hp hF => hF.2 n o p hn hr hp rfl }
    have hargs : denL ρ args = denL ρc hc0.args := eqvRL_den ρ _ _ _ hcall.args
    refine .inl ⟨⟨fn, hf, hnm, by rw [hb]; rfl⟩, ?_⟩
    refine calls_of_wp hf hb ?_
    rw [hargs]
    refine hcall.run w Frc ρc ρc _ w _ (sat_init hs1 (undL_bd _ hcall.argsU) (Nat.le_of_ble_eq_true hcall.argsN)) (Nat.le_refl _) (fun _ _ => rfl) ?_
    intro e S' ρ' a' w' hK hS hN hρ
    have fin : retK G.E.T fn.results.toList (fun S v => ∃ tau, PostOk acc.length hc0 S v tau) S' → a'.defers = [] ∧ ∃ u, (results fn a'.tmps).run P w' = .ok u w' ∧
        (∃ ρ2, (∀ n, U n → ρ2 n = ρ n) ∧ HSat W0 Fr (UU U nm) (renH (theta (fsts acc) nm) hc0.wr ++ (renH (theta (fsts acc) nm) hc0.news ++ H)) ρ2 w' ∧
          ∃ v, some (hc0.val.ren (theta (fsts acc) nm)) = some v ∧ v.bd (UU U nm) ∧ Ending.returned u = .returned (v.den ρ2)) := by
      intro hr
      unfold retK at hr
      split at hr
      case h_2 => exact hr.elim
      rename_i vs q hvs
      obtain ⟨hq, tau, hpost⟩ := okK_iff hr
      obtain ⟨h5, h6⟩ := resS_sound hG.E.T hS hvs hq
      refine ⟨hS.s.nd, _, h5, ?_⟩
      have hp := hS.h.other hpost.hp hpost.dist
      let ρp : Rho := ρ'.under (tauSig acc.length tau)
      have hpk : ∀ i : Nat, i < acc.length → ρp i = ρc i := by
        intro i hi
        show (match tauSig acc.length tau i with | some m => ρ' m | none => none) = _
        have : tauSig acc.length tau i = some i := by
          unfold tauSig
          rw [show Nat.blt i acc.length = true from Nat.ble_eq_true_of_le hi]
        rw [this]
        exact hρ i hi
      classical
      let ρ2 : Rho := fun n => if U n then ρ n else if nm ≤ n ∧ n < nm + 4 then ρp (acc.length + (n - nm)) else ρ n
      have hρU : ∀ n, U n → ρ2 n = ρ n := fun n hU => if_pos hU
      let θ := theta (fsts acc) nm
      have hθlo : ∀ i : Nat, i < acc.length → ∃ n o, acc[i]? = some (n, o) ∧ θ i = n ∧ look H n = some o := by
        intro i hi
        have hg := fsts_get acc i
        have he : acc[i]? = some acc[i] := List.getElem?_eq_getElem hi
        rw [he] at hg
        refine ⟨acc[i].1, acc[i].2, he, ?_, hlook acc[i] (List.getElem_mem hi)⟩
        show theta (fsts acc) nm i = _
        unfold theta
        rw [hg]; rfl
      have hθhi : ∀ i : Nat, acc.length ≤ i → θ i = nm + (i - acc.length) := by
        intro i hi
        have hg := fsts_get acc i
        rw [List.getElem?_eq_none hi] at hg
        show theta (fsts acc) nm i = _
        unfold theta
        rw [hg]
        simp [fsts_len]
      have hθ : ∀ i : Nat, i < acc.length + 4 → ρ2 (θ i) = ρp i := by
        intro i hi
        by_cases hk : i < acc.length
        · obtain ⟨n, o, h1, h2, h3⟩ := hθlo i hk
          rw [h2, hρU n (hH.used n o h3), hpk i hk]
          show ρ n = (match sgSig (fsts acc) i with | some m => ρ m | none => none)
          have : sgSig (fsts acc) i = some n := by
            show nth (fsts acc) i = _
            rw [fsts_get, h1]; rfl
          rw [this]
        · rw [hθhi i (by omega)]
          have hnU : ¬ U (nm + (i - acc.length)) := hn (i - acc.length) (show ((i - acc.length : Nat) < 4) by omega)
          show (if U _ then _ else if _ then _ else _) = _
          rw [if_neg hnU, if_pos ⟨Nat.le_add_right _ _, Nat.add_lt_add_left (show i - acc.length < 4 by omega) nm⟩]
          congr 1
          show acc.length + (nm + (i - acc.length) - nm) = i
          omega
      have hθU : ∀ i : Nat, i < acc.length + 4 → UU U nm (θ i) := by
        intro i hi
        by_cases hk : i < acc.length
        · obtain ⟨n, o, h1, h2, h3⟩ := hθlo i hk
          rw [h2]; exact .inl (hH.used n o h3)
        · rw [hθhi i (by omega)]
          exact .inr ⟨Nat.le_add_right _ _, Nat.add_lt_add_left (show i - acc.length < 4 by omega) nm⟩
      -- an entry of the memory afterwards
      have keyLt : ∀ (i : Nat) o, look (hc0.wr ++ hc0.news) i = some o → i < acc.length + 4 := by
        intro i o hi
        exact hp.used i o hi
      have ent : ∀ n o, look (renH θ hc0.wr ++ (renH θ hc0.news ++ H)) n = some o →
          (∃ i o0, look (hc0.wr ++ hc0.news) i = some o0 ∧ θ i = n ∧ o = o0.ren θ) ∨ (look H n = some o ∧ look (renH θ hc0.wr) n = none) := by
        intro n o hno
        rw [look_append] at hno
        split at hno
        · rename_i o1 h1
          simp only [Option.some.injEq] at hno
          subst hno
          obtain ⟨i, o0, h2, h3, h4⟩ := look_ren h1
          exact .inl ⟨i, o0, by rw [look_append, h2], h3, h4⟩
        · rename_i h1
          rw [look_append] at hno
          split at hno
          · rename_i o1 h2
            simp only [Option.some.injEq] at hno
            subst hno
            obtain ⟨i, o0, h3, h4, h5⟩ := look_ren h2
            refine .inl ⟨i, o0, ?_, h4, h5⟩
            rw [look_append]
            cases hw : look hc0.wr i with
            | none => exact h3
            | some o2 =>
              have ha := (keysLt_spec hcall.wr i o2 hw).1
              have hb' := (keysGe_spec hcall.news i o0 h3).1
              omega
          · exact .inr ⟨hno, h1⟩
      -- the pieces of the call, as they were
      have orig : ∀ i o p, look hc0.heap i = some o → o.rw = true → ρc i = some p → ∃ n o1, look H n = some o1 ∧ o1.rw = true ∧ ρ n = some p ∧ θ i = n := by
        intro i o p hi hr hpi
        obtain ⟨h1, _, h2⟩ := heapR_spec hhp i o hi
        rcases h2 with ⟨m, o1, h3, h4, h5⟩ | ⟨h3, _⟩
        · refine ⟨m, o1, h4, ((obR_spec h5).2 hr).1, ?_, ?_⟩
          · have : ρc i = ρ m := by
              show (match sgSig (fsts acc) i with | some m => ρ m | none => none) = _
              rw [h3]
            rw [← this]; exact hpi
          · show theta (fsts acc) nm i = m
            unfold theta
            have : nth (fsts acc) i = some m := h3
            rw [this]
        · have : ρc i = none := by
            show (match sgSig (fsts acc) i with | some m => ρ m | none => none) = _
            rw [h3]
          rw [this] at hpi; cases hpi
      have oldFr : ∀ n o p, look H n = some o → look (renH θ hc0.wr) n = none → (o.rw = true ∨ 0 < o.c.size) → ρ n = some p → Frc p.1 := by
        intro n o p hno hnw hor hpn
        have hob := hH.obj n o hno
        rw [hpn] at hob
        refine ⟨?_, fun i o' p' hi hr hpi e => ?_⟩
        · rcases hor with hor | hor
          · exact OSat.lt (b := p.1) (off := p.2.1) (cp := p.2.2) hob hor
          · exact lt_of_cell (hob.1 0 hor)
        · obtain ⟨m, o1, h1, h2, h3, h4⟩ := orig i o' p' hi hr hpi
          obtain ⟨o2, ho2⟩ := rwIn_spec hcall.rw i o' hi hr
          obtain ⟨o3, ho3⟩ := look_ren_some (θ := θ) ho2
          have hne : m ≠ n := fun e' => by subst e'; rw [← h4, ho3] at hnw; cases hnw
          exact hH.inj m n o1 o p' p h1 hno hne h2 hor h3 hpn e
      have frSub : ∀ b, Fr b → Frc b := by
        intro b hF
        refine ⟨Nat.lt_of_lt_of_le (hH.frlt b hF) hH.size, fun i o p hi hr hpi e => ?_⟩
        obtain ⟨m, o1, h1, h2, h3, _⟩ := orig i o p hi hr hpi
        exact hH.free m o1 p h1 h2 h3 (e ▸ hF)
      have newFr : ∀ i o p, look (hc0.wr ++ hc0.news) i = some o → ρp i = some p → ¬ Frc p.1 := by
        intro i o p hi hpi hF
        have hi' := hi
        rw [look_append] at hi'
        split at hi'
        · rename_i o1 h1
          obtain ⟨h2, o0, h3, h4⟩ := keysLt_spec hcall.wr i o1 h1
          rw [hpk i h2] at hpi
          exact hF.2 i o0 p h3 h4 hpi rfl
        · obtain ⟨h2, h3, h4⟩ := keysGe_spec hcall.news i o hi'
          exact hp.free i o p hi h4 hpi hF
      refine ⟨ρ2, hρU, ?_, _, rfl, SV.ren_bd hθU _ (SV.und_bd _ hpost.vu), ?_⟩
      · refine {
          os := hS.h.os.trans hH.os, tape := hS.h.tape.trans hH.tape, output := hS.h.output.trans hH.output
          size := Nat.le_trans hH.size hS.h.size
          frlt := hH.frlt
          frame := fun b hF => (hS.h.frame b (frSub b hF)).trans (hH.frame b hF)
          used := fun n o hno => ?_
          bd := fun n o hno => ?_
          obj := fun n o hno => ?_
          inj := fun n1 n2 o1 o2 p q h1 h2 hne hr hr2 hp1 hq => ?_
          free := fun n o p hno hr hpn => ?_ }
        · rcases ent n o hno with ⟨i, o0, h1, rfl, h3⟩ | ⟨h1, _⟩
          · exact hθU i (keyLt i o0 h1)
          · exact .inl (hH.used n o h1)
        · rcases ent n o hno with ⟨i, o0, h1, rfl, rfl⟩ | ⟨h1, _⟩
          · intro j hj
            obtain ⟨hsz, hat⟩ := Cont.ren_spec θ o0.c
            have hj' : j < o0.c.size := by rw [← hsz]; exact hj
            show ((o0.c.ren θ).at j).bd _
            rw [hat j hj']
            exact SV.ren_bd hθU _ (hp.bd i o0 h1 j hj')
          · exact Cont.bd_mono UU_of (hH.bd n o h1)
        · rcases ent n o hno with ⟨i, o0, h1, rfl, rfl⟩ | ⟨h1, h2⟩
          · rw [hθ i (keyLt i o0 h1)]
            exact Ob.ren_sat (hp.obj i o0 h1) (hp.bd i o0 h1) hθ
          · rw [hρU n (hH.used n o h1)]
            refine (hH.obj n o h1).congr (fun b off cp hpn hor _ => ?_) (fun j hj => SV.den_congr hρU _ (hH.bd n o h1 j hj))
            exact hS.h.frame b (oldFr n o (b, off, cp) h1 h2 hor hpn)
        · rcases ent n1 o1 h1 with ⟨i1, o3, h3, rfl, rfl⟩ | ⟨h3, h4⟩
          · rw [hθ i1 (keyLt i1 o3 h3)] at hp1
            rcases ent n2 o2 h2 with ⟨i2, o4, h5, rfl, rfl⟩ | ⟨h5, h6⟩
            · rw [hθ i2 (keyLt i2 o4 h5)] at hq
              refine hp.inj i1 i2 o3 o4 p q h3 h5 (fun e => hne (by rw [e])) hr ?_ hp1 hq
              rcases hr2 with hr2 | hr2
              · exact .inl hr2
              · refine .inr ?_
                have := (Cont.ren_spec θ o4.c).1
                have h0 : 0 < (o4.c.ren θ).size := hr2
                omega
            · rw [hρU n2 (hH.used n2 o2 h5)] at hq
              intro e
              exact newFr i1 o3 p h3 hp1 (e ▸ oldFr n2 o2 q h5 h6 hr2 hq)
          · rw [hρU n1 (hH.used n1 o1 h3)] at hp1
            rcases ent n2 o2 h2 with ⟨i2, o4, h5, rfl, rfl⟩ | ⟨h5, h6⟩
            · rw [hθ i2 (keyLt i2 o4 h5)] at hq
              intro e
              exact newFr i2 o4 q h5 hq (e ▸ oldFr n1 o1 p h3 h4 (.inl hr) hp1)
            · rw [hρU n2 (hH.used n2 o2 h5)] at hq
              exact hH.inj n1 n2 o1 o2 p q h3 h5 hne hr hr2 hp1 hq
        · rcases ent n o hno with ⟨i, o0, h1, rfl, rfl⟩ | ⟨h1, _⟩
          · rw [hθ i (keyLt i o0 h1)] at hpn
            exact fun hF => newFr i o0 p h1 hpn (frSub _ hF)
          · rw [hρU n (hH.used n o h1)] at hpn
            exact hH.free n o p h1 hr hpn
      · congr 1
        rw [eqvR_den ρ' _ _ _ hpost.val, SV.ren_den]
        exact (SV.den_congr (U := (· < acc.length + 4)) hθ _ (SV.und_bd _ hpost.vu)).symm
    cases e with
    | normal => exact fin hK
    | ret => exact fin hK
    | exit id => exact hK.elim


theorem RdM.All.imp {Q Q' : List (Nm × Ob) → HC → Prop} (hq : ∀ acc hc, Q acc hc → Q' acc hc) : ∀ {m : RdM} {acc : List (Nm × Ob)}, m.All Q acc → m.All Q' acc
  | .fail, _, _ => trivial
  | .ret _, _, h => hq _ _ h
  | .read _ _, _, h => fun o => RdM.All.imp hq (h o)

theorem conR_ok {P : Program} {G : Ctx} (hG : CtxOk P G) {f : Nat} {fn : Func} {c : Code} (hf : P.funcs[f]? = some fn) (hb : fn.body = some c) (hnm : (fn.name == "runtime.NumGoroutine") = false) {C : List SV → RdM}
    (h : ∀ args, (C args).All (fun acc hc => okP hc.obl → CallOk G c fn args acc hc) []) : ConOk P f (conR C) :=
  conR_okW hG hf hb hnm fun args => (h args).imp fun _ _ hc ho =>
    let hk := hc ho
    ⟨hk.args, hk.argsU, hk.argsN, hk.pre, hk.wr, hk.news, hk.rw, Wp.run hG hk.run⟩

end Go.Sx

/- Names found by matching. -/
namespace Go.Sx
open Go.RowKit

def hasKey : SigL → Nm → Bool
  | [], _ => false
  | (m, _) :: r, n => Nat.beq m n || hasKey r n

/-- n' (from N0 on) stands for m. -/
def bindN (N0 : Nat) (n' : Nm) (m : Option Nm) (s : SigL) : SigL :=
  match Nat.ble N0 n' with
  | true => match hasKey s n' with
    | true => s
    | false => (n', m) :: s
  | false => s

mutual
def bindV (N0 : Nat) : SV → SV → SigL → SigL
  | .ptr n _, .ptr n' _, s => bindN N0 n' (some n) s
  | .slc n _ _ _, .slc n' _ _ _, s => bindN N0 n' (some n) s
  | .slcc n _, .slcc n' _, s => bindN N0 n' (some n) s
  | .nils, .slcc n' _, s => bindN N0 n' none s
  | .agg a, .agg b, s => bindL N0 a b s
  | .tup a, .tup b, s => bindL N0 a b s
  | .ifc _ v, .ifc _ v', s => bindV N0 v v' s
  | .fn _ a c, .fn _ a' c', s => bindL N0 c c' (bindL N0 a a' s)
  | _, _, s => s
def bindL (N0 : Nat) : List SV → List SV → SigL → SigL
  | x :: xs, y :: ys, s => bindL N0 xs ys (bindV N0 x y s)
  | _, _, s => s
end

def bindSl (N0 : Nat) (sl : Slots) : Slots → SigL → SigL
  | [], s => s
  | (t, v') :: r, s => bindSl N0 sl r (match slot sl t with
    | some v => bindV N0 v v' s
    | none => s)

def bindC (N0 : Nat) (c c' : Cont) (s : SigL) : SigL :=
  match c, c' with
  | .cells l, .cells l' => bindL N0 l l' s
  | _, _ => s

def keyAt : SigL → Nm → Option (Option Nm)
  | [], _ => none
  | (m, x) :: r, n => match Nat.beq m n with
    | true => some x
    | false => keyAt r n

def bindH (N0 : Nat) (H : Heap) : Heap → SigL → SigL
  | [], s => s
  | (n', o') :: r, s => bindH N0 H r (match (match Nat.ble N0 n' with | true => keyAt s n' | false => some (some n')) with
    | some (some m) => match look H m with
      | some o => bindC N0 o.c o'.c s
      | none => s
    | _ => s)

def autoSig (N0 : Nat) (S S' : St) : SigL := bindH N0 S.H S'.H (bindH N0 S.H S'.H (bindSl N0 S.sl S'.sl []))

theorem Refines.auto {N0 : Nat} {S S' : St} (h : FitsOk N0 (autoSig N0 S S') S S') : Refines N0 S S' := Refines.by_names _ h

def tauAt (s : SigL) (n : Nm) : Option Nm := match keyAt s n with
  | some x => x
  | none => none

def autoTau (k : Nat) (hc : HC) (S : St) (v : SV) : List (Option Nm) :=
  let s := bindH k S.H (hc.wr ++ hc.news) (bindH k S.H (hc.wr ++ hc.news) (bindV k v hc.val []))
  [tauAt s k, tauAt s (k + 1), tauAt s (k + 2), tauAt s (k + 3)]

theorem PostOk.auto {k : Nat} {hc : HC} {S : St} {v : SV} (h : PostOk k hc S v (autoTau k hc S v)) : ∃ tau, PostOk k hc S v tau := ⟨_, h⟩

theorem sameN_self {n : Nm} : sameN (some n) n := by simp [sameN]

mutual
theorem SV.bd_all : ∀ v : SV, v.bd fun _ => True
  | .ptr _ _ => trivial
  | .slc _ _ _ _ => trivial
  | .slcc _ _ => trivial
  | .agg cs => bdL_all cs
  | .tup cs => bdL_all cs
  | .ifc _ v => SV.bd_all v
  | .fn _ a c => ⟨bdL_all a, bdL_all c⟩
  | .tt | .ff | .bool _ | .int _ _ | .flt _ _ | .str _ | .nilp | .nils | .nili | .nilf => by simp [SV.bd]
theorem bdL_all : ∀ l : List SV, bdL (fun _ => True) l
  | [] => trivial
  | v :: r => ⟨SV.bd_all v, bdL_all r⟩
end

/-- A function's text. -/
def codeOf (fn : Func) : Code := match fn.body with
  | some c => c
  | none => .skip

theorem wrap64 {n : Int} (h1 : -9223372036854775808 ≤ n) (h2 : n < 9223372036854775808) : IntKind.i64.wrap n = n := by
  show (if (true && decide (n % (18446744073709551616 : Int) ≥ 9223372036854775808)) = true then n % (18446744073709551616 : Int) - 18446744073709551616 else n % (18446744073709551616 : Int)) = n
  rw [Bool.true_and]
  split
  · rename_i h; have h := of_decide_eq_true h; omega
  · rename_i h; have h : ¬ _ := fun h' => h (decide_eq_true h'); omega

theorem wrapu64 {n : Int} (h1 : 0 ≤ n) (h2 : n < 18446744073709551616) : IntKind.u64.wrap n = n := by
  show (if (false && decide (n % (18446744073709551616 : Int) ≥ 9223372036854775808)) = true then n % (18446744073709551616 : Int) - 18446744073709551616 else n % (18446744073709551616 : Int)) = n
  rw [Bool.false_and, if_neg (by decide)]
  omega

/-! ### Pieces of numbers -/
def intsFrom (k : IntKind) : Cont → Option (Nat × (Nat → Int))
  | .cells l => match intsOf k l with
    | some xs => some (xs.length, fun i => xs.getD i 0)
    | none => none
  | .ints k' n g => match kEq k' k with
    | true => some (n, g)
    | false => none
  | _ => none

def fltsFrom (k : FloatKind) : Cont → Option (Nat × (Nat → Nat))
  | .cells l => match fltsOf k l with
    | some xs => some (xs.length, fun i => xs.getD i 0)
    | none => none
  | .flts k' n g => match fkEq k' k with
    | true => some (n, g)
    | false => none
  | _ => none

theorem intsFrom_spec {k : IntKind} {c : Cont} {n : Nat} {g : Nat → Int} (h : intsFrom k c = some (n, g)) : c.size = n ∧ ∀ i, i < n → c.at i = .int k (g i) := by
  unfold intsFrom at h
  split at h
  · split at h
    · rename_i l xs hxs
      simp only [Option.some.injEq, Prod.mk.injEq] at h
      obtain ⟨rfl, rfl⟩ := h
      have := intsOf_spec hxs
      subst this
      refine ⟨by simp [Cont.size], fun i hi => ?_⟩
      simp [Cont.at, getL_eq, hi]
    · cases h
  · split at h
    · rename_i hk
      have := kEq_eq hk
      subst this
      simp only [Option.some.injEq, Prod.mk.injEq] at h
      obtain ⟨rfl, rfl⟩ := h
      exact ⟨rfl, fun i _ => rfl⟩
    · cases h
  · cases h

theorem fltsFrom_spec {k : FloatKind} {c : Cont} {n : Nat} {g : Nat → Nat} (h : fltsFrom k c = some (n, g)) : c.size = n ∧ ∀ i, i < n → c.at i = .flt k (g i) := by
  unfold fltsFrom at h
  split at h
  · split at h
    · rename_i l xs hxs
      simp only [Option.some.injEq, Prod.mk.injEq] at h
      obtain ⟨rfl, rfl⟩ := h
      have := fltsOf_spec hxs
      subst this
      refine ⟨by simp [Cont.size], fun i hi => ?_⟩
      simp [Cont.at, getL_eq, hi]
    · cases h
  · split at h
    · rename_i hk
      have := fkEq_eq hk
      subst this
      simp only [Option.some.injEq, Prod.mk.injEq] at h
      obtain ⟨rfl, rfl⟩ := h
      exact ⟨rfl, fun i _ => rfl⟩
    · cases h
  · cases h

theorem kEq_self (k : IntKind) : kEq k k = true := by cases k <;> rfl
theorem fkEq_self (k : FloatKind) : fkEq k k = true := by cases k <;> rfl

theorem eqvRL_ints (σ : Sig) (k : IntKind) : ∀ xs : List Int, eqvRL σ (xs.map (SV.int k)) (xs.map (SV.int k))
  | [] => trivial
  | x :: r => ⟨by simp [eqvR, kEq_self], eqvRL_ints σ k r⟩

theorem contR_ints {σ : Sig} {k : IntKind} {c : Cont} {n : Nat} {g : Nat → Int} (h : intsFrom k c = some (n, g)) : contR σ c (.ints k n g) ∧ contR σ (.ints k n g) c ∧ ∀ N, c.und N := by
  obtain ⟨h1, h2⟩ := intsFrom_spec h
  have hr : ∀ i, i < n → eqvR σ (c.at i) ((Cont.ints k n g).at i) ∧ eqvR σ ((Cont.ints k n g).at i) (c.at i) := fun i hi => by
    rw [h2 i hi]; simp [Cont.at, eqvR, kEq_self]
  cases c with
  | cells l =>
    refine ⟨?_, ⟨by rw [h1]; exact Nat.le_refl _, fun i hi => (hr i (by rw [← h1]; exact hi)).2⟩, fun N => ?_⟩
    · unfold intsFrom at h
      simp only at h
      split at h
      · rename_i xs hxs
        simp only [Option.some.injEq, Prod.mk.injEq] at h
        obtain ⟨rfl, rfl⟩ := h
        simp [contR, hxs]
      · cases h
    unfold intsFrom at h
    simp only at h
    split at h
    · rename_i xs hxs
      have := intsOf_spec hxs
      subst this
      show undL N _ = true
      clear h h1 h2 hr hxs
      induction xs with
      | nil => rfl
      | cons x r ih => simpa [undL, SV.und] using ih
    · cases h
  | ints k' m g' =>
    unfold intsFrom at h
    simp only at h
    split at h
    · rename_i hk
      have := kEq_eq hk
      subst this
      simp only [Option.some.injEq, Prod.mk.injEq] at h
      obtain ⟨rfl, rfl⟩ := h
      refine ⟨?_, ?_, fun N => trivial⟩ <;> simp [contR, kEq_self]
    · cases h
  | flts k' m g' => simp [intsFrom] at h
  | gen m f => simp [intsFrom] at h

theorem contR_flts {σ : Sig} {k : FloatKind} {c : Cont} {n : Nat} {g : Nat → Nat} (h : fltsFrom k c = some (n, g)) : contR σ c (.flts k n g) ∧ contR σ (.flts k n g) c ∧ ∀ N, c.und N := by
  obtain ⟨h1, h2⟩ := fltsFrom_spec h
  have hr : ∀ i, i < n → eqvR σ (c.at i) ((Cont.flts k n g).at i) ∧ eqvR σ ((Cont.flts k n g).at i) (c.at i) := fun i hi => by
    rw [h2 i hi]; simp [Cont.at, eqvR, fkEq_self]
  cases c with
  | cells l =>
    refine ⟨?_, ⟨by rw [h1]; exact Nat.le_refl _, fun i hi => (hr i (by rw [← h1]; exact hi)).2⟩, fun N => ?_⟩
    · unfold fltsFrom at h
      simp only at h
      split at h
      · rename_i xs hxs
        simp only [Option.some.injEq, Prod.mk.injEq] at h
        obtain ⟨rfl, rfl⟩ := h
        simp [contR, hxs]
      · cases h
    unfold fltsFrom at h
    simp only at h
    split at h
    · rename_i xs hxs
      have := fltsOf_spec hxs
      subst this
      show undL N _ = true
      clear h h1 h2 hr hxs
      induction xs with
      | nil => rfl
      | cons x r ih => simpa [undL, SV.und] using ih
    · cases h
  | flts k' m g' =>
    unfold fltsFrom at h
    simp only at h
    split at h
    · rename_i hk
      have := fkEq_eq hk
      subst this
      simp only [Option.some.injEq, Prod.mk.injEq] at h
      obtain ⟨rfl, rfl⟩ := h
      refine ⟨?_, ?_, fun N => trivial⟩ <;> simp [contR, fkEq_self]
    · cases h
  | ints k' m g' => simp [fltsFrom] at h
  | gen m f => simp [fltsFrom] at h

end Go.Sx

/- Plain facts on float64: what a word stands for, as a whole number of least units; order; rounding. -/
namespace Go.Fl
open Ieee

theorem lp : double.leastPlace = -1074 := by decide
theorem bnd : double.binade = 2 ^ 52 := by decide
theorem infr : double.infRung = 2047 * 2 ^ 52 := by decide
theorem sgw : double.signWeight = 2 ^ 63 := by decide
theorem frb : double.fractionBits = 52 := rfl

/-- A finite word. -/
def Fin (x : Nat) : Prop := x < 2 ^ 64 ∧ x % 2 ^ 63 < 2047 * 2 ^ 52

/-- The magnitude of a rung, in least units. -/
def rmag (r : Nat) : Nat := if r < 2 ^ 52 then r else (2 ^ 52 + r % 2 ^ 52) * 2 ^ (r / 2 ^ 52 - 1)

/-- What a finite word stands for, in least units (2 ^ -1074). -/
def V (x : Nat) : Int := if x / 2 ^ 63 % 2 = 1 then -(rmag (x % 2 ^ 63) : Int) else (rmag (x % 2 ^ 63) : Int)

theorem signed_add (s : Bool) (m u v : Nat) : signed s m (u + v) = signed s m u * 2 ^ v := by
  unfold signed
  have : ((m <<< (u + v) : Nat) : Int) = (m <<< u : Nat) * 2 ^ v := by
    rw [Nat.shiftLeft_eq, Nat.shiftLeft_eq, Nat.pow_add]; push_cast; rw [Int.mul_assoc]
  split
  · rw [this, Int.neg_mul]
  · exact this

theorem signed_mag (s : Bool) (m u : Nat) : signed s m u = if s then -((m * 2 ^ u : Nat) : Int) else ((m * 2 ^ u : Nat) : Int) := by
  unfold signed; rw [Nat.shiftLeft_eq]

theorem read_fin {x : Nat} (h : Fin x) : ∃ s m i, double.read x = .number s m i ∧ -1074 ≤ i ∧ signed s m (i + 1074).toNat = V x ∧ m < 2 ^ 53 := by
  obtain ⟨h1, h2⟩ := h
  unfold Format.read
  simp only [sgw, bnd, infr, lp]
  by_cases hs : x % 2 ^ 63 < 2 ^ 52
  · refine ⟨x / 2 ^ 63 % 2 == 1, x % 2 ^ 63, -1074, by simp [hs], by omega, ?_, by omega⟩
    rw [signed_mag, V, rmag, if_pos hs]
    simp
  · refine ⟨x / 2 ^ 63 % 2 == 1, 2 ^ 52 + x % 2 ^ 63 % 2 ^ 52, -1074 + (x % 2 ^ 63 / 2 ^ 52 - 1 : Nat), by simp [hs, h2], by omega, ?_, by omega⟩
    rw [signed_mag, V, rmag, if_neg hs]
    have : (-1074 + ((x % 2 ^ 63 / 2 ^ 52 - 1 : Nat) : Int) + 1074).toNat = x % 2 ^ 63 / 2 ^ 52 - 1 := by omega
    rw [this]
    simp

theorem cmp_int (a b : Int) : compare a b = if a < b then .lt else if a = b then .eq else .gt := rfl

theorem pow_pos' (k : Nat) : (0 : Int) < 2 ^ k := Int.pow_pos (by decide)

theorem mul_lt_iff {a b k : Int} (hk : 0 < k) : a * k < b * k ↔ a < b :=
  ⟨fun h => Int.lt_of_mul_lt_mul_right h (Int.le_of_lt hk), fun h => Int.mul_lt_mul_of_pos_right h hk⟩

theorem compare_scale (a b : Int) (k : Nat) : compare (a * 2 ^ k) (b * 2 ^ k) = compare a b := by
  have hp := pow_pos' k
  rw [cmp_int, cmp_int]
  have h1 : (a * 2 ^ k < b * 2 ^ k) = (a < b) := propext (mul_lt_iff hp)
  have h2 : (a * 2 ^ k = b * 2 ^ k) = (a = b) := propext ⟨fun h => Int.eq_of_mul_eq_mul_right (by omega) h, fun h => by rw [h]⟩
  simp only [h1, h2]

/-- The order of finite words is that of what they stand for. -/
theorem order_fin {x y : Nat} (hx : Fin x) (hy : Fin y) : double.order x y = some (compare (V x) (V y)) := by
  obtain ⟨s, m, i, h1, h2, h3, _⟩ := read_fin hx
  obtain ⟨t, n, j, h4, h5, h6, _⟩ := read_fin hy
  unfold Format.order
  rw [h1, h4]
  simp only [Datum.order]
  congr 1
  rw [← h3, ← h6]
  have e1 : (i + 1074).toNat = (i - min i j).toNat + (min i j + 1074).toNat := by omega
  have e2 : (j + 1074).toNat = (j - min i j).toNat + (min i j + 1074).toNat := by omega
  rw [e1, e2, signed_add, signed_add, compare_scale]

/-! ### Rounding -/
/-- Half a unit is the most by which a cut is off. -/
theorem cut_err (neg : Bool) (n drop : Nat) : 2 * (Toward.even.cut neg n drop * 2 ^ drop) ≤ 2 * n + 2 ^ drop ∧ 2 * n ≤ 2 * (Toward.even.cut neg n drop * 2 ^ drop) + 2 ^ drop := by
  unfold Toward.cut
  simp only [Nat.shiftLeft_eq, Nat.one_mul]
  by_cases hd : drop ≤ n.log2 + 2
  · rw [Nat.min_eq_left hd]
    have hg : 0 < 2 ^ drop := Nat.two_pow_pos _
    have hdm := Nat.div_add_mod n (2 ^ drop)
    have hlt := Nat.mod_lt n hg
    generalize 2 ^ drop = g at *
    have hm : g * (n / g) = n / g * g := Nat.mul_comm _ _
    rw [hm] at hdm
    generalize n / g = q at *
    generalize n % g = r at *
    by_cases h1 : g < 2 * r
    · simp only [h1, decide_true, Bool.true_or, Bool.toNat_true, Nat.add_mul, Nat.one_mul]; omega
    · by_cases h2 : g = 2 * r
      · by_cases h3 : q % 2 = 1
        · have e1 : (decide (g < 2 * r)) = false := by simp [h1]
          have e2 : (g == 2 * r) = true := by simp [h2]
          have e3 : (q % 2 == 1) = true := by simp [h3]
          simp only [e1, e2, e3, Bool.false_or, Bool.true_and, Bool.toNat_true, Nat.add_mul, Nat.one_mul]; omega
        · have h3' : (q % 2 == 1) = false := by simp [h3]
          simp only [h1, h3', decide_false, Bool.and_false, Bool.or_false, Bool.toNat_false, Nat.add_zero]; omega
      · have h2' : (g == 2 * r) = false := by simp [h2]
        simp only [h1, h2', decide_false, Bool.false_and, Bool.or_false, Bool.toNat_false, Nat.add_zero]; omega
  · have hd' : n.log2 + 2 < drop := by omega
    rw [Nat.min_eq_right (by omega)]
    have h1 : n < 2 ^ (n.log2 + 1) := Nat.lt_log2_self
    have h2 : 2 ^ (n.log2 + 2) = 2 * 2 ^ (n.log2 + 1) := by rw [Nat.pow_succ]; omega
    have h3 : 2 ^ (n.log2 + 2) ≤ 2 ^ drop := Nat.pow_le_pow_right (by decide) (by omega)
    have h4 : n / 2 ^ (n.log2 + 2) = 0 := Nat.div_eq_of_lt (by omega)
    have h5 : n % 2 ^ (n.log2 + 2) = n := Nat.mod_eq_of_lt (by omega)
    rw [h4, h5]
    have h6 : ¬ 2 ^ (n.log2 + 2) < 2 * n := by omega
    have h7 : (2 ^ (n.log2 + 2) == 2 * n) = false := by simp; omega
    simp only [h6, h7, decide_false, Bool.false_and, Bool.or_false, Bool.toNat_false, Nat.add_zero, Nat.zero_mul]
    omega

/-- A cut of a multiple is exact. -/
theorem cut_exact (neg : Bool) (k drop : Nat) : Toward.even.cut neg (k * 2 ^ drop) drop = k := by
  obtain ⟨h1, h2⟩ := cut_err neg (k * 2 ^ drop) drop
  have hg : 0 < 2 ^ drop := Nat.two_pow_pos _
  generalize Toward.even.cut neg (k * 2 ^ drop) drop = c at *
  generalize 2 ^ drop = g at *
  rcases Nat.lt_trichotomy c k with h | h | h
  · exfalso
    have : c * g + g ≤ k * g := by
      calc c * g + g = (c + 1) * g := by rw [Nat.add_mul, Nat.one_mul]
        _ ≤ k * g := Nat.mul_le_mul_right _ h
    omega
  · exact h
  · exfalso
    have : k * g + g ≤ c * g := by
      calc k * g + g = (k + 1) * g := by rw [Nat.add_mul, Nat.one_mul]
        _ ≤ c * g := Nat.mul_le_mul_right _ h
    omega

theorem rmag_small {r : Nat} (h : r < 2 ^ 52) : rmag r = r := by simp [rmag, h]
theorem rmag_at (E f : Nat) (hf : f < 2 ^ 52) : rmag ((E + 1) * 2 ^ 52 + f) = (2 ^ 52 + f) * 2 ^ E := by
  have h1 : ¬ (E + 1) * 2 ^ 52 + f < 2 ^ 52 := by omega
  have h2 : ((E + 1) * 2 ^ 52 + f) / 2 ^ 52 = E + 1 := by omega
  have h3 : ((E + 1) * 2 ^ 52 + f) % 2 ^ 52 = f := by omega
  rw [rmag, if_neg h1, h2, h3]; rfl

/-- A rung made of a place and of what is kept. -/
theorem rmag_kept (E kept : Nat) (h1 : kept ≤ 2 ^ 53) (h2 : E = 0 ∨ 2 ^ 52 ≤ kept) : rmag (E * 2 ^ 52 + kept) = kept * 2 ^ E := by
  rcases Nat.lt_or_ge kept (2 ^ 52) with h | h
  · have : E = 0 := by omega
    subst this
    simp [rmag_small (r := kept) h]
  · rcases Nat.lt_or_ge kept (2 ^ 53) with h3 | h3
    · have := rmag_at E (kept - 2 ^ 52) (by omega)
      rw [show E * 2 ^ 52 + kept = (E + 1) * 2 ^ 52 + (kept - 2 ^ 52) by omega, this, Nat.add_sub_of_le h]
    · have hk : kept = 2 ^ 53 := Nat.le_antisymm h1 h3
      subst hk
      have h4 := rmag_at (E + 1) 0 (by decide)
      have h5 : E * 2 ^ 52 + 2 ^ 53 = (E + 1 + 1) * 2 ^ 52 + 0 := by omega
      rw [h5, h4, Nat.pow_succ 2 E]
      have h6 : (2 : Nat) ^ 53 = (2 ^ 52 + 0) * 2 := by decide
      rw [h6, Nat.mul_comm (2 ^ E) 2, ← Nat.mul_assoc]

theorem word_V (s : Bool) (r : Nat) (hr : r < 2047 * 2 ^ 52) : Fin (double.word s r) ∧ V (double.word s r) = if s then -(rmag r : Int) else (rmag r : Int) := by
  unfold Format.word V Fin
  rw [sgw]
  cases s
  · have h1 : r / 2 ^ 63 % 2 = 0 := by omega
    have h2 : r % 2 ^ 63 = r := by omega
    simp only [Bool.false_eq_true, if_false, h1, h2]
    refine ⟨⟨by omega, hr⟩, by simp⟩
  · have h1 : (2 ^ 63 + r) / 2 ^ 63 % 2 = 1 := by omega
    have h2 : (2 ^ 63 + r) % 2 ^ 63 = r := by omega
    simp only [if_true, h1, h2]
    exact ⟨⟨by omega, hr⟩, trivial⟩

/-- The place of the last digit that is kept. -/
def last (mag : Nat) (place : Int) : Int := max (place + mag.log2 - 52) (-1074)
def keptOf (neg : Bool) (mag : Nat) (place : Int) : Nat := Toward.even.cut neg (mag <<< (place - last mag place).toNat) (last mag place - place).toNat

theorem kept_bounds (neg : Bool) {mag : Nat} (hm : mag ≠ 0) (place : Int) : keptOf neg mag place ≤ 2 ^ 53 ∧ (last mag place = -1074 ∨ 2 ^ 52 ≤ keptOf neg mag place) := by
  have hl1 := Nat.log2_self_le hm
  have hl2 : mag < 2 ^ (mag.log2 + 1) := Nat.lt_log2_self
  obtain ⟨e1, e2⟩ := cut_err neg (mag <<< (place - last mag place).toNat) (last mag place - place).toNat
  unfold keptOf
  generalize Toward.even.cut neg (mag <<< (place - last mag place).toNat) (last mag place - place).toNat = k at *
  rw [Nat.shiftLeft_eq] at e1 e2
  generalize hL : mag.log2 = L at *
  by_cases hs : last mag place ≤ place
  · -- nothing is dropped
    have h0 : (last mag place - place).toNat = 0 := by omega
    rw [h0] at e1 e2
    simp only [Nat.pow_zero, Nat.mul_one] at e1 e2
    have hk : k = mag * 2 ^ (place - last mag place).toNat := by omega
    generalize hu : (place - last mag place).toNat = u at *
    have hle : L + u ≤ 52 := by unfold last at hu hs; rw [hL] at hu hs; omega
    constructor
    · have : mag * 2 ^ u < 2 ^ (L + 1) * 2 ^ u := Nat.mul_lt_mul_of_pos_right hl2 (Nat.two_pow_pos _)
      rw [← Nat.pow_add] at this
      have h3 : 2 ^ (L + 1 + u) ≤ 2 ^ 53 := Nat.pow_le_pow_right (by decide) (by omega)
      omega
    · by_cases hlast : last mag place = -1074
      · exact .inl hlast
      · right
        have hu2 : L + u = 52 := by unfold last at hu hlast; rw [hL] at hu hlast; omega
        have : 2 ^ L * 2 ^ u ≤ mag * 2 ^ u := Nat.mul_le_mul_right _ hl1
        rw [← Nat.pow_add, hu2] at this
        omega
  · have h0 : (place - last mag place).toNat = 0 := by omega
    rw [h0] at e1 e2
    simp only [Nat.pow_zero, Nat.mul_one] at e1 e2
    generalize hu : (last mag place - place).toNat = u at *
    have hge : L ≤ 52 + u := by unfold last at hu; rw [hL] at hu; omega
    have hup : 2 ^ (L + 1) ≤ 2 ^ (53 + u) := Nat.pow_le_pow_right (by decide) (by omega)
    have hg : 0 < 2 ^ u := Nat.two_pow_pos _
    constructor
    · rw [Nat.pow_add 2 53 u] at hup
      generalize 2 ^ u = g at *
      have h4 : 2 * (k * g) < 2 * (2 ^ 53 * g) + g + g := by omega
      have h5 : k * g < (2 ^ 53 + 1) * g := by rw [Nat.add_mul, Nat.one_mul]; omega
      have := Nat.lt_of_mul_lt_mul_right h5
      omega
    · by_cases hlast : last mag place = -1074
      · exact .inl hlast
      · right
        have hu2 : L = 52 + u := by unfold last at hu hlast hs; rw [hL] at hu hlast hs; omega
        rw [hu2, Nat.pow_add 2 52 u] at hl1
        clear hup hl2
        generalize 2 ^ u = g at *
        have h5 : 2 ^ 52 * g < (k + 1) * g := by rw [Nat.add_mul, Nat.one_mul]; omega
        have := Nat.lt_of_mul_lt_mul_right h5
        omega

/-- What the nearest word stands for. -/
theorem nearest_V (neg : Bool) {mag : Nat} (hm : mag ≠ 0) {place : Int} (hb : place + mag.log2 ≤ 1022) :
    Fin (double.nearest neg mag place) ∧ V (double.nearest neg mag place) = (if neg then -((keptOf neg mag place * 2 ^ (last mag place + 1074).toNat : Nat) : Int) else ((keptOf neg mag place * 2 ^ (last mag place + 1074).toNat : Nat) : Int)) := by
  obtain ⟨h1, h2⟩ := kept_bounds neg hm place
  have hlast : -1074 ≤ last mag place ∧ last mag place ≤ 970 := by unfold last; omega
  have hE : (last mag place - double.leastPlace).toNat = (last mag place + 1074).toNat := by rw [lp]; omega
  have hn : double.nearest neg mag place = double.word neg ((last mag place + 1074).toNat * 2 ^ 52 + keptOf neg mag place) := by
    unfold Format.nearest
    rw [if_neg hm]
    simp only [frb]
    have e1 : max (place + (mag.log2 : Int) - (52 : Nat)) double.leastPlace = last mag place := by rw [lp]; rfl
    rw [e1, hE, bnd, infr]
    congr 1
    apply Nat.min_eq_left
    show _ * _ + keptOf neg mag place ≤ _
    have : (last mag place + 1074).toNat ≤ 2044 := by omega
    have : (last mag place + 1074).toNat * 2 ^ 52 ≤ 2044 * 2 ^ 52 := Nat.mul_le_mul_right _ this
    exact Nat.le_trans (Nat.add_le_add this h1) (by decide)
  have hr : (last mag place + 1074).toNat * 2 ^ 52 + keptOf neg mag place < 2047 * 2 ^ 52 := by
    have : (last mag place + 1074).toNat ≤ 2044 := by omega
    have : (last mag place + 1074).toNat * 2 ^ 52 ≤ 2044 * 2 ^ 52 := Nat.mul_le_mul_right _ this
    exact Nat.lt_of_le_of_lt (Nat.add_le_add this h1) (by decide)
  rw [hn]
  obtain ⟨h3, h4⟩ := word_V neg _ hr
  refine ⟨h3, ?_⟩
  rw [h4, rmag_kept _ _ h1 (h2.imp (fun h => by omega) id)]

/-! ### Whole numbers -/
/-- x stands for the whole number n. -/
def U1 : Nat := 1074
def FI (x : Nat) (n : Int) : Prop := Fin x ∧ V x = n * 2 ^ U1

theorem log2_mul_pow {k : Nat} (hk : k ≠ 0) (sh : Nat) : (k * 2 ^ sh).log2 = k.log2 + sh := by
  have hm : k * 2 ^ sh ≠ 0 := Nat.mul_ne_zero hk (Nat.ne_of_gt (Nat.two_pow_pos _))
  apply Nat.le_antisymm
  · apply Nat.le_of_lt_succ
    rw [Nat.log2_lt hm, Nat.succ_eq_add_one, show k.log2 + sh + 1 = k.log2 + 1 + sh by omega, Nat.pow_add]
    exact Nat.mul_lt_mul_of_pos_right Nat.lt_log2_self (Nat.two_pow_pos _)
  · rw [Nat.le_log2 hm, Nat.pow_add]
    exact Nat.mul_le_mul_right _ (Nat.log2_self_le hk)


theorem last_small {mag : Nat} {place : Int} (h : place + mag.log2 - 52 ≤ place) (h2 : -1074 ≤ place) : last mag place ≤ place := by unfold last; omega

/-- Where nothing is cut off, the nearest word is exact. -/
theorem nearest_exact (neg : Bool) {k : Nat} (hk : k ≠ 0) (hk2 : k < 2 ^ 53) {sh : Nat} {place : Int} (hp : -1074 ≤ place + sh) (hlow : place + sh + k.log2 ≤ 1022) :
    Fin (double.nearest neg (k * 2 ^ sh) place) ∧ V (double.nearest neg (k * 2 ^ sh) place) = (if neg then -((k * 2 ^ (place + sh + 1074).toNat : Nat) : Int) else ((k * 2 ^ (place + sh + 1074).toNat : Nat) : Int)) := by
  have hm : k * 2 ^ sh ≠ 0 := Nat.mul_ne_zero hk (Nat.ne_of_gt (Nat.two_pow_pos _))
  have hlog : (k * 2 ^ sh).log2 = k.log2 + sh := log2_mul_pow hk sh
  have hkl : k.log2 ≤ 52 := by
    have := (Nat.log2_lt hk).2 hk2
    omega
  obtain ⟨h1, h2⟩ := nearest_V neg hm (place := place) (by rw [hlog]; omega)
  refine ⟨h1, ?_⟩
  rw [h2]
  have key : keptOf neg (k * 2 ^ sh) place * 2 ^ (last (k * 2 ^ sh) place + 1074).toNat = k * 2 ^ (place + sh + 1074).toNat := by
    unfold keptOf
    by_cases hs : last (k * 2 ^ sh) place ≤ place
    · have e1 : (last (k * 2 ^ sh) place - place).toNat = 0 := by omega
      rw [e1, Nat.shiftLeft_eq]
      have := cut_exact neg (k * 2 ^ sh * 2 ^ (place - last (k * 2 ^ sh) place).toNat) 0
      rw [Nat.pow_zero, Nat.mul_one] at this
      rw [this, Nat.mul_assoc, Nat.mul_assoc, ← Nat.pow_add, ← Nat.pow_add]
      congr 2
      unfold last at hs ⊢
      omega
    · have e1 : (place - last (k * 2 ^ sh) place).toNat = 0 := by omega
      rw [e1, Nat.shiftLeft_eq, Nat.pow_zero, Nat.mul_one]
      have hle : (last (k * 2 ^ sh) place - place).toNat ≤ sh := by unfold last; rw [hlog]; omega
      have e2 : k * 2 ^ sh = (k * 2 ^ (sh - (last (k * 2 ^ sh) place - place).toNat)) * 2 ^ (last (k * 2 ^ sh) place - place).toNat := by
        rw [Nat.mul_assoc, ← Nat.pow_add]; congr 2; omega
      generalize hL : last (k * 2 ^ sh) place = L at *
      rw [e2, cut_exact, Nat.mul_assoc, ← Nat.pow_add]
      congr 2
      have : -1074 ≤ L := by rw [← hL]; unfold last; omega
      omega
  rw [key]

theorem FI_ofInt {n : Int} (h : n.natAbs < 2 ^ 53) : FI (FloatKind.f64.nearest n) n := by
  unfold FloatKind.nearest FloatKind.encode
  show FI (double.write (.number (decide (n < 0)) n.natAbs 0)) n
  show FI (double.nearest (decide (n < 0)) n.natAbs 0) n
  by_cases h0 : n.natAbs = 0
  · have : n = 0 := by omega
    subst this
    have e : double.nearest (decide ((0 : Int) < 0)) (Int.natAbs 0) 0 = 0 := by decide
    rw [e]
    exact ⟨⟨by decide, by decide⟩, by simp [V, rmag]⟩
  · have hkl : n.natAbs.log2 ≤ 52 := by
      have := (Nat.log2_lt h0).2 h
      omega
    obtain ⟨h1, h2⟩ := nearest_exact (decide (n < 0)) h0 h (sh := 0) (place := 0) (by decide) (by omega)
    rw [Nat.pow_zero, Nat.mul_one] at h1 h2
    refine ⟨h1, ?_⟩
    rw [h2]
    have e : ((0 : Int) + (0 : Nat) + 1074).toNat = U1 := by decide
    rw [e]
    generalize U1 = u
    rw [Int.natCast_mul, Int.natCast_pow]
    show (if _ then -((n.natAbs : Nat) * (2 : Int) ^ u) else ((n.natAbs : Nat) * (2 : Int) ^ u)) = _
    by_cases hn : n < 0
    · simp only [hn, decide_true, if_true]
      have : ((n.natAbs : Nat) : Int) = -n := by omega
      rw [this, Int.neg_mul, Int.neg_neg]
    · simp only [hn, decide_false, Bool.false_eq_true, if_false]
      have : ((n.natAbs : Nat) : Int) = n := by omega
      rw [this]

end Go.Fl

/- Whole numbers as float64: order, sums, differences, products. -/
namespace Go.Fl
open Ieee

theorem FI.order {x y : Nat} {a b : Int} (hx : FI x a) (hy : FI y b) : double.order x y = some (compare a b) := by
  rw [order_fin hx.1 hy.1, hx.2, hy.2, compare_scale]

theorem word_zero (s : Bool) : FI (double.word s 0) 0 := by
  obtain ⟨h1, h2⟩ := word_V s 0 (by decide)
  refine ⟨h1, ?_⟩
  rw [h2]; cases s <;> simp [rmag]

/-- The nearest word of a whole number, however it is written. -/
theorem nearest_int (neg : Bool) {mag k : Nat} {place : Int} (hp : -1074 ≤ place) (hk0 : k ≠ 0) (hk : k < 2 ^ 53) (h : mag * 2 ^ (place + 1074).toNat = k * 2 ^ U1) :
    FI (double.nearest neg mag place) (if neg then -(k : Int) else (k : Int)) := by
  have hkl : k.log2 ≤ 52 := by
    have := (Nat.log2_lt hk0).2 hk
    omega
  have hU : U1 = 1074 := rfl
  by_cases hs : place ≤ 0
  · have e : mag = k * 2 ^ (-place).toNat := by
      have e1 : U1 = (-place).toNat + (place + 1074).toNat := by rw [hU]; omega
      rw [e1, Nat.pow_add, ← Nat.mul_assoc] at h
      exact Nat.eq_of_mul_eq_mul_right (Nat.two_pow_pos _) h
    subst e
    obtain ⟨h1, h2⟩ := nearest_exact neg hk0 hk (sh := (-place).toNat) (place := place) (by omega) (by omega)
    refine ⟨h1, ?_⟩
    rw [h2]
    have e2 : (place + ((-place).toNat : Int) + 1074).toNat = U1 := by rw [hU]; omega
    rw [e2]
    generalize U1 = u
    rw [Int.natCast_mul, Int.natCast_pow]
    cases neg <;> simp [Int.neg_mul]
  · have e : k = mag * 2 ^ place.toNat := by
      have e1 : (place + 1074).toNat = place.toNat + U1 := by rw [hU]; omega
      rw [e1, Nat.pow_add, ← Nat.mul_assoc] at h
      exact (Nat.eq_of_mul_eq_mul_right (Nat.two_pow_pos _) h).symm
    have hm0 : mag ≠ 0 := fun e0 => hk0 (by rw [e, e0, Nat.zero_mul])
    have hle : mag ≤ k := by rw [e]; exact Nat.le_mul_of_pos_right _ (Nat.two_pow_pos _)
    have hlog : k.log2 = mag.log2 + place.toNat := by rw [e, log2_mul_pow hm0]
    obtain ⟨h1, h2⟩ := nearest_exact neg hm0 (Nat.lt_of_le_of_lt hle hk) (sh := 0) (place := place) (by omega) (by omega)
    rw [Nat.pow_zero, Nat.mul_one] at h1 h2
    refine ⟨h1, ?_⟩
    rw [h2]
    have e2 : (place + (0 : Nat) + 1074).toNat = place.toNat + U1 := by rw [hU]; omega
    rw [e2, Nat.pow_add, ← Nat.mul_assoc, ← e]
    generalize U1 = u
    rw [Int.natCast_mul, Int.natCast_pow]
    cases neg <;> simp [Int.neg_mul]

theorem natAbs_pow2 (k : Nat) : ((2 : Int) ^ k).natAbs = 2 ^ k := by rw [Int.natAbs_pow]; rfl

theorem signed_natAbs (s : Bool) (m u : Nat) : (signed s m u).natAbs = m * 2 ^ u := by
  rw [signed_mag]
  cases s
  · exact Int.natAbs_natCast _
  · exact (Int.natAbs_neg _).trans (Int.natAbs_natCast _)

theorem FI_sum {s t : Bool} {m n : Nat} {i j : Int} {a b : Int} (hi : -1074 ≤ i) (hj : -1074 ≤ j) (h1 : signed s m (i + 1074).toNat = a * 2 ^ U1) (h2 : signed t n (j + 1074).toNat = b * 2 ^ U1)
    (hab : (a + b).natAbs < 2 ^ 53) : ∃ d, Datum.sum (.number s m i) (.number t n j) = some d ∧ FI (double.write d) (a + b) := by
  refine ⟨_, rfl, ?_⟩
  simp only [Format.write]
  generalize htot : signed s m (i - min i j).toNat + signed t n (j - min i j).toNat = tot
  have e1 : (i + 1074).toNat = (i - min i j).toNat + (min i j + 1074).toNat := by omega
  have e2 : (j + 1074).toNat = (j - min i j).toNat + (min i j + 1074).toNat := by omega
  have hkey : tot * 2 ^ (min i j + 1074).toNat = (a + b) * 2 ^ U1 := by
    rw [Int.add_mul, ← h1, ← h2, e1, e2, signed_add, signed_add, ← Int.add_mul, htot]
  have hpos : ∀ k : Nat, (2 : Int) ^ k ≠ 0 := fun k => Int.ne_of_gt (pow_pos' k)
  by_cases h0 : tot = 0
  · have : a + b = 0 := by
      rw [h0, Int.zero_mul] at hkey
      rcases Int.mul_eq_zero.1 hkey.symm with h | h
      · exact h
      · exact absurd h (hpos _)
    rw [this]
    have hz : tot.natAbs = 0 := by rw [h0]; rfl
    unfold Format.nearest
    rw [if_pos hz]
    exact word_zero _
  · have hab0 : a + b ≠ 0 := by
      intro e
      rw [e, Int.zero_mul] at hkey
      rcases Int.mul_eq_zero.1 hkey with h | h
      · exact h0 h
      · exact absurd h (hpos _)
    have hk : tot.natAbs * 2 ^ (min i j + 1074).toNat = (a + b).natAbs * 2 ^ U1 := by
      have := congrArg Int.natAbs hkey
      rw [Int.natAbs_mul, Int.natAbs_mul, natAbs_pow2, natAbs_pow2] at this
      exact this
    rw [if_neg h0]
    have := nearest_int (decide (tot < 0)) (by omega) (by omega : (a + b).natAbs ≠ 0) hab hk
    have hsign : tot < 0 ↔ a + b < 0 := by
      have hp1 := pow_pos' (min i j + 1074).toNat
      have hp2 := pow_pos' U1
      constructor
      · intro h
        have h3 : tot * 2 ^ (min i j + 1074).toNat < 0 := Int.mul_neg_of_neg_of_pos h hp1
        rw [hkey] at h3
        rcases Int.lt_or_le (a + b) 0 with h4 | h4
        · exact h4
        · have := Int.mul_nonneg h4 (Int.le_of_lt hp2); omega
      · intro h
        have h3 : (a + b) * 2 ^ U1 < 0 := Int.mul_neg_of_neg_of_pos h hp2
        rw [← hkey] at h3
        rcases Int.lt_or_le tot 0 with h4 | h4
        · exact h4
        · have := Int.mul_nonneg h4 (Int.le_of_lt hp1); omega
    have hval : (if decide (tot < 0) then -((a + b).natAbs : Int) else ((a + b).natAbs : Int)) = a + b := by
      by_cases h : tot < 0
      · simp only [h, decide_true, if_true]; have := hsign.1 h; omega
      · simp only [h, decide_false, Bool.false_eq_true, if_false]; have := mt hsign.2 h; omega
    rw [hval] at this
    exact this

theorem FI_add {x y : Nat} {a b : Int} (hx : FI x a) (hy : FI y b) (h : (a + b).natAbs < 2 ^ 53) : ∃ r, double.add x y = some r ∧ FI r (a + b) := by
  obtain ⟨s, m, i, h1, h2, h3, _⟩ := read_fin hx.1
  obtain ⟨t, n, j, h4, h5, h6, _⟩ := read_fin hy.1
  rw [hx.2] at h3
  rw [hy.2] at h6
  obtain ⟨d, hd, hr⟩ := FI_sum h2 h5 h3 h6 h
  refine ⟨_, ?_, hr⟩
  unfold Format.add
  rw [h1, h4, hd]; rfl

theorem signed_not (s : Bool) (m u : Nat) : signed (!s) m u = -signed s m u := by
  unfold signed; cases s <;> simp

theorem FI_sub {x y : Nat} {a b : Int} (hx : FI x a) (hy : FI y b) (h : (a - b).natAbs < 2 ^ 53) : ∃ r, double.sub x y = some r ∧ FI r (a - b) := by
  obtain ⟨s, m, i, h1, h2, h3, _⟩ := read_fin hx.1
  obtain ⟨t, n, j, h4, h5, h6, _⟩ := read_fin hy.1
  rw [hx.2] at h3
  rw [hy.2] at h6
  have h7 : signed (!t) n (j + 1074).toNat = -b * 2 ^ U1 := by rw [signed_not, h6, Int.neg_mul]
  rw [Int.sub_eq_add_neg] at h ⊢
  obtain ⟨d, hd, hr⟩ := FI_sum h2 h5 h3 h7 h
  refine ⟨_, ?_, hr⟩
  unfold Format.sub
  rw [h1, h4]
  show Option.map double.write (Datum.sum (.number s m i) (.number (!t) n j)) = _
  rw [hd]; rfl

/-- A word of a whole number that is not 0 has no digits far behind the point. -/
theorem place_lo {m : Nat} {i : Int} {k : Nat} (hi : -1074 ≤ i) (hm : m < 2 ^ 53) (hk : k ≠ 0) (h : m * 2 ^ (i + 1074).toNat = k * 2 ^ U1) : -53 < i := by
  have hU : U1 = 1074 := rfl
  rcases Int.lt_or_le (-53) i with h1 | h1
  · exact h1
  · exfalso
    obtain ⟨c, hc⟩ : ∃ c : Nat, c = 1021 := ⟨_, rfl⟩
    have h2 : (i + 1074).toNat ≤ c := by omega
    have h3 : m * 2 ^ (i + 1074).toNat < 2 ^ 53 * 2 ^ c := by
      apply Nat.lt_of_lt_of_le (Nat.mul_lt_mul_of_pos_right hm (Nat.two_pow_pos _))
      exact Nat.mul_le_mul_left _ (Nat.pow_le_pow_right (by decide) h2)
    rw [← Nat.pow_add, h] at h3
    have h4 : 2 ^ U1 ≤ k * 2 ^ U1 := Nat.le_mul_of_pos_left _ (Nat.pos_of_ne_zero hk)
    have h5 : 53 + c = U1 := by rw [hU, hc]
    rw [h5] at h3
    exact absurd h3 (Nat.not_lt.2 h4)

theorem FI_mul {x y : Nat} {a b : Int} (hx : FI x a) (hy : FI y b) (h : (a * b).natAbs < 2 ^ 53) : ∃ r, double.mul x y = some r ∧ FI r (a * b) := by
  obtain ⟨s, m, i, h1, h2, h3, hm⟩ := read_fin hx.1
  obtain ⟨t, n, j, h4, h5, h6, hn⟩ := read_fin hy.1
  rw [hx.2] at h3
  rw [hy.2] at h6
  have hma : m * 2 ^ (i + 1074).toNat = a.natAbs * 2 ^ U1 := by
    have := congrArg Int.natAbs h3
    rw [signed_natAbs, Int.natAbs_mul, natAbs_pow2] at this
    exact this
  have hnb : n * 2 ^ (j + 1074).toNat = b.natAbs * 2 ^ U1 := by
    have := congrArg Int.natAbs h6
    rw [signed_natAbs, Int.natAbs_mul, natAbs_pow2] at this
    exact this
  refine ⟨double.nearest (s ^^ t) (m * n) (i + j), ?_, ?_⟩
  · unfold Format.mul
    rw [h1, h4]; rfl
  · by_cases h0 : m * n = 0
    · have : a * b = 0 := by
        rcases Nat.mul_eq_zero.1 h0 with h7 | h7
        · rw [h7, Nat.zero_mul] at hma
          rcases Nat.mul_eq_zero.1 hma.symm with h8 | h8
          · rw [Int.natAbs_eq_zero.1 h8, Int.zero_mul]
          · exact absurd h8 (Nat.ne_of_gt (Nat.two_pow_pos _))
        · rw [h7, Nat.zero_mul] at hnb
          rcases Nat.mul_eq_zero.1 hnb.symm with h8 | h8
          · rw [Int.natAbs_eq_zero.1 h8, Int.mul_zero]
          · exact absurd h8 (Nat.ne_of_gt (Nat.two_pow_pos _))
      rw [this]
      unfold Format.nearest
      rw [if_pos h0]
      exact word_zero _
    · have ha : a.natAbs ≠ 0 := by
        intro e
        rw [e, Nat.zero_mul] at hma
        rcases Nat.mul_eq_zero.1 hma with h8 | h8
        · exact h0 (by rw [h8, Nat.zero_mul])
        · exact absurd h8 (Nat.ne_of_gt (Nat.two_pow_pos _))
      have hb : b.natAbs ≠ 0 := by
        intro e
        rw [e, Nat.zero_mul] at hnb
        rcases Nat.mul_eq_zero.1 hnb with h8 | h8
        · exact h0 (by rw [h8, Nat.mul_zero])
        · exact absurd h8 (Nat.ne_of_gt (Nat.two_pow_pos _))
      have hi := place_lo h2 hm ha hma
      have hj := place_lo h5 hn hb hnb
      have hU : U1 = 1074 := rfl
      have hkey : m * n * 2 ^ (i + j + 1074).toNat = (a.natAbs * b.natAbs) * 2 ^ U1 := by
        have e1 : (i + 1074).toNat + (j + 1074).toNat = (i + j + 1074).toNat + U1 := by rw [hU]; omega
        have e2 : (m * n * 2 ^ (i + j + 1074).toNat) * 2 ^ U1 = (a.natAbs * b.natAbs * 2 ^ U1) * 2 ^ U1 := by
          calc (m * n * 2 ^ (i + j + 1074).toNat) * 2 ^ U1 = m * n * 2 ^ ((i + j + 1074).toNat + U1) := by rw [Nat.pow_add, Nat.mul_assoc]
            _ = m * n * 2 ^ ((i + 1074).toNat + (j + 1074).toNat) := by rw [e1]
            _ = (m * 2 ^ (i + 1074).toNat) * (n * 2 ^ (j + 1074).toNat) := by rw [Nat.pow_add]; ac_rfl
            _ = (a.natAbs * 2 ^ U1) * (b.natAbs * 2 ^ U1) := by rw [hma, hnb]
            _ = _ := by generalize (2 : Nat) ^ U1 = u; ac_rfl
        exact Nat.eq_of_mul_eq_mul_right (Nat.two_pow_pos _) e2
      have hk0 : a.natAbs * b.natAbs ≠ 0 := Nat.mul_ne_zero ha hb
      have hk : a.natAbs * b.natAbs < 2 ^ 53 := by rw [← Int.natAbs_mul]; exact h
      have := nearest_int (s ^^ t) (by omega) hk0 hk hkey
      have hsa : s = decide (a < 0) := by
        have hp := pow_pos' U1
        rw [signed_mag] at h3
        cases s
        · have : 0 ≤ a * 2 ^ U1 := by rw [← h3]; exact Int.natCast_nonneg _
          have : ¬ a < 0 := fun hneg => by have := Int.mul_neg_of_neg_of_pos hneg hp; omega
          exact (decide_eq_false this).symm
        · have h9 : a * 2 ^ U1 ≤ 0 := by rw [← h3]; exact Int.neg_nonpos_of_nonneg (Int.natCast_nonneg _)
          have : a < 0 := by
            rcases Int.lt_or_le a 0 with h10 | h10
            · exact h10
            · have : 0 < a := by omega
              have := Int.mul_pos this hp; omega
          exact (decide_eq_true this).symm
      have hsb : t = decide (b < 0) := by
        have hp := pow_pos' U1
        rw [signed_mag] at h6
        cases t
        · have : 0 ≤ b * 2 ^ U1 := by rw [← h6]; exact Int.natCast_nonneg _
          have : ¬ b < 0 := fun hneg => by have := Int.mul_neg_of_neg_of_pos hneg hp; omega
          exact (decide_eq_false this).symm
        · have h9 : b * 2 ^ U1 ≤ 0 := by rw [← h6]; exact Int.neg_nonpos_of_nonneg (Int.natCast_nonneg _)
          have : b < 0 := by
            rcases Int.lt_or_le b 0 with h10 | h10
            · exact h10
            · have : 0 < b := by omega
              have := Int.mul_pos this hp; omega
          exact (decide_eq_true this).symm
      have hval : (if (s ^^ t) then -((a.natAbs * b.natAbs : Nat) : Int) else ((a.natAbs * b.natAbs : Nat) : Int)) = a * b := by
        rw [hsa, hsb, Int.natCast_mul]
        by_cases hA : a < 0 <;> by_cases hB : b < 0
        · have e1 : (a.natAbs : Int) = -a := by omega
          have e2 : (b.natAbs : Int) = -b := by omega
          simp only [hA, hB, decide_true, Bool.xor_self, Bool.false_eq_true, if_false, e1, e2, Int.neg_mul_neg]
        · have e1 : (a.natAbs : Int) = -a := by omega
          have e2 : (b.natAbs : Int) = b := by omega
          simp only [hA, hB, decide_true, decide_false, Bool.xor_false, if_true, e1, e2, Int.neg_mul, Int.neg_neg]
        · have e1 : (a.natAbs : Int) = a := by omega
          have e2 : (b.natAbs : Int) = -b := by omega
          simp only [hA, hB, decide_true, decide_false, Bool.false_xor, if_true, e1, e2, Int.mul_neg, Int.neg_neg]
        · have e1 : (a.natAbs : Int) = a := by omega
          have e2 : (b.natAbs : Int) = b := by omega
          simp only [hA, hB, decide_false, Bool.xor_self, Bool.false_eq_true, if_false, e1, e2]
      rw [hval] at this
      exact this

end Go.Fl
