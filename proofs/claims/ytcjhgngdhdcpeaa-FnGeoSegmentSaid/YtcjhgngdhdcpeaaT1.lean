/- The table of the program's types, each row held against the program (printed by gentys.py). -/
import Derived.Test.YtcjhgngdhdcpeaaProg
import Derived.Test.YtcjhgngdhdcpeaaSx15
import Derived.KernelRfl
namespace Go.Proofs.Try.Sx
open Go Go.Sx Go.Proofs
set_option maxRecDepth 100000
def ty2 : TI := ⟨.int .i64, 1, 8, .cells [.int .i64 0]⟩
theorem ok2 : TOk Try.prog 2 ty2 := TOk.mk' (by kernel_rfl) (by kernel_rfl) (by kernel_rfl) (by kernel_rfl) (by kernel_rfl)
def ty3 : TI := ⟨.int .i64, 1, 8, .cells [.int .i64 0]⟩
theorem ok3 : TOk Try.prog 3 ty3 := TOk.mk' (by kernel_rfl) (by kernel_rfl) (by kernel_rfl) (by kernel_rfl) (by kernel_rfl)
def ty4 : TI := ⟨.bool, 1, 1, .cells [.ff]⟩
theorem ok4 : TOk Try.prog 4 ty4 := TOk.mk' (by kernel_rfl) (by kernel_rfl) (by kernel_rfl) (by kernel_rfl) (by kernel_rfl)
def ty5 : TI := ⟨.int .u8, 1, 1, .cells [.int .u8 0]⟩
theorem ok5 : TOk Try.prog 5 ty5 := TOk.mk' (by kernel_rfl) (by kernel_rfl) (by kernel_rfl) (by kernel_rfl) (by kernel_rfl)
def ty6 : TI := ⟨.int .u8, 1, 1, .cells [.int .u8 0]⟩
theorem ok6 : TOk Try.prog 6 ty6 := TOk.mk' (by kernel_rfl) (by kernel_rfl) (by kernel_rfl) (by kernel_rfl) (by kernel_rfl)
def ty7 : TI := ⟨.struct [(0, 2), (1, 3), (2, 4), (3, 6)], 4, 24, .cells [.int .i64 0, .int .i64 0, .ff, .int .u8 0]⟩
theorem ok7 : TOk Try.prog 7 ty7 := TOk.mk' (by kernel_rfl) (by kernel_rfl) (by kernel_rfl) (by kernel_rfl) (by kernel_rfl)
def ty8 : TI := ⟨.struct [(0, 2), (1, 3), (2, 4), (3, 6)], 4, 24, .cells [.int .i64 0, .int .i64 0, .ff, .int .u8 0]⟩
theorem ok8 : TOk Try.prog 8 ty8 := TOk.mk' (by kernel_rfl) (by kernel_rfl) (by kernel_rfl) (by kernel_rfl) (by kernel_rfl)
def ty9 : TI := ⟨.str, 1, 16, .cells [.str ⟨#[]⟩]⟩
theorem ok9 : TOk Try.prog 9 ty9 := TOk.mk' (by kernel_rfl) (by kernel_rfl) (by kernel_rfl) (by kernel_rfl) (by kernel_rfl)
def ty10 : TI := ⟨.str, 1, 16, .cells [.str ⟨#[]⟩]⟩
theorem ok10 : TOk Try.prog 10 ty10 := TOk.mk' (by kernel_rfl) (by kernel_rfl) (by kernel_rfl) (by kernel_rfl) (by kernel_rfl)
def ty11 : TI := ⟨.str, 1, 16, .cells [.str ⟨#[]⟩]⟩
theorem ok11 : TOk Try.prog 11 ty11 := TOk.mk' (by kernel_rfl) (by kernel_rfl) (by kernel_rfl) (by kernel_rfl) (by kernel_rfl)
def ty12 : TI := ⟨.int .u64, 1, 8, .cells [.int .u64 0]⟩
theorem ok12 : TOk Try.prog 12 ty12 := TOk.mk' (by kernel_rfl) (by kernel_rfl) (by kernel_rfl) (by kernel_rfl) (by kernel_rfl)
def ty13 : TI := ⟨.struct [(0, 9), (1, 12)], 2, 24, .cells [.str ⟨#[]⟩, .int .u64 0]⟩
theorem ok13 : TOk Try.prog 13 ty13 := TOk.mk' (by kernel_rfl) (by kernel_rfl) (by kernel_rfl) (by kernel_rfl) (by kernel_rfl)
def ty14 : TI := ⟨.struct [(0, 9), (1, 12)], 2, 24, .cells [.str ⟨#[]⟩, .int .u64 0]⟩
theorem ok14 : TOk Try.prog 14 ty14 := TOk.mk' (by kernel_rfl) (by kernel_rfl) (by kernel_rfl) (by kernel_rfl) (by kernel_rfl)
def ty15 : TI := ⟨.ptr 92, 1, 8, .cells [.nilp]⟩
theorem ok15 : TOk Try.prog 15 ty15 := TOk.mk' (by kernel_rfl) (by kernel_rfl) (by kernel_rfl) (by kernel_rfl) (by kernel_rfl)
def ty16 : TI := ⟨.ptr 95, 1, 8, .cells [.nilp]⟩
theorem ok16 : TOk Try.prog 16 ty16 := TOk.mk' (by kernel_rfl) (by kernel_rfl) (by kernel_rfl) (by kernel_rfl) (by kernel_rfl)
def ty17 : TI := ⟨.ptr 104, 1, 8, .cells [.nilp]⟩
theorem ok17 : TOk Try.prog 17 ty17 := TOk.mk' (by kernel_rfl) (by kernel_rfl) (by kernel_rfl) (by kernel_rfl) (by kernel_rfl)
def ty18 : TI := ⟨.struct [(0, 17)], 1, 8, .cells [.nilp]⟩
theorem ok18 : TOk Try.prog 18 ty18 := TOk.mk' (by kernel_rfl) (by kernel_rfl) (by kernel_rfl) (by kernel_rfl) (by kernel_rfl)
def ty19 : TI := ⟨.struct [(0, 17)], 1, 8, .cells [.nilp]⟩
theorem ok19 : TOk Try.prog 19 ty19 := TOk.mk' (by kernel_rfl) (by kernel_rfl) (by kernel_rfl) (by kernel_rfl) (by kernel_rfl)
def ty20 : TI := ⟨.iface, 1, 16, .cells [.nili]⟩
theorem ok20 : TOk Try.prog 20 ty20 := TOk.mk' (by kernel_rfl) (by kernel_rfl) (by kernel_rfl) (by kernel_rfl) (by kernel_rfl)
def ty21 : TI := ⟨.int .i32, 1, 4, .cells [.int .i32 0]⟩
theorem ok21 : TOk Try.prog 21 ty21 := TOk.mk' (by kernel_rfl) (by kernel_rfl) (by kernel_rfl) (by kernel_rfl) (by kernel_rfl)
def ty22 : TI := ⟨.struct [(0, 2), (1, 2)], 2, 16, .cells [.int .i64 0, .int .i64 0]⟩
theorem ok22 : TOk Try.prog 22 ty22 := TOk.mk' (by kernel_rfl) (by kernel_rfl) (by kernel_rfl) (by kernel_rfl) (by kernel_rfl)
def ty23 : TI := ⟨.struct [(0, 2), (1, 2)], 2, 16, .cells [.int .i64 0, .int .i64 0]⟩
theorem ok23 : TOk Try.prog 23 ty23 := TOk.mk' (by kernel_rfl) (by kernel_rfl) (by kernel_rfl) (by kernel_rfl) (by kernel_rfl)
def ty24 : TI := ⟨.slice 31, 1, 24, .cells [.nils]⟩
theorem ok24 : TOk Try.prog 24 ty24 := TOk.mk' (by kernel_rfl) (by kernel_rfl) (by kernel_rfl) (by kernel_rfl) (by kernel_rfl)
def ty31 : TI := ⟨.struct [(0, 2), (1, 2)], 2, 16, .cells [.int .i64 0, .int .i64 0]⟩
theorem ok31 : TOk Try.prog 31 ty31 := TOk.mk' (by kernel_rfl) (by kernel_rfl) (by kernel_rfl) (by kernel_rfl) (by kernel_rfl)
def ty33 : TI := ⟨.array 2 23, 4, 32, .cells [.int .i64 0, .int .i64 0, .int .i64 0, .int .i64 0]⟩
theorem ok33 : TOk Try.prog 33 ty33 := TOk.mk' (by kernel_rfl) (by kernel_rfl) (by kernel_rfl) (by kernel_rfl) (by kernel_rfl)
def ty34 : TI := ⟨.array 2 31, 4, 32, .cells [.int .i64 0, .int .i64 0, .int .i64 0, .int .i64 0]⟩
theorem ok34 : TOk Try.prog 34 ty34 := TOk.mk' (by kernel_rfl) (by kernel_rfl) (by kernel_rfl) (by kernel_rfl) (by kernel_rfl)
def ty37 : TI := ⟨.flt .f64, 1, 8, .cells [.flt .f64 0]⟩
theorem ok37 : TOk Try.prog 37 ty37 := TOk.mk' (by kernel_rfl) (by kernel_rfl) (by kernel_rfl) (by kernel_rfl) (by kernel_rfl)
def ty38 : TI := ⟨.slice 23, 1, 24, .cells [.nils]⟩
theorem ok38 : TOk Try.prog 38 ty38 := TOk.mk' (by kernel_rfl) (by kernel_rfl) (by kernel_rfl) (by kernel_rfl) (by kernel_rfl)
def ty39 : TI := ⟨.slice 33, 1, 24, .cells [.nils]⟩
theorem ok39 : TOk Try.prog 39 ty39 := TOk.mk' (by kernel_rfl) (by kernel_rfl) (by kernel_rfl) (by kernel_rfl) (by kernel_rfl)
def ty40 : TI := ⟨.struct [(0, 4), (1, 4), (2, 4), (3, 4), (4, 4), (5, 4), (6, 4), (7, 4), (8, 37), (9, 23), (11, 38), (12, 39)], 13, 80, .cells [.ff, .ff, .ff, .ff, .ff, .ff, .ff, .ff, .flt .f64 0, .int .i64 0, .int .i64 0, .nils, .nils]⟩
theorem ok40 : TOk Try.prog 40 ty40 := TOk.mk' (by kernel_rfl) (by kernel_rfl) (by kernel_rfl) (by kernel_rfl) (by kernel_rfl)
def ty41 : TI := ⟨.struct [(0, 4), (1, 4), (2, 4), (3, 4), (4, 4), (5, 4), (6, 4), (7, 4), (8, 37), (9, 23), (11, 38), (12, 39)], 13, 80, .cells [.ff, .ff, .ff, .ff, .ff, .ff, .ff, .ff, .flt .f64 0, .int .i64 0, .int .i64 0, .nils, .nils]⟩
theorem ok41 : TOk Try.prog 41 ty41 := TOk.mk' (by kernel_rfl) (by kernel_rfl) (by kernel_rfl) (by kernel_rfl) (by kernel_rfl)
def ty48 : TI := ⟨.slice 34, 1, 24, .cells [.nils]⟩
theorem ok48 : TOk Try.prog 48 ty48 := TOk.mk' (by kernel_rfl) (by kernel_rfl) (by kernel_rfl) (by kernel_rfl) (by kernel_rfl)
def ty51 : TI := ⟨.struct [(0, 4), (1, 4), (2, 4), (3, 4), (4, 33)], 8, 40, .cells [.ff, .ff, .ff, .ff, .int .i64 0, .int .i64 0, .int .i64 0, .int .i64 0]⟩
theorem ok51 : TOk Try.prog 51 ty51 := TOk.mk' (by kernel_rfl) (by kernel_rfl) (by kernel_rfl) (by kernel_rfl) (by kernel_rfl)
def ty52 : TI := ⟨.struct [(0, 4), (1, 4), (2, 4), (3, 4), (4, 33)], 8, 40, .cells [.ff, .ff, .ff, .ff, .int .i64 0, .int .i64 0, .int .i64 0, .int .i64 0]⟩
theorem ok52 : TOk Try.prog 52 ty52 := TOk.mk' (by kernel_rfl) (by kernel_rfl) (by kernel_rfl) (by kernel_rfl) (by kernel_rfl)
def ty58 : TI := ⟨.struct [(0, 4), (1, 4)], 2, 2, .cells [.ff, .ff]⟩
theorem ok58 : TOk Try.prog 58 ty58 := TOk.mk' (by kernel_rfl) (by kernel_rfl) (by kernel_rfl) (by kernel_rfl) (by kernel_rfl)
def ty59 : TI := ⟨.struct [(0, 4), (1, 4)], 2, 2, .cells [.ff, .ff]⟩
theorem ok59 : TOk Try.prog 59 ty59 := TOk.mk' (by kernel_rfl) (by kernel_rfl) (by kernel_rfl) (by kernel_rfl) (by kernel_rfl)
def ty60 : TI := ⟨.struct [(0, 37), (1, 37)], 2, 16, .cells [.flt .f64 0, .flt .f64 0]⟩
theorem ok60 : TOk Try.prog 60 ty60 := TOk.mk' (by kernel_rfl) (by kernel_rfl) (by kernel_rfl) (by kernel_rfl) (by kernel_rfl)
def ty61 : TI := ⟨.struct [(0, 37), (1, 37)], 2, 16, .cells [.flt .f64 0, .flt .f64 0]⟩
theorem ok61 : TOk Try.prog 61 ty61 := TOk.mk' (by kernel_rfl) (by kernel_rfl) (by kernel_rfl) (by kernel_rfl) (by kernel_rfl)
def ty63 : TI := ⟨.struct [(0, 61), (2, 61)], 4, 32, .cells [.flt .f64 0, .flt .f64 0, .flt .f64 0, .flt .f64 0]⟩
theorem ok63 : TOk Try.prog 63 ty63 := TOk.mk' (by kernel_rfl) (by kernel_rfl) (by kernel_rfl) (by kernel_rfl) (by kernel_rfl)
def ty64 : TI := ⟨.struct [(0, 61), (2, 61)], 4, 32, .cells [.flt .f64 0, .flt .f64 0, .flt .f64 0, .flt .f64 0]⟩
theorem ok64 : TOk Try.prog 64 ty64 := TOk.mk' (by kernel_rfl) (by kernel_rfl) (by kernel_rfl) (by kernel_rfl) (by kernel_rfl)
def ty67 : TI := ⟨.struct [(0, 61), (2, 61)], 4, 32, .cells [.flt .f64 0, .flt .f64 0, .flt .f64 0, .flt .f64 0]⟩
theorem ok67 : TOk Try.prog 67 ty67 := TOk.mk' (by kernel_rfl) (by kernel_rfl) (by kernel_rfl) (by kernel_rfl) (by kernel_rfl)
def ty68 : TI := ⟨.struct [(0, 61), (2, 61)], 4, 32, .cells [.flt .f64 0, .flt .f64 0, .flt .f64 0, .flt .f64 0]⟩
theorem ok68 : TOk Try.prog 68 ty68 := TOk.mk' (by kernel_rfl) (by kernel_rfl) (by kernel_rfl) (by kernel_rfl) (by kernel_rfl)
def ty83 : TI := ⟨.slice 61, 1, 24, .cells [.nils]⟩
theorem ok83 : TOk Try.prog 83 ty83 := TOk.mk' (by kernel_rfl) (by kernel_rfl) (by kernel_rfl) (by kernel_rfl) (by kernel_rfl)
def ty84 : TI := ⟨.slice 64, 1, 24, .cells [.nils]⟩
theorem ok84 : TOk Try.prog 84 ty84 := TOk.mk' (by kernel_rfl) (by kernel_rfl) (by kernel_rfl) (by kernel_rfl) (by kernel_rfl)
def ty88 : TI := ⟨.int .u64, 1, 8, .cells [.int .u64 0]⟩
theorem ok88 : TOk Try.prog 88 ty88 := TOk.mk' (by kernel_rfl) (by kernel_rfl) (by kernel_rfl) (by kernel_rfl) (by kernel_rfl)
def ty91 : TI := ⟨.struct [(0, 17), (1, 17), (2, 17), (3, 9)], 4, 40, .cells [.nilp, .nilp, .nilp, .str ⟨#[]⟩]⟩
theorem ok91 : TOk Try.prog 91 ty91 := TOk.mk' (by kernel_rfl) (by kernel_rfl) (by kernel_rfl) (by kernel_rfl) (by kernel_rfl)
def ty92 : TI := ⟨.struct [(0, 17), (1, 17), (2, 17), (3, 9)], 4, 40, .cells [.nilp, .nilp, .nilp, .str ⟨#[]⟩]⟩
theorem ok92 : TOk Try.prog 92 ty92 := TOk.mk' (by kernel_rfl) (by kernel_rfl) (by kernel_rfl) (by kernel_rfl) (by kernel_rfl)
def ty93 : TI := ⟨.array 0 16, 0, 0, .cells []⟩
theorem ok93 : TOk Try.prog 93 ty93 := TOk.mk' (by kernel_rfl) (by kernel_rfl) (by kernel_rfl) (by kernel_rfl) (by kernel_rfl)
def ty94 : TI := ⟨.struct [(0, 93)], 0, 0, .cells []⟩
theorem ok94 : TOk Try.prog 94 ty94 := TOk.mk' (by kernel_rfl) (by kernel_rfl) (by kernel_rfl) (by kernel_rfl) (by kernel_rfl)
def ty95 : TI := ⟨.struct [(0, 93)], 0, 0, .cells []⟩
theorem ok95 : TOk Try.prog 95 ty95 := TOk.mk' (by kernel_rfl) (by kernel_rfl) (by kernel_rfl) (by kernel_rfl) (by kernel_rfl)
def ty96 : TI := ⟨.int .u32, 1, 4, .cells [.int .u32 0]⟩
theorem ok96 : TOk Try.prog 96 ty96 := TOk.mk' (by kernel_rfl) (by kernel_rfl) (by kernel_rfl) (by kernel_rfl) (by kernel_rfl)
def ty97 : TI := ⟨.int .u8, 1, 1, .cells [.int .u8 0]⟩
theorem ok97 : TOk Try.prog 97 ty97 := TOk.mk' (by kernel_rfl) (by kernel_rfl) (by kernel_rfl) (by kernel_rfl) (by kernel_rfl)
def ty98 : TI := ⟨.int .u8, 1, 1, .cells [.int .u8 0]⟩
theorem ok98 : TOk Try.prog 98 ty98 := TOk.mk' (by kernel_rfl) (by kernel_rfl) (by kernel_rfl) (by kernel_rfl) (by kernel_rfl)
def ty100 : TI := ⟨.ptr 5, 1, 8, .cells [.nilp]⟩
theorem ok100 : TOk Try.prog 100 ty100 := TOk.mk' (by kernel_rfl) (by kernel_rfl) (by kernel_rfl) (by kernel_rfl) (by kernel_rfl)
def ty101 : TI := ⟨.int .i32, 1, 4, .cells [.int .i32 0]⟩
theorem ok101 : TOk Try.prog 101 ty101 := TOk.mk' (by kernel_rfl) (by kernel_rfl) (by kernel_rfl) (by kernel_rfl) (by kernel_rfl)
def ty102 : TI := ⟨.int .i32, 1, 4, .cells [.int .i32 0]⟩
theorem ok102 : TOk Try.prog 102 ty102 := TOk.mk' (by kernel_rfl) (by kernel_rfl) (by kernel_rfl) (by kernel_rfl) (by kernel_rfl)
def ty103 : TI := ⟨.struct [(0, 12), (1, 12), (2, 96), (3, 97), (4, 5), (5, 5), (6, 98), (7, 99), (8, 100), (9, 101), (10, 102)], 11, 48, .cells [.int .u64 0, .int .u64 0, .int .u32 0, .int .u8 0, .int .u8 0, .int .u8 0, .int .u8 0, .nilf, .nilp, .int .i32 0, .int .i32 0]⟩
theorem ok103 : TOk Try.prog 103 ty103 := TOk.mk' (by kernel_rfl) (by kernel_rfl) (by kernel_rfl) (by kernel_rfl) (by kernel_rfl)
def ty104 : TI := ⟨.struct [(0, 12), (1, 12), (2, 96), (3, 97), (4, 5), (5, 5), (6, 98), (7, 99), (8, 100), (9, 101), (10, 102)], 11, 48, .cells [.int .u64 0, .int .u64 0, .int .u32 0, .int .u8 0, .int .u8 0, .int .u8 0, .int .u8 0, .nilf, .nilp, .int .i32 0, .int .i32 0]⟩
theorem ok104 : TOk Try.prog 104 ty104 := TOk.mk' (by kernel_rfl) (by kernel_rfl) (by kernel_rfl) (by kernel_rfl) (by kernel_rfl)
def tys : Tys := [(2, ty2), (3, ty3), (4, ty4), (5, ty5), (6, ty6), (7, ty7), (8, ty8), (9, ty9), (10, ty10), (11, ty11), (12, ty12), (13, ty13), (14, ty14), (15, ty15), (16, ty16), (17, ty17), (18, ty18), (19, ty19), (20, ty20), (21, ty21), (22, ty22), (23, ty23), (24, ty24), (31, ty31), (33, ty33), (34, ty34), (37, ty37), (38, ty38), (39, ty39), (40, ty40), (41, ty41), (48, ty48), (51, ty51), (52, ty52), (58, ty58), (59, ty59), (60, ty60), (61, ty61), (63, ty63), (64, ty64), (67, ty67), (68, ty68), (83, ty83), (84, ty84), (88, ty88), (91, ty91), (92, ty92), (93, ty93), (94, ty94), (95, ty95), (96, ty96), (97, ty97), (98, ty98), (100, ty100), (101, ty101), (102, ty102), (103, ty103), (104, ty104)]
theorem tysOk : TysOk Try.prog tys := by
  unfold tys
  refine TysOk.cons ok2 ?_
  refine TysOk.cons ok3 ?_
  refine TysOk.cons ok4 ?_
  refine TysOk.cons ok5 ?_
  refine TysOk.cons ok6 ?_
  refine TysOk.cons ok7 ?_
  refine TysOk.cons ok8 ?_
  refine TysOk.cons ok9 ?_
  refine TysOk.cons ok10 ?_
  refine TysOk.cons ok11 ?_
  refine TysOk.cons ok12 ?_
  refine TysOk.cons ok13 ?_
  refine TysOk.cons ok14 ?_
  refine TysOk.cons ok15 ?_
  refine TysOk.cons ok16 ?_
  refine TysOk.cons ok17 ?_
  refine TysOk.cons ok18 ?_
  refine TysOk.cons ok19 ?_
  refine TysOk.cons ok20 ?_
  refine TysOk.cons ok21 ?_
  refine TysOk.cons ok22 ?_
  refine TysOk.cons ok23 ?_
  refine TysOk.cons ok24 ?_
  refine TysOk.cons ok31 ?_
  refine TysOk.cons ok33 ?_
  refine TysOk.cons ok34 ?_
  refine TysOk.cons ok37 ?_
  refine TysOk.cons ok38 ?_
  refine TysOk.cons ok39 ?_
  refine TysOk.cons ok40 ?_
  refine TysOk.cons ok41 ?_
  refine TysOk.cons ok48 ?_
  refine TysOk.cons ok51 ?_
  refine TysOk.cons ok52 ?_
  refine TysOk.cons ok58 ?_
  refine TysOk.cons ok59 ?_
  refine TysOk.cons ok60 ?_
  refine TysOk.cons ok61 ?_
  refine TysOk.cons ok63 ?_
  refine TysOk.cons ok64 ?_
  refine TysOk.cons ok67 ?_
  refine TysOk.cons ok68 ?_
  refine TysOk.cons ok83 ?_
  refine TysOk.cons ok84 ?_
  refine TysOk.cons ok88 ?_
  refine TysOk.cons ok91 ?_
  refine TysOk.cons ok92 ?_
  refine TysOk.cons ok93 ?_
  refine TysOk.cons ok94 ?_
  refine TysOk.cons ok95 ?_
  refine TysOk.cons ok96 ?_
  refine TysOk.cons ok97 ?_
  refine TysOk.cons ok98 ?_
  refine TysOk.cons ok100 ?_
  refine TysOk.cons ok101 ?_
  refine TysOk.cons ok102 ?_
  refine TysOk.cons ok103 ?_
  refine TysOk.cons ok104 ?_
  exact TysOk.nil
end Go.Proofs.Try.Sx
