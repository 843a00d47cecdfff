/-
  A part of the proof of YtkjhclknbkleoaaGreat: texts ZE, ZF, ZG, ZH, ZI. No conditions.
-/
import Derived.Test.YtkjhclknbkleoaaGreatT10
import Derived.KernelRfl
import Derived.Test.YtkjhclknbkleoaaGreatProg
set_option maxRecDepth 20000
namespace Go.X.Z
open Go.Proofs
noncomputable section
def T_Plus : Tmpl := ⟨56, [.one (.agg (us .u32 0 16)), .one (.agg (us .u32 16 16))], [], 32, 16, true, .one (.agg (us .u32 32 16)), [], []⟩
def p_Plus : Path := ⟨(bs 32 0 4294967295), [], ⟨.one (.agg [.int .u32 (.v 36), .int .u32 (.v 42), .int .u32 (.v 48), .int .u32 (.v 54), .int .u32 (.v 60), .int .u32 (.v 66), .int .u32 (.v 72), .int .u32 (.v 78), .int .u32 (.v 84), .int .u32 (.v 90), .int .u32 (.v 96), .int .u32 (.v 102), .int .u32 (.v 108), .int .u32 (.v 114), .int .u32 (.v 120), .int .u32 (.v 126)]), [[.int .u32 (.v 36), .int .u32 (.v 42), .int .u32 (.v 48), .int .u32 (.v 54), .int .u32 (.v 60), .int .u32 (.v 66), .int .u32 (.v 72), .int .u32 (.v 78), .int .u32 (.v 84), .int .u32 (.v 90), .int .u32 (.v 96), .int .u32 (.v 102), .int .u32 (.v 108), .int .u32 (.v 114), .int .u32 (.v 120), .int .u32 (.v 126)], (us .u32 16 16), [.int .u32 (.v 36), .int .u32 (.v 42), .int .u32 (.v 48), .int .u32 (.v 54), .int .u32 (.v 60), .int .u32 (.v 66), .int .u32 (.v 72), .int .u32 (.v 78), .int .u32 (.v 84), .int .u32 (.v 90), .int .u32 (.v 96), .int .u32 (.v 102), .int .u32 (.v 108), .int .u32 (.v 114), .int .u32 (.v 120), .int .u32 (.v 126)]], ⟨g_Plus, 128, [], [], [2, 0, 0, 0, 0, 0, 0, 0, 0, 0, 0, 0, 0, 0, 0, 0, 0]⟩⟩, ⟨outs_Plus, []⟩, 200⟩
theorem r_Plus : runBody Tryz.prog [] [] Tryz.f56 p_Plus.fuel T_Plus.args T_Plus.mem T_Plus.nin p_Plus.orc = some p_Plus.out := by kernel_rfl
theorem good_Plus (W : World0 Tryz.prog) : Good W T_Plus s_Plus := straight (l := l_Plus) (p := p_Plus) (by exact trivial) Tryz.func56 Tryz.call56 r_Plus (by kernel_rfl) rfl

def T_Minus : Tmpl := ⟨58, [.one (.agg (us .u32 0 16)), .one (.agg (us .u32 16 16))], [], 32, 16, true, .one (.agg (us .u32 32 16)), [], []⟩
def p_Minus : Path := ⟨(bs 32 0 4294967295), [], ⟨.one (.agg [.int .u32 (.v 36), .int .u32 (.v 42), .int .u32 (.v 48), .int .u32 (.v 54), .int .u32 (.v 60), .int .u32 (.v 66), .int .u32 (.v 72), .int .u32 (.v 78), .int .u32 (.v 84), .int .u32 (.v 90), .int .u32 (.v 96), .int .u32 (.v 102), .int .u32 (.v 108), .int .u32 (.v 114), .int .u32 (.v 120), .int .u32 (.v 126)]), [[.int .u32 (.v 36), .int .u32 (.v 42), .int .u32 (.v 48), .int .u32 (.v 54), .int .u32 (.v 60), .int .u32 (.v 66), .int .u32 (.v 72), .int .u32 (.v 78), .int .u32 (.v 84), .int .u32 (.v 90), .int .u32 (.v 96), .int .u32 (.v 102), .int .u32 (.v 108), .int .u32 (.v 114), .int .u32 (.v 120), .int .u32 (.v 126)], (us .u32 16 16), [.int .u32 (.v 36), .int .u32 (.v 42), .int .u32 (.v 48), .int .u32 (.v 54), .int .u32 (.v 60), .int .u32 (.v 66), .int .u32 (.v 72), .int .u32 (.v 78), .int .u32 (.v 84), .int .u32 (.v 90), .int .u32 (.v 96), .int .u32 (.v 102), .int .u32 (.v 108), .int .u32 (.v 114), .int .u32 (.v 120), .int .u32 (.v 126)]], ⟨g_Minus, 128, [], [], [2, 0, 0, 0, 0, 0, 0, 0, 0, 0, 0, 0, 0, 0, 0, 0, 0]⟩⟩, ⟨outs_Minus, []⟩, 200⟩
theorem r_Minus : runBody Tryz.prog [] [] Tryz.f58 p_Minus.fuel T_Minus.args T_Minus.mem T_Minus.nin p_Minus.orc = some p_Minus.out := by kernel_rfl
theorem good_Minus (W : World0 Tryz.prog) : Good W T_Minus s_Minus := straight (l := l_Minus) (p := p_Minus) (by exact trivial) Tryz.func58 Tryz.call58 r_Minus (by kernel_rfl) rfl

def T_Times : Tmpl := ⟨55, [.one (.agg (us .u32 0 16)), .one (.agg (us .u32 16 16))], [], 32, 16, true, .one (.agg (us .u32 32 16)), [], []⟩
def p_Times : Path := ⟨(bs 32 0 4294967295), [], ⟨.one (.agg [.int .u32 (.v 37), .int .u32 (.v 95), .int .u32 (.v 160), .int .u32 (.v 225), .int .u32 (.v 290), .int .u32 (.v 355), .int .u32 (.v 420), .int .u32 (.v 485), .int .u32 (.v 493), .int .u32 (.v 501), .int .u32 (.v 509), .int .u32 (.v 517), .int .u32 (.v 525), .int .u32 (.v 533), .int .u32 (.v 541), .int .u32 (.v 543)]), [(us .u32 0 16), (us .u32 16 16), [.int .u32 (.v 37), .int .u32 (.v 95), .int .u32 (.v 160), .int .u32 (.v 225), .int .u32 (.v 290), .int .u32 (.v 355), .int .u32 (.v 420), .int .u32 (.v 485), .int .u32 (.v 493), .int .u32 (.v 501), .int .u32 (.v 509), .int .u32 (.v 517), .int .u32 (.v 525), .int .u32 (.v 533), .int .u32 (.v 541), .int .u32 (.v 543)], [.int .u32 (.v 37), .int .u32 (.v 95), .int .u32 (.v 160), .int .u32 (.v 225), .int .u32 (.v 290), .int .u32 (.v 355), .int .u32 (.v 420), .int .u32 (.v 485), .int .u32 (.v 493), .int .u32 (.v 501), .int .u32 (.v 509), .int .u32 (.v 517), .int .u32 (.v 525), .int .u32 (.v 533), .int .u32 (.v 541), .int .u32 (.v 543)]], ⟨g_Times, 544, [], [], [2, 3, 3, 3, 3, 3, 3, 3, 3, 3, 3, 3, 3, 3, 3, 3, 3, 3, 3, 3, 3, 3, 3, 3, 3, 3, 3, 3, 3, 3, 3, 3, 3, 3, 3, 3, 3, 3, 3, 3, 3, 3, 3, 3, 3, 3, 3, 3, 3, 3, 3, 3, 3, 3, 3, 3, 3, 3, 3, 3, 3, 3, 3, 3, 3, 3, 3, 3, 3, 3, 3, 3, 3]⟩⟩, ⟨outs_Times, []⟩, 200⟩
theorem r_Times : runBody Tryz.prog [] [] Tryz.f55 p_Times.fuel T_Times.args T_Times.mem T_Times.nin p_Times.orc = some p_Times.out := by kernel_rfl
theorem good_Times (W : World0 Tryz.prog) : Good W T_Times s_Times := straight (l := l_Times) (p := p_Times) (by exact trivial) Tryz.func55 Tryz.call55 r_Times (by kernel_rfl) rfl

def T_NBytes : Tmpl := ⟨31, [.one (.agg (us .u32 0 16))], [], 16, 32, true, .one (.lf (.slc 0 0 32 (some 32))), [], [(us .u8 16 32)]⟩
def p_NBytes : Path := ⟨(bs 16 0 4294967295), [], ⟨.one (.lf (.slc 1 0 32 (some 32))), [(us .u32 0 16), [.int .u8 (.v 17), .int .u8 (.v 19), .int .u8 (.v 21), .int .u8 (.v 23), .int .u8 (.v 25), .int .u8 (.v 27), .int .u8 (.v 29), .int .u8 (.v 31), .int .u8 (.v 33), .int .u8 (.v 35), .int .u8 (.v 37), .int .u8 (.v 39), .int .u8 (.v 41), .int .u8 (.v 43), .int .u8 (.v 45), .int .u8 (.v 47), .int .u8 (.v 49), .int .u8 (.v 51), .int .u8 (.v 53), .int .u8 (.v 55), .int .u8 (.v 57), .int .u8 (.v 59), .int .u8 (.v 61), .int .u8 (.v 63), .int .u8 (.v 65), .int .u8 (.v 67), .int .u8 (.v 69), .int .u8 (.v 71), .int .u8 (.v 73), .int .u8 (.v 75), .int .u8 (.v 77), .int .u8 (.v 79)]], ⟨g_NBytes, 80, [], [], [1, 1, 1, 1, 1, 1, 1, 1, 1, 1, 1, 1, 1, 1, 1, 1, 1, 1, 1, 1, 1, 1, 1, 1, 1, 1, 1, 1, 1, 1, 1, 1]⟩⟩, ⟨outs_NBytes, [1]⟩, 200⟩
theorem r_NBytes : runBody Tryz.prog [] [] Tryz.f31 p_NBytes.fuel T_NBytes.args T_NBytes.mem T_NBytes.nin p_NBytes.orc = some p_NBytes.out := by kernel_rfl
theorem good_NBytes (W : World0 Tryz.prog) : Good W T_NBytes s_NBytes := straight (l := l_NBytes) (p := p_NBytes) (by exact trivial) Tryz.func31 Tryz.call31 r_NBytes (by kernel_rfl) rfl

def T_Of32 : Tmpl := ⟨16, [.one (.lf (.slc 0 0 32 none))], [(us .u8 0 32)], 32, 8, true, .one (.agg ((us .u32 32 8) ++ (lits .u32 0 8))), [none], []⟩
def p_Of32 : Path := ⟨(bs 32 0 255), [], ⟨.one (.agg ([.int .u32 (.v 43), .int .u32 (.v 55), .int .u32 (.v 67), .int .u32 (.v 79), .int .u32 (.v 91), .int .u32 (.v 103), .int .u32 (.v 115), .int .u32 (.v 127)] ++ (lits .u32 0 8))), [(us .u8 0 32), ([.int .u32 (.v 43), .int .u32 (.v 55), .int .u32 (.v 67), .int .u32 (.v 79), .int .u32 (.v 91), .int .u32 (.v 103), .int .u32 (.v 115), .int .u32 (.v 127)] ++ (lits .u32 0 8)), ([.int .u32 (.v 43), .int .u32 (.v 55), .int .u32 (.v 67), .int .u32 (.v 79), .int .u32 (.v 91), .int .u32 (.v 103), .int .u32 (.v 115), .int .u32 (.v 127)] ++ (lits .u32 0 8))], ⟨g_Of32, 128, [], [], [1, 2, 2, 2, 2, 2, 2, 2, 2, 2, 2, 2, 2, 2, 2, 2, 2, 2, 2, 2, 2, 2, 2, 2, 2, 2, 2, 2, 2, 2, 2, 2, 2]⟩⟩, ⟨outs_Of32, []⟩, 200⟩
theorem r_Of32 : runBody Tryz.prog [] [] Tryz.f16 p_Of32.fuel T_Of32.args T_Of32.mem T_Of32.nin p_Of32.orc = some p_Of32.out := by kernel_rfl
theorem good_Of32 (W : World0 Tryz.prog) : Good W T_Of32 s_Of32 := straight (l := l_Of32) (p := p_Of32) (by exact trivial) Tryz.func16 Tryz.call16 r_Of32 (by kernel_rfl) rfl

def T_Of64 : Tmpl := ⟨16, [.one (.lf (.slc 0 0 64 none))], [(us .u8 0 64)], 64, 16, true, .one (.agg (us .u32 64 16)), [none], []⟩
def p_Of64 : Path := ⟨(bs 64 0 255), [], ⟨.one (.agg [.int .u32 (.v 75), .int .u32 (.v 87), .int .u32 (.v 99), .int .u32 (.v 111), .int .u32 (.v 123), .int .u32 (.v 135), .int .u32 (.v 147), .int .u32 (.v 159), .int .u32 (.v 171), .int .u32 (.v 183), .int .u32 (.v 195), .int .u32 (.v 207), .int .u32 (.v 219), .int .u32 (.v 231), .int .u32 (.v 243), .int .u32 (.v 255)]), [(us .u8 0 64), [.int .u32 (.v 75), .int .u32 (.v 87), .int .u32 (.v 99), .int .u32 (.v 111), .int .u32 (.v 123), .int .u32 (.v 135), .int .u32 (.v 147), .int .u32 (.v 159), .int .u32 (.v 171), .int .u32 (.v 183), .int .u32 (.v 195), .int .u32 (.v 207), .int .u32 (.v 219), .int .u32 (.v 231), .int .u32 (.v 243), .int .u32 (.v 255)], [.int .u32 (.v 75), .int .u32 (.v 87), .int .u32 (.v 99), .int .u32 (.v 111), .int .u32 (.v 123), .int .u32 (.v 135), .int .u32 (.v 147), .int .u32 (.v 159), .int .u32 (.v 171), .int .u32 (.v 183), .int .u32 (.v 195), .int .u32 (.v 207), .int .u32 (.v 219), .int .u32 (.v 231), .int .u32 (.v 243), .int .u32 (.v 255)]], ⟨g_Of64, 256, [], [], [1, 2, 2, 2, 2, 2, 2, 2, 2, 2, 2, 2, 2, 2, 2, 2, 2, 2, 2, 2, 2, 2, 2, 2, 2, 2, 2, 2, 2, 2, 2, 2, 2, 2, 2, 2, 2, 2, 2, 2, 2, 2, 2, 2, 2, 2, 2, 2, 2, 2, 2, 2, 2, 2, 2, 2, 2, 2, 2, 2, 2, 2, 2, 2, 2]⟩⟩, ⟨outs_Of64, []⟩, 200⟩
theorem r_Of64 : runBody Tryz.prog [] [] Tryz.f16 p_Of64.fuel T_Of64.args T_Of64.mem T_Of64.nin p_Of64.orc = some p_Of64.out := by kernel_rfl
theorem good_Of64 (W : World0 Tryz.prog) : Good W T_Of64 s_Of64 := straight (l := l_Of64) (p := p_Of64) (by exact trivial) Tryz.func16 Tryz.call16 r_Of64 (by kernel_rfl) rfl

def T_Small : Tmpl := ⟨33, [.one (.lf (.int .i64 (.v 0)))], [], 1, 1, true, .one (.agg ([.int .u32 (.v 1)] ++ (lits .u32 0 15))), [], []⟩
def p_Small : Path := ⟨[((-9223372036854775808), 9223372036854775807)], [], ⟨.one (.agg ([.int .u32 (.v 1)] ++ (lits .u32 0 15))), [([.int .u32 (.v 1)] ++ (lits .u32 0 15))], ⟨g_Small, 2, [], [], [0]⟩⟩, ⟨outs_Small, []⟩, 60⟩
theorem r_Small : runBody Tryz.prog [] [] Tryz.f33 p_Small.fuel T_Small.args T_Small.mem T_Small.nin p_Small.orc = some p_Small.out := by kernel_rfl
theorem good_Small (W : World0 Tryz.prog) : Good W T_Small s_Small := straight (l := l_Small) (p := p_Small) (by exact trivial) Tryz.func33 Tryz.call33 r_Small (by kernel_rfl) rfl

def T_P : Tmpl := ⟨57, [], [], 0, 0, true, .one (.agg (List.flatten [[.int .u32 (.l 4294967277)], lits .u32 4294967295 6, [.int .u32 (.l 2147483647)], lits .u32 0 8])), [], []⟩
def p_P : Path := ⟨[], [], ⟨.one (.agg (List.flatten [[.int .u32 (.l 4294967277)], lits .u32 4294967295 6, [.int .u32 (.l 2147483647)], lits .u32 0 8])), [(List.flatten [[.int .u32 (.l 4294967277)], lits .u32 4294967295 6, [.int .u32 (.l 2147483647)], lits .u32 0 8])], ⟨g_P, 0, [], [], [0]⟩⟩, ⟨outs_P, []⟩, 60⟩
theorem r_P : runBody Tryz.prog [] [] Tryz.f57 p_P.fuel T_P.args T_P.mem T_P.nin p_P.orc = some p_P.out := by kernel_rfl
theorem good_P (W : World0 Tryz.prog) : Good W T_P s_P := straight (l := l_P) (p := p_P) (by exact trivial) Tryz.func57 Tryz.call57 r_P (by kernel_rfl) rfl

def T_Bit : Tmpl := ⟨34, [.one (.agg (us .u32 0 16)), .one (.lf (.int .i64 (.v 16)))], [], 17, 1, true, .one (.lf (.int .i64 (.v 17))), [], []⟩
def p_Bit : Path := ⟨((bs 16 0 4294967295) ++ [(0, 255)]), [], ⟨.one (.lf (.int .i64 (.v 22))), [(us .u32 0 16)], ⟨g_Bit, 23, [.nn (.v 19), .rng (.v 17) 16], [], []⟩⟩, ⟨outs_Bit, []⟩, 60⟩
theorem r_Bit : runBody Tryz.prog [] [] Tryz.f34 p_Bit.fuel T_Bit.args T_Bit.mem T_Bit.nin p_Bit.orc = some p_Bit.out := by kernel_rfl
theorem good_Bit (W : World0 Tryz.prog) : Good W T_Bit s_Bit := straight (l := l_Bit) (p := p_Bit) (by exact trivial) Tryz.func34 Tryz.call34 r_Bit (by kernel_rfl) rfl

def T_ctc : Tmpl := ⟨79, [.one (.lf (.slc 0 0 32 none)), .one (.lf (.slc 1 0 32 none))], [(us .u8 0 32), (us .u8 32 32)], 64, 1, true, .one (.lf (.int .i64 (.v 64))), [none, none], []⟩
def p_ctc_0 : Path := ⟨(bs 64 0 255), [true], ⟨.one (.lf (.int .i64 (.l 1))), [(us .u8 0 32), (us .u8 32 32)], ⟨g_ctc_0, 65, [.cond (.v 64) true], [], []⟩⟩, ⟨outs_ctc_0, []⟩, 60⟩
theorem r_ctc_0 : runBody Tryz.prog [] [] Tryz.f79 p_ctc_0.fuel T_ctc.args T_ctc.mem T_ctc.nin p_ctc_0.orc = some p_ctc_0.out := by kernel_rfl
def p_ctc_1 : Path := ⟨(bs 64 0 255), [false], ⟨.one (.lf (.int .i64 (.l 0))), [(us .u8 0 32), (us .u8 32 32)], ⟨g_ctc_1, 65, [.cond (.v 64) false], [], []⟩⟩, ⟨outs_ctc_1, []⟩, 60⟩
theorem r_ctc_1 : runBody Tryz.prog [] [] Tryz.f79 p_ctc_1.fuel T_ctc.args T_ctc.mem T_ctc.nin p_ctc_1.orc = some p_ctc_1.out := by kernel_rfl
theorem good_ctc (W : World0 Tryz.prog) : Good W T_ctc s_ctc := paths (ts := []) (l := l_ctc) (ps := [p_ctc_0, p_ctc_1]) (by exact trivial) (by kernel_rfl) Tryz.func79 Tryz.call79 (by kernel_rfl) (by
  intro p hp
  simp only [List.mem_cons, List.not_mem_nil, or_false] at hp
  rcases hp with rfl | rfl
  · exact ⟨r_ctc_0, by kernel_rfl⟩
  · exact ⟨r_ctc_1, by kernel_rfl⟩
  ) (paths_fp cov_ctc (by kernel_rfl))

def T_Equal : Tmpl := ⟨53, [.one (.lf (.ptr 0 0)), .one (.lf (.ptr 1 0))], [(us .u64 0 5), (us .u64 5 5)], 10, 1, true, .one (.lf (.int .i64 (.v 10))), [none, none], []⟩
def p_Equal : Path := ⟨(bs 10 0 4503599627370458), [], ⟨.one (.lf (.int .i64 (.v 74))), [(us .u64 0 5), (us .u64 5 5), (us .u8 10 32), (us .u8 42 32)], ⟨g_Equal, 75, [.pre 1 (vs 10 64), .pre 0 (vs 0 5), .pre 0 (vs 5 5)], [], []⟩⟩, ⟨outs_Equal, []⟩, 60⟩
theorem r_Equal : runBody Tryz.prog [T_Bytes, T_ctc] [] Tryz.f53 p_Equal.fuel T_Equal.args T_Equal.mem T_Equal.nin p_Equal.orc = some p_Equal.out := by kernel_rfl
theorem good_Equal (W : World0 Tryz.prog) : Good W T_Equal s_Equal := straight (l := l_Equal) (p := p_Equal) (by exact ⟨good_Bytes W, good_ctc W, trivial⟩) Tryz.func53 Tryz.call53 r_Equal (by kernel_rfl) rfl

end
end Go.X.Z

set_option maxRecDepth 20000
namespace Go.X.Z
open Go.Proofs
noncomputable section
def T_Less : Tmpl := ⟨80, [.one (.agg (us .u32 0 16)), .one (.agg (us .u32 16 16))], [], 32, 1, true, .one (.lf (.bool (.v 32))), [], []⟩
def p_Less_0 : Path := ⟨(bs 32 0 4294967295), [true], ⟨.one (.lf (.bool (.v 33))), [(us .u32 0 16), (us .u32 16 16)], ⟨g_Less_0, 34, [.cond (.v 32) true], [], []⟩⟩, ⟨outs_Less_0, []⟩, 200⟩
theorem r_Less_0 : runBody Tryz.prog [] [] Tryz.f80 p_Less_0.fuel T_Less.args T_Less.mem T_Less.nin p_Less_0.orc = some p_Less_0.out := by kernel_rfl
def p_Less_1 : Path := ⟨(bs 32 0 4294967295), [false, true], ⟨.one (.lf (.bool (.v 34))), [(us .u32 0 16), (us .u32 16 16)], ⟨g_Less_1, 35, [.cond (.v 33) true, .cond (.v 32) false], [], []⟩⟩, ⟨outs_Less_1, []⟩, 200⟩
theorem r_Less_1 : runBody Tryz.prog [] [] Tryz.f80 p_Less_1.fuel T_Less.args T_Less.mem T_Less.nin p_Less_1.orc = some p_Less_1.out := by kernel_rfl
def p_Less_2 : Path := ⟨(bs 32 0 4294967295), [false, false, true], ⟨.one (.lf (.bool (.v 35))), [(us .u32 0 16), (us .u32 16 16)], ⟨g_Less_2, 36, [.cond (.v 34) true, .cond (.v 33) false, .cond (.v 32) false], [], []⟩⟩, ⟨outs_Less_2, []⟩, 200⟩
theorem r_Less_2 : runBody Tryz.prog [] [] Tryz.f80 p_Less_2.fuel T_Less.args T_Less.mem T_Less.nin p_Less_2.orc = some p_Less_2.out := by kernel_rfl
def p_Less_3 : Path := ⟨(bs 32 0 4294967295), [false, false, false, true], ⟨.one (.lf (.bool (.v 36))), [(us .u32 0 16), (us .u32 16 16)], ⟨g_Less_3, 37, [.cond (.v 35) true, .cond (.v 34) false, .cond (.v 33) false, .cond (.v 32) false], [], []⟩⟩, ⟨outs_Less_3, []⟩, 200⟩
theorem r_Less_3 : runBody Tryz.prog [] [] Tryz.f80 p_Less_3.fuel T_Less.args T_Less.mem T_Less.nin p_Less_3.orc = some p_Less_3.out := by kernel_rfl
def p_Less_4 : Path := ⟨(bs 32 0 4294967295), [false, false, false, false, true], ⟨.one (.lf (.bool (.v 37))), [(us .u32 0 16), (us .u32 16 16)], ⟨g_Less_4, 38, [.cond (.v 36) true, .cond (.v 35) false, .cond (.v 34) false, .cond (.v 33) false, .cond (.v 32) false], [], []⟩⟩, ⟨outs_Less_4, []⟩, 200⟩
theorem r_Less_4 : runBody Tryz.prog [] [] Tryz.f80 p_Less_4.fuel T_Less.args T_Less.mem T_Less.nin p_Less_4.orc = some p_Less_4.out := by kernel_rfl
def p_Less_5 : Path := ⟨(bs 32 0 4294967295), [false, false, false, false, false, true], ⟨.one (.lf (.bool (.v 38))), [(us .u32 0 16), (us .u32 16 16)], ⟨g_Less_5, 39, [.cond (.v 37) true, .cond (.v 36) false, .cond (.v 35) false, .cond (.v 34) false, .cond (.v 33) false, .cond (.v 32) false], [], []⟩⟩, ⟨outs_Less_5, []⟩, 200⟩
theorem r_Less_5 : runBody Tryz.prog [] [] Tryz.f80 p_Less_5.fuel T_Less.args T_Less.mem T_Less.nin p_Less_5.orc = some p_Less_5.out := by kernel_rfl
def p_Less_6 : Path := ⟨(bs 32 0 4294967295), [false, false, false, false, false, false, true], ⟨.one (.lf (.bool (.v 39))), [(us .u32 0 16), (us .u32 16 16)], ⟨g_Less_6, 40, [.cond (.v 38) true, .cond (.v 37) false, .cond (.v 36) false, .cond (.v 35) false, .cond (.v 34) false, .cond (.v 33) false, .cond (.v 32) false], [], []⟩⟩, ⟨outs_Less_6, []⟩, 200⟩
theorem r_Less_6 : runBody Tryz.prog [] [] Tryz.f80 p_Less_6.fuel T_Less.args T_Less.mem T_Less.nin p_Less_6.orc = some p_Less_6.out := by kernel_rfl
def p_Less_7 : Path := ⟨(bs 32 0 4294967295), [false, false, false, false, false, false, false, true], ⟨.one (.lf (.bool (.v 40))), [(us .u32 0 16), (us .u32 16 16)], ⟨g_Less_7, 41, [.cond (.v 39) true, .cond (.v 38) false, .cond (.v 37) false, .cond (.v 36) false, .cond (.v 35) false, .cond (.v 34) false, .cond (.v 33) false, .cond (.v 32) false], [], []⟩⟩, ⟨outs_Less_7, []⟩, 200⟩
theorem r_Less_7 : runBody Tryz.prog [] [] Tryz.f80 p_Less_7.fuel T_Less.args T_Less.mem T_Less.nin p_Less_7.orc = some p_Less_7.out := by kernel_rfl
def p_Less_8 : Path := ⟨(bs 32 0 4294967295), [false, false, false, false, false, false, false, false, true], ⟨.one (.lf (.bool (.v 41))), [(us .u32 0 16), (us .u32 16 16)], ⟨g_Less_8, 42, [.cond (.v 40) true, .cond (.v 39) false, .cond (.v 38) false, .cond (.v 37) false, .cond (.v 36) false, .cond (.v 35) false, .cond (.v 34) false, .cond (.v 33) false, .cond (.v 32) false], [], []⟩⟩, ⟨outs_Less_8, []⟩, 200⟩
theorem r_Less_8 : runBody Tryz.prog [] [] Tryz.f80 p_Less_8.fuel T_Less.args T_Less.mem T_Less.nin p_Less_8.orc = some p_Less_8.out := by kernel_rfl
def p_Less_9 : Path := ⟨(bs 32 0 4294967295), [false, false, false, false, false, false, false, false, false, true], ⟨.one (.lf (.bool (.v 42))), [(us .u32 0 16), (us .u32 16 16)], ⟨g_Less_9, 43, [.cond (.v 41) true, .cond (.v 40) false, .cond (.v 39) false, .cond (.v 38) false, .cond (.v 37) false, .cond (.v 36) false, .cond (.v 35) false, .cond (.v 34) false, .cond (.v 33) false, .cond (.v 32) false], [], []⟩⟩, ⟨outs_Less_9, []⟩, 200⟩
theorem r_Less_9 : runBody Tryz.prog [] [] Tryz.f80 p_Less_9.fuel T_Less.args T_Less.mem T_Less.nin p_Less_9.orc = some p_Less_9.out := by kernel_rfl
def p_Less_10 : Path := ⟨(bs 32 0 4294967295), [false, false, false, false, false, false, false, false, false, false, true], ⟨.one (.lf (.bool (.v 43))), [(us .u32 0 16), (us .u32 16 16)], ⟨g_Less_10, 44, [.cond (.v 42) true, .cond (.v 41) false, .cond (.v 40) false, .cond (.v 39) false, .cond (.v 38) false, .cond (.v 37) false, .cond (.v 36) false, .cond (.v 35) false, .cond (.v 34) false, .cond (.v 33) false, .cond (.v 32) false], [], []⟩⟩, ⟨outs_Less_10, []⟩, 200⟩
theorem r_Less_10 : runBody Tryz.prog [] [] Tryz.f80 p_Less_10.fuel T_Less.args T_Less.mem T_Less.nin p_Less_10.orc = some p_Less_10.out := by kernel_rfl
def p_Less_11 : Path := ⟨(bs 32 0 4294967295), [false, false, false, false, false, false, false, false, false, false, false, true], ⟨.one (.lf (.bool (.v 44))), [(us .u32 0 16), (us .u32 16 16)], ⟨g_Less_11, 45, [.cond (.v 43) true, .cond (.v 42) false, .cond (.v 41) false, .cond (.v 40) false, .cond (.v 39) false, .cond (.v 38) false, .cond (.v 37) false, .cond (.v 36) false, .cond (.v 35) false, .cond (.v 34) false, .cond (.v 33) false, .cond (.v 32) false], [], []⟩⟩, ⟨outs_Less_11, []⟩, 200⟩
theorem r_Less_11 : runBody Tryz.prog [] [] Tryz.f80 p_Less_11.fuel T_Less.args T_Less.mem T_Less.nin p_Less_11.orc = some p_Less_11.out := by kernel_rfl
def p_Less_12 : Path := ⟨(bs 32 0 4294967295), [false, false, false, false, false, false, false, false, false, false, false, false, true], ⟨.one (.lf (.bool (.v 45))), [(us .u32 0 16), (us .u32 16 16)], ⟨g_Less_12, 46, [.cond (.v 44) true, .cond (.v 43) false, .cond (.v 42) false, .cond (.v 41) false, .cond (.v 40) false, .cond (.v 39) false, .cond (.v 38) false, .cond (.v 37) false, .cond (.v 36) false, .cond (.v 35) false, .cond (.v 34) false, .cond (.v 33) false, .cond (.v 32) false], [], []⟩⟩, ⟨outs_Less_12, []⟩, 200⟩
theorem r_Less_12 : runBody Tryz.prog [] [] Tryz.f80 p_Less_12.fuel T_Less.args T_Less.mem T_Less.nin p_Less_12.orc = some p_Less_12.out := by kernel_rfl
def p_Less_13 : Path := ⟨(bs 32 0 4294967295), [false, false, false, false, false, false, false, false, false, false, false, false, false, true], ⟨.one (.lf (.bool (.v 46))), [(us .u32 0 16), (us .u32 16 16)], ⟨g_Less_13, 47, [.cond (.v 45) true, .cond (.v 44) false, .cond (.v 43) false, .cond (.v 42) false, .cond (.v 41) false, .cond (.v 40) false, .cond (.v 39) false, .cond (.v 38) false, .cond (.v 37) false, .cond (.v 36) false, .cond (.v 35) false, .cond (.v 34) false, .cond (.v 33) false, .cond (.v 32) false], [], []⟩⟩, ⟨outs_Less_13, []⟩, 200⟩
theorem r_Less_13 : runBody Tryz.prog [] [] Tryz.f80 p_Less_13.fuel T_Less.args T_Less.mem T_Less.nin p_Less_13.orc = some p_Less_13.out := by kernel_rfl
def p_Less_14 : Path := ⟨(bs 32 0 4294967295), [false, false, false, false, false, false, false, false, false, false, false, false, false, false, true], ⟨.one (.lf (.bool (.v 47))), [(us .u32 0 16), (us .u32 16 16)], ⟨g_Less_14, 48, [.cond (.v 46) true, .cond (.v 45) false, .cond (.v 44) false, .cond (.v 43) false, .cond (.v 42) false, .cond (.v 41) false, .cond (.v 40) false, .cond (.v 39) false, .cond (.v 38) false, .cond (.v 37) false, .cond (.v 36) false, .cond (.v 35) false, .cond (.v 34) false, .cond (.v 33) false, .cond (.v 32) false], [], []⟩⟩, ⟨outs_Less_14, []⟩, 200⟩
theorem r_Less_14 : runBody Tryz.prog [] [] Tryz.f80 p_Less_14.fuel T_Less.args T_Less.mem T_Less.nin p_Less_14.orc = some p_Less_14.out := by kernel_rfl
def p_Less_15 : Path := ⟨(bs 32 0 4294967295), [false, false, false, false, false, false, false, false, false, false, false, false, false, false, false, true], ⟨.one (.lf (.bool (.v 48))), [(us .u32 0 16), (us .u32 16 16)], ⟨g_Less_15, 49, [.cond (.v 47) true, .cond (.v 46) false, .cond (.v 45) false, .cond (.v 44) false, .cond (.v 43) false, .cond (.v 42) false, .cond (.v 41) false, .cond (.v 40) false, .cond (.v 39) false, .cond (.v 38) false, .cond (.v 37) false, .cond (.v 36) false, .cond (.v 35) false, .cond (.v 34) false, .cond (.v 33) false, .cond (.v 32) false], [], []⟩⟩, ⟨outs_Less_15, []⟩, 200⟩
theorem r_Less_15 : runBody Tryz.prog [] [] Tryz.f80 p_Less_15.fuel T_Less.args T_Less.mem T_Less.nin p_Less_15.orc = some p_Less_15.out := by kernel_rfl
def p_Less_16 : Path := ⟨(bs 32 0 4294967295), [false, false, false, false, false, false, false, false, false, false, false, false, false, false, false, false], ⟨.one (.lf (.bool (.l 0))), [(us .u32 0 16), (us .u32 16 16)], ⟨g_Less_16, 48, [.cond (.v 47) false, .cond (.v 46) false, .cond (.v 45) false, .cond (.v 44) false, .cond (.v 43) false, .cond (.v 42) false, .cond (.v 41) false, .cond (.v 40) false, .cond (.v 39) false, .cond (.v 38) false, .cond (.v 37) false, .cond (.v 36) false, .cond (.v 35) false, .cond (.v 34) false, .cond (.v 33) false, .cond (.v 32) false], [], []⟩⟩, ⟨outs_Less_16, []⟩, 200⟩
theorem r_Less_16 : runBody Tryz.prog [] [] Tryz.f80 p_Less_16.fuel T_Less.args T_Less.mem T_Less.nin p_Less_16.orc = some p_Less_16.out := by kernel_rfl
theorem good_Less (W : World0 Tryz.prog) : Good W T_Less s_Less := paths (ts := []) (l := l_Less) (ps := [p_Less_0, p_Less_1, p_Less_2, p_Less_3, p_Less_4, p_Less_5, p_Less_6, p_Less_7, p_Less_8, p_Less_9, p_Less_10, p_Less_11, p_Less_12, p_Less_13, p_Less_14, p_Less_15, p_Less_16]) (by exact trivial) (by kernel_rfl) Tryz.func80 Tryz.call80 (by kernel_rfl) (by
  intro p hp
  simp only [List.mem_cons, List.not_mem_nil, or_false] at hp
  rcases hp with rfl | rfl | rfl | rfl | rfl | rfl | rfl | rfl | rfl | rfl | rfl | rfl | rfl | rfl | rfl | rfl | rfl
  · exact ⟨r_Less_0, by kernel_rfl⟩
  · exact ⟨r_Less_1, by kernel_rfl⟩
  · exact ⟨r_Less_2, by kernel_rfl⟩
  · exact ⟨r_Less_3, by kernel_rfl⟩
  · exact ⟨r_Less_4, by kernel_rfl⟩
  · exact ⟨r_Less_5, by kernel_rfl⟩
  · exact ⟨r_Less_6, by kernel_rfl⟩
  · exact ⟨r_Less_7, by kernel_rfl⟩
  · exact ⟨r_Less_8, by kernel_rfl⟩
  · exact ⟨r_Less_9, by kernel_rfl⟩
  · exact ⟨r_Less_10, by kernel_rfl⟩
  · exact ⟨r_Less_11, by kernel_rfl⟩
  · exact ⟨r_Less_12, by kernel_rfl⟩
  · exact ⟨r_Less_13, by kernel_rfl⟩
  · exact ⟨r_Less_14, by kernel_rfl⟩
  · exact ⟨r_Less_15, by kernel_rfl⟩
  · exact ⟨r_Less_16, by kernel_rfl⟩
  ) (paths_fp cov_Less (by kernel_rfl))

end
end Go.X.Z

set_option maxRecDepth 20000
namespace Go.X.Z
open Go.Proofs
noncomputable section
def T_fold : Tmpl := ⟨54, [.one (.agg (us .u32 0 16))], [], 16, 16, true, .one (.agg (us .u32 16 16)), [], []⟩
def p_fold_0 : Path := ⟨(bs 16 0 4294967295), [false], ⟨.one (.agg [.int .u32 (.v 265), .int .u32 (.v 272), .int .u32 (.v 279), .int .u32 (.v 286), .int .u32 (.v 293), .int .u32 (.v 300), .int .u32 (.v 307), .int .u32 (.v 314), .int .u32 (.v 320), .int .u32 (.v 323), .int .u32 (.v 326), .int .u32 (.v 329), .int .u32 (.v 332), .int .u32 (.v 335), .int .u32 (.v 338), .int .u32 (.v 341)]), [[.int .u32 (.v 265), .int .u32 (.v 272), .int .u32 (.v 279), .int .u32 (.v 286), .int .u32 (.v 293), .int .u32 (.v 300), .int .u32 (.v 307), .int .u32 (.v 314), .int .u32 (.v 320), .int .u32 (.v 323), .int .u32 (.v 326), .int .u32 (.v 329), .int .u32 (.v 332), .int .u32 (.v 335), .int .u32 (.v 338), .int .u32 (.v 341)], [.int .u32 (.v 265), .int .u32 (.v 272), .int .u32 (.v 279), .int .u32 (.v 286), .int .u32 (.v 293), .int .u32 (.v 300), .int .u32 (.v 307), .int .u32 (.v 314), .int .u32 (.v 320), .int .u32 (.v 323), .int .u32 (.v 326), .int .u32 (.v 329), .int .u32 (.v 332), .int .u32 (.v 335), .int .u32 (.v 338), .int .u32 (.v 341)], ([.int .u32 (.v 18), .int .u32 (.v 21), .int .u32 (.v 24), .int .u32 (.v 27), .int .u32 (.v 30), .int .u32 (.v 33), .int .u32 (.v 36), .int .u32 (.v 39), .int .u32 (.v 40)] ++ (lits .u32 0 7)), ([.int .u32 (.v 127), .int .u32 (.v 130), .int .u32 (.v 133), .int .u32 (.v 136), .int .u32 (.v 139), .int .u32 (.v 142), .int .u32 (.v 145), .int .u32 (.v 148), .int .u32 (.v 149)] ++ (lits .u32 0 7)), ([.int .u32 (.v 236), .int .u32 (.v 239), .int .u32 (.v 242), .int .u32 (.v 245), .int .u32 (.v 248), .int .u32 (.v 251), .int .u32 (.v 254), .int .u32 (.v 257), .int .u32 (.v 258)] ++ (lits .u32 0 7))], ⟨g_fold_0, 345, [.cond (.v 344) false, .pre 2 (List.flatten [[(.v 265), (.v 272), (.v 279), (.v 286), (.v 293), (.v 300), (.v 307), (.v 314), (.v 320), (.v 323), (.v 326), (.v 329), (.v 332), (.v 335), (.v 338), (.v 341), (.l 4294967277)], ls 4294967295 6, [(.l 2147483647)], ls 0 8]), .pre 1 []], [], [1, 0, 0, 0, 0, 0, 0, 0, 0, 0, 0, 0, 0, 0, 0, 0, 0, 0, 0, 0, 0, 0, 0, 0, 0, 0, 4, 4, 4, 4, 4, 4, 4, 4, 4, 4, 4, 4, 4, 4, 4, 4, 4, 0, 0, 0, 0, 0, 0, 0, 0, 0, 0, 0, 0, 0, 0, 0, 0, 0, 0, 0, 0, 0, 0, 0, 0, 0, 3, 3, 3, 3, 3, 3, 3, 3, 3, 3, 3, 3, 3, 3, 3, 3, 3, 0, 0, 0, 0, 0, 0, 0, 0, 0, 0, 0, 0, 0, 0, 0, 0, 0, 0, 0, 0, 0, 0, 0, 0, 0, 2, 2, 2, 2, 2, 2, 2, 2, 2, 2, 2, 2, 2, 2, 2, 2, 2]⟩⟩, ⟨outs_fold_0, []⟩, 200⟩
theorem r_fold_0 : runBody Tryz.prog [T_Minus, T_P, T_Less] [] Tryz.f54 p_fold_0.fuel T_fold.args T_fold.mem T_fold.nin p_fold_0.orc = some p_fold_0.out := by kernel_rfl
def p_fold_1 : Path := ⟨(bs 16 0 4294967295), [true, false], ⟨.one (.agg (us .u32 345 16)), [(us .u32 345 16), (us .u32 345 16), ([.int .u32 (.v 18), .int .u32 (.v 21), .int .u32 (.v 24), .int .u32 (.v 27), .int .u32 (.v 30), .int .u32 (.v 33), .int .u32 (.v 36), .int .u32 (.v 39), .int .u32 (.v 40)] ++ (lits .u32 0 7)), ([.int .u32 (.v 127), .int .u32 (.v 130), .int .u32 (.v 133), .int .u32 (.v 136), .int .u32 (.v 139), .int .u32 (.v 142), .int .u32 (.v 145), .int .u32 (.v 148), .int .u32 (.v 149)] ++ (lits .u32 0 7)), ([.int .u32 (.v 236), .int .u32 (.v 239), .int .u32 (.v 242), .int .u32 (.v 245), .int .u32 (.v 248), .int .u32 (.v 251), .int .u32 (.v 254), .int .u32 (.v 257), .int .u32 (.v 258)] ++ (lits .u32 0 7))], ⟨g_fold_1, 363, [.cond (.v 362) false, .pre 2 (List.flatten [vs 345 16, [(.l 4294967277)], ls 4294967295 6, [(.l 2147483647)], ls 0 8]), .pre 1 [], .pre 0 (List.flatten [[(.v 265), (.v 272), (.v 279), (.v 286), (.v 293), (.v 300), (.v 307), (.v 314), (.v 320), (.v 323), (.v 326), (.v 329), (.v 332), (.v 335), (.v 338), (.v 341), (.l 4294967277)], ls 4294967295 6, [(.l 2147483647)], ls 0 8]), .pre 1 [], .cond (.v 344) true, .pre 2 (List.flatten [[(.v 265), (.v 272), (.v 279), (.v 286), (.v 293), (.v 300), (.v 307), (.v 314), (.v 320), (.v 323), (.v 326), (.v 329), (.v 332), (.v 335), (.v 338), (.v 341), (.l 4294967277)], ls 4294967295 6, [(.l 2147483647)], ls 0 8]), .pre 1 []], [], [1, 0, 0, 0, 0, 0, 0, 0, 0, 0, 0, 0, 0, 0, 0, 0, 0, 0, 0, 0, 0, 0, 0, 0, 0, 0, 0, 4, 4, 4, 4, 4, 4, 4, 4, 4, 4, 4, 4, 4, 4, 4, 4, 4, 0, 0, 0, 0, 0, 0, 0, 0, 0, 0, 0, 0, 0, 0, 0, 0, 0, 0, 0, 0, 0, 0, 0, 0, 0, 3, 3, 3, 3, 3, 3, 3, 3, 3, 3, 3, 3, 3, 3, 3, 3, 3, 0, 0, 0, 0, 0, 0, 0, 0, 0, 0, 0, 0, 0, 0, 0, 0, 0, 0, 0, 0, 0, 0, 0, 0, 0, 2, 2, 2, 2, 2, 2, 2, 2, 2, 2, 2, 2, 2, 2, 2, 2, 2]⟩⟩, ⟨outs_fold_1, []⟩, 200⟩
theorem r_fold_1 : runBody Tryz.prog [T_Minus, T_P, T_Less] [] Tryz.f54 p_fold_1.fuel T_fold.args T_fold.mem T_fold.nin p_fold_1.orc = some p_fold_1.out := by kernel_rfl
theorem good_fold (W : World0 Tryz.prog) : Good W T_fold s_fold := paths (ts := [T_Minus, T_P, T_Less]) (l := l_fold) (ps := [p_fold_0, p_fold_1]) (by exact ⟨good_Minus W, good_P W, good_Less W, trivial⟩) (by kernel_rfl) Tryz.func54 Tryz.call54 (by kernel_rfl) (by
  intro p hp
  simp only [List.mem_cons, List.not_mem_nil, or_false] at hp
  rcases hp with rfl | rfl
  · exact ⟨r_fold_0, by kernel_rfl⟩
  · exact ⟨r_fold_1, by kernel_rfl⟩
  ) (paths_fp cov_fold (by kernel_rfl))

def T_Field : Tmpl := ⟨35, [.one (.agg (us .u32 0 16))], [], 16, 16, true, .one (.agg (us .u32 16 16)), [], []⟩
def p_Field : Path := ⟨(bs 16 0 4294967295), [], ⟨.one (.agg (us .u32 16 16)), [(us .u32 0 16), (us .u32 16 16)], ⟨g_Field, 32, [.pre 0 (vs 0 16)], [], [1]⟩⟩, ⟨outs_Field, []⟩, 60⟩
theorem r_Field : runBody Tryz.prog [T_fold] [] Tryz.f35 p_Field.fuel T_Field.args T_Field.mem T_Field.nin p_Field.orc = some p_Field.out := by kernel_rfl
theorem good_Field (W : World0 Tryz.prog) : Good W T_Field s_Field := straight (l := l_Field) (p := p_Field) (by exact ⟨good_fold W, trivial⟩) Tryz.func35 Tryz.call35 r_Field (by kernel_rfl) rfl

def T_FAdd : Tmpl := ⟨28, [.one (.agg (us .u32 0 16)), .one (.agg (us .u32 16 16))], [], 32, 16, true, .one (.agg (us .u32 32 16)), [], []⟩
def p_FAdd : Path := ⟨(bs 32 0 4294967295), [], ⟨.one (.agg (us .u32 48 16)), [(us .u32 0 16), (us .u32 16 16), (us .u32 48 16)], ⟨g_FAdd, 64, [.pre 1 (vs 32 16), .pre 0 (vs 0 32)], [], [2]⟩⟩, ⟨outs_FAdd, []⟩, 60⟩
theorem r_FAdd : runBody Tryz.prog [T_Plus, T_fold] [] Tryz.f28 p_FAdd.fuel T_FAdd.args T_FAdd.mem T_FAdd.nin p_FAdd.orc = some p_FAdd.out := by kernel_rfl
theorem good_FAdd (W : World0 Tryz.prog) : Good W T_FAdd s_FAdd := straight (l := l_FAdd) (p := p_FAdd) (by exact ⟨good_Plus W, good_fold W, trivial⟩) Tryz.func28 Tryz.call28 r_FAdd (by kernel_rfl) rfl

def T_FSub : Tmpl := ⟨27, [.one (.agg (us .u32 0 16)), .one (.agg (us .u32 16 16))], [], 32, 16, true, .one (.agg (us .u32 32 16)), [], []⟩
def p_FSub : Path := ⟨(bs 32 0 4294967295), [], ⟨.one (.agg (us .u32 64 16)), [(us .u32 0 16), (us .u32 16 16), (us .u32 64 16)], ⟨g_FSub, 80, [.pre 3 (vs 48 16), .pre 1 ((vs 32 16) ++ (vs 16 16)), .pre 0 (List.flatten [vs 0 16, [(.l 4294967277)], ls 4294967295 6, [(.l 2147483647)], ls 0 8]), .pre 2 []], [], [2]⟩⟩, ⟨outs_FSub, []⟩, 60⟩
theorem r_FSub : runBody Tryz.prog [T_Plus, T_Minus, T_P, T_fold] [] Tryz.f27 p_FSub.fuel T_FSub.args T_FSub.mem T_FSub.nin p_FSub.orc = some p_FSub.out := by kernel_rfl
theorem good_FSub (W : World0 Tryz.prog) : Good W T_FSub s_FSub := straight (l := l_FSub) (p := p_FSub) (by exact ⟨good_Plus W, good_Minus W, good_P W, good_fold W, trivial⟩) Tryz.func27 Tryz.call27 r_FSub (by kernel_rfl) rfl

def T_FMul : Tmpl := ⟨26, [.one (.agg (us .u32 0 16)), .one (.agg (us .u32 16 16))], [], 32, 16, true, .one (.agg (us .u32 32 16)), [], []⟩
def p_FMul : Path := ⟨(bs 32 0 4294967295), [], ⟨.one (.agg (us .u32 48 16)), [(us .u32 0 16), (us .u32 16 16), (us .u32 48 16)], ⟨g_FMul, 64, [.pre 1 (vs 32 16), .pre 0 (vs 0 32)], [], [2]⟩⟩, ⟨outs_FMul, []⟩, 60⟩
theorem r_FMul : runBody Tryz.prog [T_Times, T_fold] [] Tryz.f26 p_FMul.fuel T_FMul.args T_FMul.mem T_FMul.nin p_FMul.orc = some p_FMul.out := by kernel_rfl
theorem good_FMul (W : World0 Tryz.prog) : Good W T_FMul s_FMul := straight (l := l_FMul) (p := p_FMul) (by exact ⟨good_Times W, good_fold W, trivial⟩) Tryz.func26 Tryz.call26 r_FMul (by kernel_rfl) rfl

def T_FNeg : Tmpl := ⟨29, [.one (.agg (us .u32 0 16))], [], 16, 16, true, .one (.agg (us .u32 16 16)), [], []⟩
def p_FNeg : Path := ⟨(bs 16 0 4294967295), [], ⟨.one (.agg (us .u32 16 16)), [(us .u32 0 16), (us .u32 16 16)], ⟨g_FNeg, 32, [.pre 0 ((ls 0 16) ++ (vs 0 16))], [], [1]⟩⟩, ⟨outs_FNeg, []⟩, 60⟩
theorem r_FNeg : runBody Tryz.prog [T_FSub] [] Tryz.f29 p_FNeg.fuel T_FNeg.args T_FNeg.mem T_FNeg.nin p_FNeg.orc = some p_FNeg.out := by kernel_rfl
theorem good_FNeg (W : World0 Tryz.prog) : Good W T_FNeg s_FNeg := straight (l := l_FNeg) (p := p_FNeg) (by exact ⟨good_FSub W, trivial⟩) Tryz.func29 Tryz.call29 r_FNeg (by kernel_rfl) rfl

def T_Odd : Tmpl := ⟨32, [.one (.agg (us .u32 0 16))], [], 16, 1, true, .one (.lf (.bool (.v 16))), [], []⟩
def p_Odd : Path := ⟨(bs 16 0 4294967295), [], ⟨.one (.lf (.bool (.v 17))), [(us .u32 0 16)], ⟨g_Odd, 18, [], [], []⟩⟩, ⟨outs_Odd, []⟩, 60⟩
theorem r_Odd : runBody Tryz.prog [] [] Tryz.f32 p_Odd.fuel T_Odd.args T_Odd.mem T_Odd.nin p_Odd.orc = some p_Odd.out := by kernel_rfl
theorem good_Odd (W : World0 Tryz.prog) : Good W T_Odd s_Odd := straight (l := l_Odd) (p := p_Odd) (by exact trivial) Tryz.func32 Tryz.call32 r_Odd (by kernel_rfl) rfl

def T_same32 : Tmpl := ⟨9, [.one (.lf (.slc 0 0 32 none)), .one (.lf (.slc 1 0 32 none))], [(us .u8 0 32), (us .u8 32 32)], 64, 1, true, .one (.lf (.bool (.v 64))), [none, none], []⟩
def p_same32 : Path := ⟨(bs 64 0 255), [], ⟨.one (.lf (.bool (.v 64))), [(us .u8 0 32), (us .u8 32 32)], ⟨g_same32, 65, [], [], []⟩⟩, ⟨outs_same32, []⟩, 60⟩
theorem r_same32 : runBody Tryz.prog [] [] Tryz.f9 p_same32.fuel T_same32.args T_same32.mem T_same32.nin p_same32.orc = some p_same32.out := by kernel_rfl
theorem good_same32 (W : World0 Tryz.prog) : Good W T_same32 s_same32 := straight (l := l_same32) (p := p_same32) (by exact trivial) Tryz.func9 Tryz.call9 r_same32 (by kernel_rfl) rfl

end
end Go.X.Z

set_option maxRecDepth 20000
namespace Go.X.Z
open Go.Proofs
noncomputable section
def T_Pow : Tmpl := ⟨59, [.one (.agg (us .u32 0 16)), .one (.agg (us .u32 16 16))], [], 32, 16, true, .one (.agg (us .u32 32 16)), [], []⟩
def L_Pow : LoopC := ⟨0, 23, 49, 32, 16, [(2, .one (.lf (.ptr 0 0))), (3, .one (.lf (.ptr 1 0))), (4, .one (.lf (.ptr 2 0))), (5, .one (.lf (.ptr 3 0))), (6, .one (.lf (.int .i64 (.v 32)))), (0, .one (.lf (.any))), (1, .one (.lf (.any))), (7, .one (.lf (.any))), (8, .one (.lf (.any))), (9, .one (.lf (.any))), (10, .one (.lf (.any))), (11, .one (.lf (.any))), (12, .one (.lf (.any))), (13, .one (.lf (.any))), (14, .one (.lf (.any))), (15, .one (.lf (.any))), (16, .one (.lf (.any))), (17, .one (.lf (.any))), (18, .one (.lf (.any))), (19, .one (.lf (.any))), (20, .one (.lf (.any))), (21, .one (.lf (.any))), (22, .one (.lf (.any)))], [(us .u32 0 16), (us .u32 16 16), (lits .u32 0 16), (us .u32 33 16)], [(4, .one (.lf (.ptr 2 0))), (5, .one (.lf (.ptr 3 0))), (0, .one (.lf (.any))), (1, .one (.lf (.any))), (2, .one (.lf (.any))), (3, .one (.lf (.any))), (6, .one (.lf (.any))), (7, .one (.lf (.any))), (8, .one (.lf (.any))), (9, .one (.lf (.any))), (10, .one (.lf (.any))), (11, .one (.lf (.any))), (12, .one (.lf (.any))), (13, .one (.lf (.any))), (14, .one (.lf (.any))), (15, .one (.lf (.any))), (16, .one (.lf (.any))), (17, .one (.lf (.any))), (18, .one (.lf (.any))), (19, .one (.lf (.any))), (20, .one (.lf (.any))), (21, .one (.lf (.any))), (22, .one (.lf (.any)))], [(us .u32 0 16), (us .u32 16 16), (lits .u32 0 16), (us .u32 32 16)], [0, 1, 2, 3], 3⟩
def lp_Pow_0 : LPath := ⟨((bs 32 0 4294967295) ++ [((-1), (-1))] ++ (bs 16 0 4294967295)), [false], 60, [(9, .one (.lf (.bool (.l 0)))), (9, .one (.lf (.bool (.v 49)))), (8, .one (.lf (.int .i64 (.v 32)))), (2, .one (.lf (.ptr 0 0))), (3, .one (.lf (.ptr 1 0))), (4, .one (.lf (.ptr 2 0))), (5, .one (.lf (.ptr 3 0))), (6, .one (.lf (.int .i64 (.v 32)))), (0, .one (.lf (.any))), (1, .one (.lf (.any))), (7, .one (.lf (.any))), (8, .one (.lf (.any))), (9, .one (.lf (.any))), (10, .one (.lf (.any))), (11, .one (.lf (.any))), (12, .one (.lf (.any))), (13, .one (.lf (.any))), (14, .one (.lf (.any))), (15, .one (.lf (.any))), (16, .one (.lf (.any))), (17, .one (.lf (.any))), (18, .one (.lf (.any))), (19, .one (.lf (.any))), (20, .one (.lf (.any))), (21, .one (.lf (.any))), (22, .one (.lf (.any)))], [(us .u32 0 16), (us .u32 16 16), (lits .u32 0 16), (us .u32 33 16)], ⟨g_powl_0, 50, [.cond (.v 49) false], [], [0, 1, 2, 3]⟩, true, outs_powl_0⟩
theorem lr_Pow_0 : runCode Tryz.prog [T_Small, T_Bit, T_FMul] [] L_Pow.nt lp_Pow_0.fuel (loopBody Tryz.f59 L_Pow.id) L_Pow.Tp L_Pow.Mp ⟨[], L_Pow.nin, [], lp_Pow_0.orc, L_Pow.wr⟩ = some (lEx L_Pow.id lp_Pow_0.stop, lp_Pow_0.T, lp_Pow_0.M, lp_Pow_0.g) := by kernel_rfl
def lp_Pow_1 : LPath := ⟨((bs 32 0 4294967295) ++ [(0, 255)] ++ (bs 16 0 4294967295)), [true, true], 60, [(6, .one (.lf (.int .i64 (.v 84)))), (11, .one (.lf (.int .i64 (.v 84)))), (10, .one (.lf (.int .i64 (.v 32)))), (21, .one (.agg (us .u32 68 16))), (20, .one (.agg (us .u32 0 16))), (19, .one (.agg (us .u32 50 16))), (18, .one (.lf (.bool (.l 1)))), (18, .one (.lf (.bool (.v 67)))), (17, .one (.lf (.int .i64 (.v 66)))), (16, .one (.lf (.int .i64 (.v 32)))), (15, .one (.agg (us .u32 16 16))), (14, .one (.agg (us .u32 50 16))), (13, .one (.agg (us .u32 33 16))), (12, .one (.agg (us .u32 33 16))), (9, .one (.lf (.bool (.l 1)))), (9, .one (.lf (.bool (.v 49)))), (8, .one (.lf (.int .i64 (.v 32)))), (2, .one (.lf (.ptr 0 0))), (3, .one (.lf (.ptr 1 0))), (4, .one (.lf (.ptr 2 0))), (5, .one (.lf (.ptr 3 0))), (6, .one (.lf (.int .i64 (.v 32)))), (0, .one (.lf (.any))), (1, .one (.lf (.any))), (7, .one (.lf (.any))), (8, .one (.lf (.any))), (9, .one (.lf (.any))), (10, .one (.lf (.any))), (11, .one (.lf (.any))), (12, .one (.lf (.any))), (13, .one (.lf (.any))), (14, .one (.lf (.any))), (15, .one (.lf (.any))), (16, .one (.lf (.any))), (17, .one (.lf (.any))), (18, .one (.lf (.any))), (19, .one (.lf (.any))), (20, .one (.lf (.any))), (21, .one (.lf (.any))), (22, .one (.lf (.any)))], [(us .u32 0 16), (us .u32 16 16), (lits .u32 0 16), (us .u32 68 16)], ⟨g_powl_1, 85, [.pre 2 ((vs 50 16) ++ (vs 0 16)), .cond (.v 67) true, .pre 1 (vs 16 17), .pre 2 ((vs 33 16) ++ (vs 33 16)), .cond (.v 49) true], [], [3, 3, 0, 1, 2, 3]⟩, false, outs_powl_1⟩
theorem lr_Pow_1 : runCode Tryz.prog [T_Small, T_Bit, T_FMul] [] L_Pow.nt lp_Pow_1.fuel (loopBody Tryz.f59 L_Pow.id) L_Pow.Tp L_Pow.Mp ⟨[], L_Pow.nin, [], lp_Pow_1.orc, L_Pow.wr⟩ = some (lEx L_Pow.id lp_Pow_1.stop, lp_Pow_1.T, lp_Pow_1.M, lp_Pow_1.g) := by kernel_rfl
def lp_Pow_2 : LPath := ⟨((bs 32 0 4294967295) ++ [(0, 255)] ++ (bs 16 0 4294967295)), [true, false], 60, [(6, .one (.lf (.int .i64 (.v 68)))), (11, .one (.lf (.int .i64 (.v 68)))), (10, .one (.lf (.int .i64 (.v 32)))), (18, .one (.lf (.bool (.l 0)))), (18, .one (.lf (.bool (.v 67)))), (17, .one (.lf (.int .i64 (.v 66)))), (16, .one (.lf (.int .i64 (.v 32)))), (15, .one (.agg (us .u32 16 16))), (14, .one (.agg (us .u32 50 16))), (13, .one (.agg (us .u32 33 16))), (12, .one (.agg (us .u32 33 16))), (9, .one (.lf (.bool (.l 1)))), (9, .one (.lf (.bool (.v 49)))), (8, .one (.lf (.int .i64 (.v 32)))), (2, .one (.lf (.ptr 0 0))), (3, .one (.lf (.ptr 1 0))), (4, .one (.lf (.ptr 2 0))), (5, .one (.lf (.ptr 3 0))), (6, .one (.lf (.int .i64 (.v 32)))), (0, .one (.lf (.any))), (1, .one (.lf (.any))), (7, .one (.lf (.any))), (8, .one (.lf (.any))), (9, .one (.lf (.any))), (10, .one (.lf (.any))), (11, .one (.lf (.any))), (12, .one (.lf (.any))), (13, .one (.lf (.any))), (14, .one (.lf (.any))), (15, .one (.lf (.any))), (16, .one (.lf (.any))), (17, .one (.lf (.any))), (18, .one (.lf (.any))), (19, .one (.lf (.any))), (20, .one (.lf (.any))), (21, .one (.lf (.any))), (22, .one (.lf (.any)))], [(us .u32 0 16), (us .u32 16 16), (lits .u32 0 16), (us .u32 50 16)], ⟨g_powl_2, 69, [.cond (.v 67) false, .pre 1 (vs 16 17), .pre 2 ((vs 33 16) ++ (vs 33 16)), .cond (.v 49) true], [], [3, 0, 1, 2, 3]⟩, false, outs_powl_2⟩
theorem lr_Pow_2 : runCode Tryz.prog [T_Small, T_Bit, T_FMul] [] L_Pow.nt lp_Pow_2.fuel (loopBody Tryz.f59 L_Pow.id) L_Pow.Tp L_Pow.Mp ⟨[], L_Pow.nin, [], lp_Pow_2.orc, L_Pow.wr⟩ = some (lEx L_Pow.id lp_Pow_2.stop, lp_Pow_2.T, lp_Pow_2.M, lp_Pow_2.g) := by kernel_rfl
def p_Pow : Path := ⟨(bs 32 0 4294967295), [], ⟨.one (.agg (us .u32 33 16)), [(us .u32 0 16), (us .u32 16 16), (us .u32 33 16), (us .u32 33 16)], ⟨g_Pow, 49, [.pre 3 ((vs 0 32) ++ [(.l 255), (.v 32)] ++ (ls 0 15)), .pre 0 [(.l 1)]], [], [2, 0, 1, 2, 3, 3]⟩⟩, ⟨outs_Pow, []⟩, 60⟩
theorem r_Pow : runBody Tryz.prog [T_Small, T_Bit, T_FMul] [⟨0, loopT L_Pow⟩] Tryz.f59 p_Pow.fuel T_Pow.args T_Pow.mem T_Pow.nin p_Pow.orc = some p_Pow.out := by kernel_rfl
theorem good_Pow (W : World0 Tryz.prog) : Good W T_Pow s_Pow := straightL (l := l_Pow) (p := p_Pow) (L := L_Pow) (sL := s_powl) (lps := [lp_Pow_0, lp_Pow_1, lp_Pow_2]) (by exact ⟨good_Small W, good_Bit W, good_FMul W, trivial⟩) Tryz.func59 Tryz.call59 r_Pow (by kernel_rfl) (by
  intro p hp
  simp only [List.mem_cons, List.not_mem_nil, or_false] at hp
  rcases hp with rfl | rfl | rfl
  · exact ⟨lr_Pow_0, by kernel_rfl⟩
  · exact ⟨lr_Pow_1, by kernel_rfl⟩
  · exact ⟨lr_Pow_2, by kernel_rfl⟩
  ) (by kernel_rfl) lcov_powl rfl

def T_Inv : Tmpl := ⟨30, [.one (.agg (us .u32 0 16))], [], 16, 16, true, .one (.agg (us .u32 16 16)), [], []⟩
def p_Inv : Path := ⟨(bs 16 0 4294967295), [], ⟨.one (.agg (us .u32 33 16)), [(us .u32 0 16), (us .u32 33 16)], ⟨g_Inv, 49, [.pre 3 ((vs 0 16) ++ (vs 17 16)), .pre 0 (List.flatten [[(.l 4294967277)], ls 4294967295 6, [(.l 2147483647)], ls 0 8, [(.v 16)], ls 0 15]), .pre 1 [(.l 2)], .pre 2 []], [], [1]⟩⟩, ⟨outs_Inv, []⟩, 60⟩
theorem r_Inv : runBody Tryz.prog [T_Minus, T_Small, T_P, T_Pow] [] Tryz.f30 p_Inv.fuel T_Inv.args T_Inv.mem T_Inv.nin p_Inv.orc = some p_Inv.out := by kernel_rfl
theorem good_Inv (W : World0 Tryz.prog) : Good W T_Inv s_Inv := straight (l := l_Inv) (p := p_Inv) (by exact ⟨good_Minus W, good_Small W, good_P W, good_Pow W, trivial⟩) Tryz.func30 Tryz.call30 r_Inv (by kernel_rfl) rfl

def T_mone : Tmpl := ⟨60, [], [], 0, 16, true, .one (.agg (us .u32 0 16)), [], []⟩
def p_mone : Path := ⟨[], [], ⟨.one (.agg (us .u32 110 16)), [(us .u32 110 16), [.int .u32 (.v 65), .int .u32 (.v 68), .int .u32 (.v 71), .int .u32 (.v 74), .int .u32 (.v 77), .int .u32 (.v 80), .int .u32 (.v 83), .int .u32 (.v 86), .int .u32 (.v 89), .int .u32 (.v 92), .int .u32 (.v 95), .int .u32 (.v 98), .int .u32 (.v 101), .int .u32 (.v 104), .int .u32 (.v 107), .int .u32 (.v 108)]], ⟨g_mone, 126, [.pre 3 ([(.v 109)] ++ (ls 0 15) ++ [(.v 65), (.v 68), (.v 71), (.v 74), (.v 77), (.v 80), (.v 83), (.v 86), (.v 89), (.v 92), (.v 95), (.v 98), (.v 101), (.v 104), (.v 107), (.v 108)]), .pre 1 [(.l 2)], .pre 0 (List.flatten [[(.l 4294967277)], ls 4294967295 6, [(.l 2147483647)], ls 0 8, [(.v 0)], ls 0 15]), .pre 1 [(.l 1)], .pre 2 []], [], [0, 1, 1, 1, 1, 1, 1, 1, 1, 1, 1, 1, 1, 1, 1, 1, 1, 1, 1, 1, 1, 1, 1, 1, 1, 1, 1, 1, 1, 1, 1, 1, 1, 1, 1, 1, 1, 1, 1, 1, 1, 1, 1, 1, 1, 1, 1, 1, 1, 1, 1, 1, 1, 1, 1, 1, 1, 1, 1, 1, 1, 1, 1, 1]⟩⟩, ⟨outs_mone, []⟩, 200⟩
theorem r_mone : runBody Tryz.prog [T_Minus, T_Small, T_P, T_Pow] [] Tryz.f60 p_mone.fuel T_mone.args T_mone.mem T_mone.nin p_mone.orc = some p_mone.out := by kernel_rfl
theorem good_mone (W : World0 Tryz.prog) : Good W T_mone s_mone := straight (l := l_mone) (p := p_mone) (by exact ⟨good_Minus W, good_Small W, good_P W, good_Pow W, trivial⟩) Tryz.func60 Tryz.call60 r_mone (by kernel_rfl) rfl

def T_root : Tmpl := ⟨61, [.one (.agg (us .u32 0 16)), .one (.lf (.ptr 0 0)), .one (.lf (.ptr 1 0))], [(us .u32 16 16), (us .u32 32 16)], 48, 17, true, .tup [.agg (us .u32 48 16), .lf (.bool (.v 64))], [none, none], []⟩
def p_root_0 : Path := ⟨(bs 48 0 4294967295), [false, false], ⟨.tup [.agg (us .u32 48 16), .lf (.bool (.v 99))], [(us .u32 16 16), (us .u32 32 16), (us .u32 0 16), (us .u32 48 16), (us .u32 48 16)], ⟨g_root_0, 100, [.pre 0 ((vs 48 16) ++ (vs 48 16)), .cond (.v 82) false, .pre 2 (vs 48 16), .cond (.v 81) false, .pre 0 ((vs 48 16) ++ (vs 48 16)), .pre 3 (vs 0 32)], [], [3, 4]⟩⟩, ⟨outs_root_0, []⟩, 60⟩
theorem r_root_0 : runBody Tryz.prog [T_FMul, T_FNeg, T_Odd, T_Pow] [] Tryz.f61 p_root_0.fuel T_root.args T_root.mem T_root.nin p_root_0.orc = some p_root_0.out := by kernel_rfl
def p_root_1 : Path := ⟨(bs 48 0 4294967295), [false, true], ⟨.tup [.agg (us .u32 83 16), .lf (.bool (.v 115))], [(us .u32 16 16), (us .u32 32 16), (us .u32 0 16), (us .u32 83 16), (us .u32 83 16)], ⟨g_root_1, 116, [.pre 0 ((vs 83 16) ++ (vs 83 16)), .pre 1 (vs 48 16), .cond (.v 82) true, .pre 2 (vs 48 16), .cond (.v 81) false, .pre 0 ((vs 48 16) ++ (vs 48 16)), .pre 3 (vs 0 32)], [], [3, 4, 4]⟩⟩, ⟨outs_root_1, []⟩, 60⟩
theorem r_root_1 : runBody Tryz.prog [T_FMul, T_FNeg, T_Odd, T_Pow] [] Tryz.f61 p_root_1.fuel T_root.args T_root.mem T_root.nin p_root_1.orc = some p_root_1.out := by kernel_rfl
def p_root_2 : Path := ⟨(bs 48 0 4294967295), [true, false], ⟨.tup [.agg (us .u32 82 16), .lf (.bool (.v 115))], [(us .u32 16 16), (us .u32 32 16), (us .u32 0 16), (us .u32 82 16), (us .u32 82 16)], ⟨g_root_2, 116, [.pre 0 ((vs 82 16) ++ (vs 82 16)), .cond (.v 98) false, .pre 2 (vs 82 16), .pre 0 ((vs 48 16) ++ (vs 32 16)), .cond (.v 81) true, .pre 0 ((vs 48 16) ++ (vs 48 16)), .pre 3 (vs 0 32)], [], [3, 4, 4]⟩⟩, ⟨outs_root_2, []⟩, 60⟩
theorem r_root_2 : runBody Tryz.prog [T_FMul, T_FNeg, T_Odd, T_Pow] [] Tryz.f61 p_root_2.fuel T_root.args T_root.mem T_root.nin p_root_2.orc = some p_root_2.out := by kernel_rfl
def p_root_3 : Path := ⟨(bs 48 0 4294967295), [true, true], ⟨.tup [.agg (us .u32 99 16), .lf (.bool (.v 131))], [(us .u32 16 16), (us .u32 32 16), (us .u32 0 16), (us .u32 99 16), (us .u32 99 16)], ⟨g_root_3, 132, [.pre 0 ((vs 99 16) ++ (vs 99 16)), .pre 1 (vs 82 16), .cond (.v 98) true, .pre 2 (vs 82 16), .pre 0 ((vs 48 16) ++ (vs 32 16)), .cond (.v 81) true, .pre 0 ((vs 48 16) ++ (vs 48 16)), .pre 3 (vs 0 32)], [], [3, 4, 4, 4]⟩⟩, ⟨outs_root_3, []⟩, 60⟩
theorem r_root_3 : runBody Tryz.prog [T_FMul, T_FNeg, T_Odd, T_Pow] [] Tryz.f61 p_root_3.fuel T_root.args T_root.mem T_root.nin p_root_3.orc = some p_root_3.out := by kernel_rfl
theorem good_root (W : World0 Tryz.prog) : Good W T_root s_root := paths (ts := [T_FMul, T_FNeg, T_Odd, T_Pow]) (l := l_root) (ps := [p_root_0, p_root_1, p_root_2, p_root_3]) (by exact ⟨good_FMul W, good_FNeg W, good_Odd W, good_Pow W, trivial⟩) (by kernel_rfl) Tryz.func61 Tryz.call61 (by kernel_rfl) (by
  intro p hp
  simp only [List.mem_cons, List.not_mem_nil, or_false] at hp
  rcases hp with rfl | rfl | rfl | rfl
  · exact ⟨r_root_0, by kernel_rfl⟩
  · exact ⟨r_root_1, by kernel_rfl⟩
  · exact ⟨r_root_2, by kernel_rfl⟩
  · exact ⟨r_root_3, by kernel_rfl⟩
  ) (paths_fp cov_root (by kernel_rfl))

end
end Go.X.Z

set_option maxRecDepth 20000
namespace Go.X.Z
open Go.Proofs
noncomputable section
def T_Ratio : Tmpl := ⟨36, [.one (.agg (us .u32 0 16)), .one (.agg (us .u32 16 16))], [], 32, 17, true, .tup [.agg (us .u32 32 16), .lf (.bool (.v 48))], [], []⟩
def p_Ratio_0 : Path := ⟨(bs 32 0 4294967295), [false, true], ⟨.tup [.agg (lits .u32 0 16), .lf (.bool (.l 1))], [(us .u32 0 16), (us .u32 16 16), (lits .u32 0 16), (us .u32 48 16), (us .u32 64 16), [.int .u32 (.v 192), .int .u32 (.v 195), .int .u32 (.v 198), .int .u32 (.v 201), .int .u32 (.v 204), .int .u32 (.v 207), .int .u32 (.v 210), .int .u32 (.v 213), .int .u32 (.v 216), .int .u32 (.v 219), .int .u32 (.v 222), .int .u32 (.v 225), .int .u32 (.v 228), .int .u32 (.v 231), .int .u32 (.v 234), .int .u32 (.v 235)]], ⟨g_Ratio_0, 237, [.cond (.v 236) true, .pre 0 (List.flatten [[(.l 4294967277)], ls 4294967295 6, [(.l 2147483647)], ls 0 8, [(.v 81)], ls 0 15]), .pre 1 [(.l 3)], .pre 2 [], .cond (.v 80) false, .pre 5 (vs 64 16), .pre 7 [], .pre 3 ((vs 0 16) ++ (vs 32 16)), .pre 6 (vs 16 16)], [], [2, 5, 5, 5, 5, 5, 5, 5, 5, 5, 5, 5, 5, 5, 5, 5, 5, 5, 5, 5, 5, 5, 5, 5, 5, 5, 5, 5, 5, 5, 5, 5, 5, 5, 5, 5, 5, 5, 5, 5, 5, 5, 5, 5, 5, 5, 5, 5, 5, 5, 5, 5, 5, 5, 5, 5, 5, 5, 5, 5, 5, 5, 5, 5, 5, 5, 5, 5, 5, 5, 5, 5, 5, 5, 5, 5, 5, 5, 5, 5, 5, 5, 5, 5, 5, 5, 5, 5, 5, 5, 5, 5, 5, 5, 5, 4, 3]⟩⟩, ⟨outs_Ratio_0, []⟩, 200⟩
theorem r_Ratio_0 : runBody Tryz.prog [T_Plus, T_Small, T_P, T_FMul, T_FNeg, T_Odd, T_Inv, T_mone, T_root] [] Tryz.f36 p_Ratio_0.fuel T_Ratio.args T_Ratio.mem T_Ratio.nin p_Ratio_0.orc = some p_Ratio_0.out := by kernel_rfl
def p_Ratio_1 : Path := ⟨(bs 32 0 4294967295), [false, false, true], ⟨.tup [.agg (lits .u32 0 16), .lf (.bool (.l 0))], [(us .u32 0 16), (us .u32 16 16), (lits .u32 0 16), (us .u32 48 16), (us .u32 64 16), [.int .u32 (.v 192), .int .u32 (.v 195), .int .u32 (.v 198), .int .u32 (.v 201), .int .u32 (.v 204), .int .u32 (.v 207), .int .u32 (.v 210), .int .u32 (.v 213), .int .u32 (.v 216), .int .u32 (.v 219), .int .u32 (.v 222), .int .u32 (.v 225), .int .u32 (.v 228), .int .u32 (.v 231), .int .u32 (.v 234), .int .u32 (.v 235)]], ⟨g_Ratio_1, 238, [.cond (.v 237) true, .cond (.v 236) false, .pre 0 (List.flatten [[(.l 4294967277)], ls 4294967295 6, [(.l 2147483647)], ls 0 8, [(.v 81)], ls 0 15]), .pre 1 [(.l 3)], .pre 2 [], .cond (.v 80) false, .pre 5 (vs 64 16), .pre 7 [], .pre 3 ((vs 0 16) ++ (vs 32 16)), .pre 6 (vs 16 16)], [], [2, 5, 5, 5, 5, 5, 5, 5, 5, 5, 5, 5, 5, 5, 5, 5, 5, 5, 5, 5, 5, 5, 5, 5, 5, 5, 5, 5, 5, 5, 5, 5, 5, 5, 5, 5, 5, 5, 5, 5, 5, 5, 5, 5, 5, 5, 5, 5, 5, 5, 5, 5, 5, 5, 5, 5, 5, 5, 5, 5, 5, 5, 5, 5, 5, 5, 5, 5, 5, 5, 5, 5, 5, 5, 5, 5, 5, 5, 5, 5, 5, 5, 5, 5, 5, 5, 5, 5, 5, 5, 5, 5, 5, 5, 5, 4, 3]⟩⟩, ⟨outs_Ratio_1, []⟩, 200⟩
theorem r_Ratio_1 : runBody Tryz.prog [T_Plus, T_Small, T_P, T_FMul, T_FNeg, T_Odd, T_Inv, T_mone, T_root] [] Tryz.f36 p_Ratio_1.fuel T_Ratio.args T_Ratio.mem T_Ratio.nin p_Ratio_1.orc = some p_Ratio_1.out := by kernel_rfl
def p_Ratio_2 : Path := ⟨(bs 32 0 4294967295), [false, false, false, true], ⟨.tup [.agg (us .u32 238 16), .lf (.bool (.l 1))], [(us .u32 0 16), (us .u32 16 16), (us .u32 238 16), (us .u32 48 16), (us .u32 64 16), [.int .u32 (.v 192), .int .u32 (.v 195), .int .u32 (.v 198), .int .u32 (.v 201), .int .u32 (.v 204), .int .u32 (.v 207), .int .u32 (.v 210), .int .u32 (.v 213), .int .u32 (.v 216), .int .u32 (.v 219), .int .u32 (.v 222), .int .u32 (.v 225), .int .u32 (.v 228), .int .u32 (.v 231), .int .u32 (.v 234), .int .u32 (.v 235)], (us .u32 238 16)], ⟨g_Ratio_2, 255, [.cond (.v 254) true, .pre 8 ((vs 48 16) ++ [(.v 192), (.v 195), (.v 198), (.v 201), (.v 204), (.v 207), (.v 210), (.v 213), (.v 216), (.v 219), (.v 222), (.v 225), (.v 228), (.v 231), (.v 234), (.v 235)] ++ (vs 64 16)), .cond (.v 237) false, .cond (.v 236) false, .pre 0 (List.flatten [[(.l 4294967277)], ls 4294967295 6, [(.l 2147483647)], ls 0 8, [(.v 81)], ls 0 15]), .pre 1 [(.l 3)], .pre 2 [], .cond (.v 80) false, .pre 5 (vs 64 16), .pre 7 [], .pre 3 ((vs 0 16) ++ (vs 32 16)), .pre 6 (vs 16 16)], [], [2, 6, 5, 5, 5, 5, 5, 5, 5, 5, 5, 5, 5, 5, 5, 5, 5, 5, 5, 5, 5, 5, 5, 5, 5, 5, 5, 5, 5, 5, 5, 5, 5, 5, 5, 5, 5, 5, 5, 5, 5, 5, 5, 5, 5, 5, 5, 5, 5, 5, 5, 5, 5, 5, 5, 5, 5, 5, 5, 5, 5, 5, 5, 5, 5, 5, 5, 5, 5, 5, 5, 5, 5, 5, 5, 5, 5, 5, 5, 5, 5, 5, 5, 5, 5, 5, 5, 5, 5, 5, 5, 5, 5, 5, 5, 5, 4, 3]⟩⟩, ⟨outs_Ratio_2, []⟩, 200⟩
theorem r_Ratio_2 : runBody Tryz.prog [T_Plus, T_Small, T_P, T_FMul, T_FNeg, T_Odd, T_Inv, T_mone, T_root] [] Tryz.f36 p_Ratio_2.fuel T_Ratio.args T_Ratio.mem T_Ratio.nin p_Ratio_2.orc = some p_Ratio_2.out := by kernel_rfl
def p_Ratio_3 : Path := ⟨(bs 32 0 4294967295), [false, false, false, false], ⟨.tup [.agg (us .u32 271 16), .lf (.bool (.l 0))], [(us .u32 0 16), (us .u32 16 16), (us .u32 271 16), (us .u32 48 16), (us .u32 64 16), [.int .u32 (.v 192), .int .u32 (.v 195), .int .u32 (.v 198), .int .u32 (.v 201), .int .u32 (.v 204), .int .u32 (.v 207), .int .u32 (.v 210), .int .u32 (.v 213), .int .u32 (.v 216), .int .u32 (.v 219), .int .u32 (.v 222), .int .u32 (.v 225), .int .u32 (.v 228), .int .u32 (.v 231), .int .u32 (.v 234), .int .u32 (.v 235)], (us .u32 238 16), (us .u32 271 16)], ⟨g_Ratio_3, 288, [.pre 8 ((vs 255 16) ++ [(.v 192), (.v 195), (.v 198), (.v 201), (.v 204), (.v 207), (.v 210), (.v 213), (.v 216), (.v 219), (.v 222), (.v 225), (.v 228), (.v 231), (.v 234), (.v 235)] ++ (vs 64 16)), .pre 3 (vs 48 32), .cond (.v 254) false, .pre 8 ((vs 48 16) ++ [(.v 192), (.v 195), (.v 198), (.v 201), (.v 204), (.v 207), (.v 210), (.v 213), (.v 216), (.v 219), (.v 222), (.v 225), (.v 228), (.v 231), (.v 234), (.v 235)] ++ (vs 64 16)), .cond (.v 237) false, .cond (.v 236) false, .pre 0 (List.flatten [[(.l 4294967277)], ls 4294967295 6, [(.l 2147483647)], ls 0 8, [(.v 81)], ls 0 15]), .pre 1 [(.l 3)], .pre 2 [], .cond (.v 80) false, .pre 5 (vs 64 16), .pre 7 [], .pre 3 ((vs 0 16) ++ (vs 32 16)), .pre 6 (vs 16 16)], [], [2, 7, 6, 5, 5, 5, 5, 5, 5, 5, 5, 5, 5, 5, 5, 5, 5, 5, 5, 5, 5, 5, 5, 5, 5, 5, 5, 5, 5, 5, 5, 5, 5, 5, 5, 5, 5, 5, 5, 5, 5, 5, 5, 5, 5, 5, 5, 5, 5, 5, 5, 5, 5, 5, 5, 5, 5, 5, 5, 5, 5, 5, 5, 5, 5, 5, 5, 5, 5, 5, 5, 5, 5, 5, 5, 5, 5, 5, 5, 5, 5, 5, 5, 5, 5, 5, 5, 5, 5, 5, 5, 5, 5, 5, 5, 5, 5, 4, 3]⟩⟩, ⟨outs_Ratio_3, []⟩, 200⟩
theorem r_Ratio_3 : runBody Tryz.prog [T_Plus, T_Small, T_P, T_FMul, T_FNeg, T_Odd, T_Inv, T_mone, T_root] [] Tryz.f36 p_Ratio_3.fuel T_Ratio.args T_Ratio.mem T_Ratio.nin p_Ratio_3.orc = some p_Ratio_3.out := by kernel_rfl
theorem good_Ratio (W : World0 Tryz.prog) : Good W T_Ratio s_Ratio := paths (ts := [T_Plus, T_Small, T_P, T_FMul, T_FNeg, T_Odd, T_Inv, T_mone, T_root]) (l := l_Ratio) (ps := [p_Ratio_0, p_Ratio_1, p_Ratio_2, p_Ratio_3]) (by exact ⟨good_Plus W, good_Small W, good_P W, good_FMul W, good_FNeg W, good_Odd W, good_Inv W, good_mone W, good_root W, trivial⟩) (by kernel_rfl) Tryz.func36 Tryz.call36 (by kernel_rfl) (by
  intro p hp
  simp only [List.mem_cons, List.not_mem_nil, or_false] at hp
  rcases hp with rfl | rfl | rfl | rfl
  · exact ⟨r_Ratio_0, by kernel_rfl⟩
  · exact ⟨r_Ratio_1, by kernel_rfl⟩
  · exact ⟨r_Ratio_2, by kernel_rfl⟩
  · exact ⟨r_Ratio_3, by kernel_rfl⟩
  ) (paths_fp cov_Ratio (by kernel_rfl))

end
end Go.X.Z
