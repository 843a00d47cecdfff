/-
  A part of the proof of Ytkjhclknbkleoaa: texts Rf, Rk, M19, G8, Rl. No conditions.
-/
import Derived.Test.YtkjhclknbkleoaaV11
import Derived.KernelRfl
import Derived.Test.YtkjhclknbkleoaaProg
set_option maxRecDepth 20000
namespace Go.X.Y
open Go.Proofs
noncomputable section
def T_element : Tmpl := ⟨34, [.one (.lf (.slc 0 0 32 none))], [(us .u8 0 32)], 32, 5, true, .one (.lf (.ptr 1 0)), [none], [(us .u64 32 5)]⟩
def p_element : Path := ⟨(bs 32 0 255), [], ⟨.one (.lf (.ptr 1 0)), [(us .u8 0 32), (us .u64 32 5)], ⟨g_element, 37, [.pre 0 (vs 0 32)], [], [1]⟩⟩, ⟨outs_element, [1]⟩, 60⟩
theorem r_element : runBody Try.prog [T_SetBytes] [] Try.f34 p_element.fuel T_element.args T_element.mem T_element.nin p_element.orc = some p_element.out := by kernel_rfl
theorem good_element (W : World0 Try.prog) : Good W T_element s_element := straight (l := l_element) (p := p_element) (by exact ⟨good_SetBytes W, trivial⟩) Try.func34 Try.call34 r_element (by kernel_rfl) rfl

def T_Plus : Tmpl := ⟨38, [.one (.agg (us .u32 0 16)), .one (.agg (us .u32 16 16))], [], 32, 16, true, .one (.agg (us .u32 32 16)), [], []⟩
def p_Plus : Path := ⟨(bs 32 0 4294967295), [], ⟨.one (.agg [.int .u32 (.v 36), .int .u32 (.v 42), .int .u32 (.v 48), .int .u32 (.v 54), .int .u32 (.v 60), .int .u32 (.v 66), .int .u32 (.v 72), .int .u32 (.v 78), .int .u32 (.v 84), .int .u32 (.v 90), .int .u32 (.v 96), .int .u32 (.v 102), .int .u32 (.v 108), .int .u32 (.v 114), .int .u32 (.v 120), .int .u32 (.v 126)]), [[.int .u32 (.v 36), .int .u32 (.v 42), .int .u32 (.v 48), .int .u32 (.v 54), .int .u32 (.v 60), .int .u32 (.v 66), .int .u32 (.v 72), .int .u32 (.v 78), .int .u32 (.v 84), .int .u32 (.v 90), .int .u32 (.v 96), .int .u32 (.v 102), .int .u32 (.v 108), .int .u32 (.v 114), .int .u32 (.v 120), .int .u32 (.v 126)], (us .u32 16 16), [.int .u32 (.v 36), .int .u32 (.v 42), .int .u32 (.v 48), .int .u32 (.v 54), .int .u32 (.v 60), .int .u32 (.v 66), .int .u32 (.v 72), .int .u32 (.v 78), .int .u32 (.v 84), .int .u32 (.v 90), .int .u32 (.v 96), .int .u32 (.v 102), .int .u32 (.v 108), .int .u32 (.v 114), .int .u32 (.v 120), .int .u32 (.v 126)]], ⟨g_Plus, 128, [], [], [2, 0, 0, 0, 0, 0, 0, 0, 0, 0, 0, 0, 0, 0, 0, 0, 0]⟩⟩, ⟨outs_Plus, []⟩, 200⟩
theorem r_Plus : runBody Try.prog [] [] Try.f38 p_Plus.fuel T_Plus.args T_Plus.mem T_Plus.nin p_Plus.orc = some p_Plus.out := by kernel_rfl
theorem good_Plus (W : World0 Try.prog) : Good W T_Plus s_Plus := straight (l := l_Plus) (p := p_Plus) (by exact trivial) Try.func38 Try.call38 r_Plus (by kernel_rfl) rfl

def T_Minus : Tmpl := ⟨54, [.one (.agg (us .u32 0 16)), .one (.agg (us .u32 16 16))], [], 32, 16, true, .one (.agg (us .u32 32 16)), [], []⟩
def p_Minus : Path := ⟨(bs 32 0 4294967295), [], ⟨.one (.agg [.int .u32 (.v 36), .int .u32 (.v 42), .int .u32 (.v 48), .int .u32 (.v 54), .int .u32 (.v 60), .int .u32 (.v 66), .int .u32 (.v 72), .int .u32 (.v 78), .int .u32 (.v 84), .int .u32 (.v 90), .int .u32 (.v 96), .int .u32 (.v 102), .int .u32 (.v 108), .int .u32 (.v 114), .int .u32 (.v 120), .int .u32 (.v 126)]), [[.int .u32 (.v 36), .int .u32 (.v 42), .int .u32 (.v 48), .int .u32 (.v 54), .int .u32 (.v 60), .int .u32 (.v 66), .int .u32 (.v 72), .int .u32 (.v 78), .int .u32 (.v 84), .int .u32 (.v 90), .int .u32 (.v 96), .int .u32 (.v 102), .int .u32 (.v 108), .int .u32 (.v 114), .int .u32 (.v 120), .int .u32 (.v 126)], (us .u32 16 16), [.int .u32 (.v 36), .int .u32 (.v 42), .int .u32 (.v 48), .int .u32 (.v 54), .int .u32 (.v 60), .int .u32 (.v 66), .int .u32 (.v 72), .int .u32 (.v 78), .int .u32 (.v 84), .int .u32 (.v 90), .int .u32 (.v 96), .int .u32 (.v 102), .int .u32 (.v 108), .int .u32 (.v 114), .int .u32 (.v 120), .int .u32 (.v 126)]], ⟨g_Minus, 128, [], [], [2, 0, 0, 0, 0, 0, 0, 0, 0, 0, 0, 0, 0, 0, 0, 0, 0]⟩⟩, ⟨outs_Minus, []⟩, 200⟩
theorem r_Minus : runBody Try.prog [] [] Try.f54 p_Minus.fuel T_Minus.args T_Minus.mem T_Minus.nin p_Minus.orc = some p_Minus.out := by kernel_rfl
theorem good_Minus (W : World0 Try.prog) : Good W T_Minus s_Minus := straight (l := l_Minus) (p := p_Minus) (by exact trivial) Try.func54 Try.call54 r_Minus (by kernel_rfl) rfl

def T_Times : Tmpl := ⟨32, [.one (.agg (us .u32 0 16)), .one (.agg (us .u32 16 16))], [], 32, 16, true, .one (.agg (us .u32 32 16)), [], []⟩
def p_Times : Path := ⟨(bs 32 0 4294967295), [], ⟨.one (.agg [.int .u32 (.v 37), .int .u32 (.v 95), .int .u32 (.v 160), .int .u32 (.v 225), .int .u32 (.v 290), .int .u32 (.v 355), .int .u32 (.v 420), .int .u32 (.v 485), .int .u32 (.v 493), .int .u32 (.v 501), .int .u32 (.v 509), .int .u32 (.v 517), .int .u32 (.v 525), .int .u32 (.v 533), .int .u32 (.v 541), .int .u32 (.v 543)]), [(us .u32 0 16), (us .u32 16 16), [.int .u32 (.v 37), .int .u32 (.v 95), .int .u32 (.v 160), .int .u32 (.v 225), .int .u32 (.v 290), .int .u32 (.v 355), .int .u32 (.v 420), .int .u32 (.v 485), .int .u32 (.v 493), .int .u32 (.v 501), .int .u32 (.v 509), .int .u32 (.v 517), .int .u32 (.v 525), .int .u32 (.v 533), .int .u32 (.v 541), .int .u32 (.v 543)], [.int .u32 (.v 37), .int .u32 (.v 95), .int .u32 (.v 160), .int .u32 (.v 225), .int .u32 (.v 290), .int .u32 (.v 355), .int .u32 (.v 420), .int .u32 (.v 485), .int .u32 (.v 493), .int .u32 (.v 501), .int .u32 (.v 509), .int .u32 (.v 517), .int .u32 (.v 525), .int .u32 (.v 533), .int .u32 (.v 541), .int .u32 (.v 543)]], ⟨g_Times, 544, [], [], [2, 3, 3, 3, 3, 3, 3, 3, 3, 3, 3, 3, 3, 3, 3, 3, 3, 3, 3, 3, 3, 3, 3, 3, 3, 3, 3, 3, 3, 3, 3, 3, 3, 3, 3, 3, 3, 3, 3, 3, 3, 3, 3, 3, 3, 3, 3, 3, 3, 3, 3, 3, 3, 3, 3, 3, 3, 3, 3, 3, 3, 3, 3, 3, 3, 3, 3, 3, 3, 3, 3, 3, 3]⟩⟩, ⟨outs_Times, []⟩, 200⟩
theorem r_Times : runBody Try.prog [] [] Try.f32 p_Times.fuel T_Times.args T_Times.mem T_Times.nin p_Times.orc = some p_Times.out := by kernel_rfl
theorem good_Times (W : World0 Try.prog) : Good W T_Times s_Times := straight (l := l_Times) (p := p_Times) (by exact trivial) Try.func32 Try.call32 r_Times (by kernel_rfl) rfl

def T_NBytes : Tmpl := ⟨12, [.one (.agg (us .u32 0 16))], [], 16, 32, true, .one (.lf (.slc 0 0 32 (some 32))), [], [(us .u8 16 32)]⟩
def p_NBytes : Path := ⟨(bs 16 0 4294967295), [], ⟨.one (.lf (.slc 1 0 32 (some 32))), [(us .u32 0 16), [.int .u8 (.v 17), .int .u8 (.v 19), .int .u8 (.v 21), .int .u8 (.v 23), .int .u8 (.v 25), .int .u8 (.v 27), .int .u8 (.v 29), .int .u8 (.v 31), .int .u8 (.v 33), .int .u8 (.v 35), .int .u8 (.v 37), .int .u8 (.v 39), .int .u8 (.v 41), .int .u8 (.v 43), .int .u8 (.v 45), .int .u8 (.v 47), .int .u8 (.v 49), .int .u8 (.v 51), .int .u8 (.v 53), .int .u8 (.v 55), .int .u8 (.v 57), .int .u8 (.v 59), .int .u8 (.v 61), .int .u8 (.v 63), .int .u8 (.v 65), .int .u8 (.v 67), .int .u8 (.v 69), .int .u8 (.v 71), .int .u8 (.v 73), .int .u8 (.v 75), .int .u8 (.v 77), .int .u8 (.v 79)]], ⟨g_NBytes, 80, [], [], [1, 1, 1, 1, 1, 1, 1, 1, 1, 1, 1, 1, 1, 1, 1, 1, 1, 1, 1, 1, 1, 1, 1, 1, 1, 1, 1, 1, 1, 1, 1, 1]⟩⟩, ⟨outs_NBytes, [1]⟩, 200⟩
theorem r_NBytes : runBody Try.prog [] [] Try.f12 p_NBytes.fuel T_NBytes.args T_NBytes.mem T_NBytes.nin p_NBytes.orc = some p_NBytes.out := by kernel_rfl
theorem good_NBytes (W : World0 Try.prog) : Good W T_NBytes s_NBytes := straight (l := l_NBytes) (p := p_NBytes) (by exact trivial) Try.func12 Try.call12 r_NBytes (by kernel_rfl) rfl

def T_Of32 : Tmpl := ⟨7, [.one (.lf (.slc 0 0 32 none))], [(us .u8 0 32)], 32, 8, true, .one (.agg ((us .u32 32 8) ++ (lits .u32 0 8))), [none], []⟩
def p_Of32 : Path := ⟨(bs 32 0 255), [], ⟨.one (.agg ([.int .u32 (.v 43), .int .u32 (.v 55), .int .u32 (.v 67), .int .u32 (.v 79), .int .u32 (.v 91), .int .u32 (.v 103), .int .u32 (.v 115), .int .u32 (.v 127)] ++ (lits .u32 0 8))), [(us .u8 0 32), ([.int .u32 (.v 43), .int .u32 (.v 55), .int .u32 (.v 67), .int .u32 (.v 79), .int .u32 (.v 91), .int .u32 (.v 103), .int .u32 (.v 115), .int .u32 (.v 127)] ++ (lits .u32 0 8)), ([.int .u32 (.v 43), .int .u32 (.v 55), .int .u32 (.v 67), .int .u32 (.v 79), .int .u32 (.v 91), .int .u32 (.v 103), .int .u32 (.v 115), .int .u32 (.v 127)] ++ (lits .u32 0 8))], ⟨g_Of32, 128, [], [], [1, 2, 2, 2, 2, 2, 2, 2, 2, 2, 2, 2, 2, 2, 2, 2, 2, 2, 2, 2, 2, 2, 2, 2, 2, 2, 2, 2, 2, 2, 2, 2, 2]⟩⟩, ⟨outs_Of32, []⟩, 200⟩
theorem r_Of32 : runBody Try.prog [] [] Try.f7 p_Of32.fuel T_Of32.args T_Of32.mem T_Of32.nin p_Of32.orc = some p_Of32.out := by kernel_rfl
theorem good_Of32 (W : World0 Try.prog) : Good W T_Of32 s_Of32 := straight (l := l_Of32) (p := p_Of32) (by exact trivial) Try.func7 Try.call7 r_Of32 (by kernel_rfl) rfl

def T_Of64 : Tmpl := ⟨7, [.one (.lf (.slc 0 0 64 none))], [(us .u8 0 64)], 64, 16, true, .one (.agg (us .u32 64 16)), [none], []⟩
def p_Of64 : Path := ⟨(bs 64 0 255), [], ⟨.one (.agg [.int .u32 (.v 75), .int .u32 (.v 87), .int .u32 (.v 99), .int .u32 (.v 111), .int .u32 (.v 123), .int .u32 (.v 135), .int .u32 (.v 147), .int .u32 (.v 159), .int .u32 (.v 171), .int .u32 (.v 183), .int .u32 (.v 195), .int .u32 (.v 207), .int .u32 (.v 219), .int .u32 (.v 231), .int .u32 (.v 243), .int .u32 (.v 255)]), [(us .u8 0 64), [.int .u32 (.v 75), .int .u32 (.v 87), .int .u32 (.v 99), .int .u32 (.v 111), .int .u32 (.v 123), .int .u32 (.v 135), .int .u32 (.v 147), .int .u32 (.v 159), .int .u32 (.v 171), .int .u32 (.v 183), .int .u32 (.v 195), .int .u32 (.v 207), .int .u32 (.v 219), .int .u32 (.v 231), .int .u32 (.v 243), .int .u32 (.v 255)], [.int .u32 (.v 75), .int .u32 (.v 87), .int .u32 (.v 99), .int .u32 (.v 111), .int .u32 (.v 123), .int .u32 (.v 135), .int .u32 (.v 147), .int .u32 (.v 159), .int .u32 (.v 171), .int .u32 (.v 183), .int .u32 (.v 195), .int .u32 (.v 207), .int .u32 (.v 219), .int .u32 (.v 231), .int .u32 (.v 243), .int .u32 (.v 255)]], ⟨g_Of64, 256, [], [], [1, 2, 2, 2, 2, 2, 2, 2, 2, 2, 2, 2, 2, 2, 2, 2, 2, 2, 2, 2, 2, 2, 2, 2, 2, 2, 2, 2, 2, 2, 2, 2, 2, 2, 2, 2, 2, 2, 2, 2, 2, 2, 2, 2, 2, 2, 2, 2, 2, 2, 2, 2, 2, 2, 2, 2, 2, 2, 2, 2, 2, 2, 2, 2, 2]⟩⟩, ⟨outs_Of64, []⟩, 200⟩
theorem r_Of64 : runBody Try.prog [] [] Try.f7 p_Of64.fuel T_Of64.args T_Of64.mem T_Of64.nin p_Of64.orc = some p_Of64.out := by kernel_rfl
theorem good_Of64 (W : World0 Try.prog) : Good W T_Of64 s_Of64 := straight (l := l_Of64) (p := p_Of64) (by exact trivial) Try.func7 Try.call7 r_Of64 (by kernel_rfl) rfl

def T_Small : Tmpl := ⟨39, [.one (.lf (.int .i64 (.v 0)))], [], 1, 1, true, .one (.agg ([.int .u32 (.v 1)] ++ (lits .u32 0 15))), [], []⟩
def p_Small : Path := ⟨[((-9223372036854775808), 9223372036854775807)], [], ⟨.one (.agg ([.int .u32 (.v 1)] ++ (lits .u32 0 15))), [([.int .u32 (.v 1)] ++ (lits .u32 0 15))], ⟨g_Small, 2, [], [], [0]⟩⟩, ⟨outs_Small, []⟩, 60⟩
theorem r_Small : runBody Try.prog [] [] Try.f39 p_Small.fuel T_Small.args T_Small.mem T_Small.nin p_Small.orc = some p_Small.out := by kernel_rfl
theorem good_Small (W : World0 Try.prog) : Good W T_Small s_Small := straight (l := l_Small) (p := p_Small) (by exact trivial) Try.func39 Try.call39 r_Small (by kernel_rfl) rfl

def T_P : Tmpl := ⟨37, [], [], 0, 0, true, .one (.agg (List.flatten [[.int .u32 (.l 4294967277)], lits .u32 4294967295 6, [.int .u32 (.l 2147483647)], lits .u32 0 8])), [], []⟩
def p_P : Path := ⟨[], [], ⟨.one (.agg (List.flatten [[.int .u32 (.l 4294967277)], lits .u32 4294967295 6, [.int .u32 (.l 2147483647)], lits .u32 0 8])), [(List.flatten [[.int .u32 (.l 4294967277)], lits .u32 4294967295 6, [.int .u32 (.l 2147483647)], lits .u32 0 8])], ⟨g_P, 0, [], [], [0]⟩⟩, ⟨outs_P, []⟩, 60⟩
theorem r_P : runBody Try.prog [] [] Try.f37 p_P.fuel T_P.args T_P.mem T_P.nin p_P.orc = some p_P.out := by kernel_rfl
theorem good_P (W : World0 Try.prog) : Good W T_P s_P := straight (l := l_P) (p := p_P) (by exact trivial) Try.func37 Try.call37 r_P (by kernel_rfl) rfl

def T_Bit : Tmpl := ⟨56, [.one (.agg (us .u32 0 16)), .one (.lf (.int .i64 (.v 16)))], [], 17, 1, true, .one (.lf (.int .i64 (.v 17))), [], []⟩
def p_Bit : Path := ⟨((bs 16 0 4294967295) ++ [(0, 255)]), [], ⟨.one (.lf (.int .i64 (.v 22))), [(us .u32 0 16)], ⟨g_Bit, 23, [.nn (.v 19), .rng (.v 17) 16], [], []⟩⟩, ⟨outs_Bit, []⟩, 60⟩
theorem r_Bit : runBody Try.prog [] [] Try.f56 p_Bit.fuel T_Bit.args T_Bit.mem T_Bit.nin p_Bit.orc = some p_Bit.out := by kernel_rfl
theorem good_Bit (W : World0 Try.prog) : Good W T_Bit s_Bit := straight (l := l_Bit) (p := p_Bit) (by exact trivial) Try.func56 Try.call56 r_Bit (by kernel_rfl) rfl

def T_ctc : Tmpl := ⟨78, [.one (.lf (.slc 0 0 32 none)), .one (.lf (.slc 1 0 32 none))], [(us .u8 0 32), (us .u8 32 32)], 64, 1, true, .one (.lf (.int .i64 (.v 64))), [none, none], []⟩
def p_ctc_0 : Path := ⟨(bs 64 0 255), [true], ⟨.one (.lf (.int .i64 (.l 1))), [(us .u8 0 32), (us .u8 32 32)], ⟨g_ctc_0, 65, [.cond (.v 64) true], [], []⟩⟩, ⟨outs_ctc_0, []⟩, 60⟩
theorem r_ctc_0 : runBody Try.prog [] [] Try.f78 p_ctc_0.fuel T_ctc.args T_ctc.mem T_ctc.nin p_ctc_0.orc = some p_ctc_0.out := by kernel_rfl
def p_ctc_1 : Path := ⟨(bs 64 0 255), [false], ⟨.one (.lf (.int .i64 (.l 0))), [(us .u8 0 32), (us .u8 32 32)], ⟨g_ctc_1, 65, [.cond (.v 64) false], [], []⟩⟩, ⟨outs_ctc_1, []⟩, 60⟩
theorem r_ctc_1 : runBody Try.prog [] [] Try.f78 p_ctc_1.fuel T_ctc.args T_ctc.mem T_ctc.nin p_ctc_1.orc = some p_ctc_1.out := by kernel_rfl
theorem good_ctc (W : World0 Try.prog) : Good W T_ctc s_ctc := paths (ts := []) (l := l_ctc) (ps := [p_ctc_0, p_ctc_1]) (by exact trivial) (by kernel_rfl) Try.func78 Try.call78 (by kernel_rfl) (by
  intro p hp
  simp only [List.mem_cons, List.not_mem_nil, or_false] at hp
  rcases hp with rfl | rfl
  · exact ⟨r_ctc_0, by kernel_rfl⟩
  · exact ⟨r_ctc_1, by kernel_rfl⟩
  ) (paths_fp cov_ctc (by kernel_rfl))

def T_Equal : Tmpl := ⟨53, [.one (.lf (.ptr 0 0)), .one (.lf (.ptr 1 0))], [(us .u64 0 5), (us .u64 5 5)], 10, 1, true, .one (.lf (.int .i64 (.v 10))), [none, none], []⟩
def p_Equal : Path := ⟨(bs 10 0 4503599627370458), [], ⟨.one (.lf (.int .i64 (.v 74))), [(us .u64 0 5), (us .u64 5 5), (us .u8 10 32), (us .u8 42 32)], ⟨g_Equal, 75, [.pre 1 (vs 10 64), .pre 0 (vs 0 5), .pre 0 (vs 5 5)], [], []⟩⟩, ⟨outs_Equal, []⟩, 60⟩
theorem r_Equal : runBody Try.prog [T_Bytes, T_ctc] [] Try.f53 p_Equal.fuel T_Equal.args T_Equal.mem T_Equal.nin p_Equal.orc = some p_Equal.out := by kernel_rfl
theorem good_Equal (W : World0 Try.prog) : Good W T_Equal s_Equal := straight (l := l_Equal) (p := p_Equal) (by exact ⟨good_Bytes W, good_ctc W, trivial⟩) Try.func53 Try.call53 r_Equal (by kernel_rfl) rfl

end
end Go.X.Y

set_option maxRecDepth 20000
namespace Go.X.Y
open Go.Proofs
noncomputable section
def T_SqrtRatio : Tmpl := ⟨33, [.one (.lf (.ptr 2 0)), .one (.lf (.ptr 0 0)), .one (.lf (.ptr 1 0))], [(us .u64 0 5), (us .u64 5 5), (anys 5)], 10, 6, true, .tup [.lf (.ptr 2 0), .lf (.int .i64 (.v 10))], [none, none, some (us .u64 11 5)], []⟩
def p_SqrtRatio : Path := ⟨(bs 10 0 4503599627370458), [], ⟨.tup [.lf (.ptr 2 0), .lf (.int .i64 (.v 84))], [(us .u64 0 5), (us .u64 5 5), (us .u64 79 5), (us .u64 62 5), (us .u64 10 5), (us .u64 20 5), (us .u64 30 5), (us .u64 74 5), (us .u64 50 5), (us .u64 55 5), [.int .u64 (.l 1718705420411056), .int .u64 (.l 234908883556509), .int .u64 (.l 2233514472574048), .int .u64 (.l 2117202627021982), .int .u64 (.l 765476049583133)], (us .u64 68 5), [.int .u64 (.l 1718705420411056), .int .u64 (.l 234908883556509), .int .u64 (.l 2233514472574048), .int .u64 (.l 2117202627021982), .int .u64 (.l 765476049583133)]], ⟨g_SqrtRatio, 85, [.pre 8 (vs 74 5), .pre 7 ((vs 68 5) ++ (vs 40 5) ++ [(.v 73)]), .pre 0 ((vs 40 5) ++ [(.l 1718705420411056), (.l 234908883556509), (.l 2233514472574048), (.l 2117202627021982), (.l 765476049583133)]), .pre 9 [], .pre 11 ((vs 50 5) ++ (vs 62 5)), .pre 0 ((vs 55 5) ++ [(.l 1718705420411056), (.l 234908883556509), (.l 2233514472574048), (.l 2117202627021982), (.l 765476049583133)]), .pre 9 [], .pre 11 (vs 50 10), .pre 11 ((vs 50 5) ++ (vs 0 5)), .pre 5 (vs 0 5), .pre 0 ((vs 5 5) ++ (vs 45 5)), .pre 3 (vs 40 5), .pre 0 ((vs 20 5) ++ (vs 35 5)), .pre 10 (vs 30 5), .pre 0 (vs 20 10), .pre 3 (vs 10 5), .pre 0 ((vs 0 5) ++ (vs 15 5)), .pre 0 ((vs 10 5) ++ (vs 5 5)), .pre 3 (vs 5 5)], [], [2, 7, 11, 3, 9, 8, 3, 7, 3, 6, 3, 5, 3, 4]⟩⟩, ⟨outs_SqrtRatio, []⟩, 60⟩
theorem r_SqrtRatio : runBody Try.prog [T_Mul, T_Mulx, T_Muly, T_Sq, T_Sqx, T_Neg, T_Sel, T_Sely, T_Abs, T_sqrtM1, T_Pow22523, T_Equal] [] Try.f33 p_SqrtRatio.fuel T_SqrtRatio.args T_SqrtRatio.mem T_SqrtRatio.nin p_SqrtRatio.orc = some p_SqrtRatio.out := by kernel_rfl
theorem good_SqrtRatio (W : World0 Try.prog) : Good W T_SqrtRatio s_SqrtRatio := straight (l := l_SqrtRatio) (p := p_SqrtRatio) (by exact ⟨good_Mul W, good_Mulx W, good_Muly W, good_Sq W, good_Sqx W, good_Neg W, good_Sel W, good_Sely W, good_Abs W, good_sqrtM1 W, good_Pow22523 W, good_Equal W, trivial⟩) Try.func33 Try.call33 r_SqrtRatio (by kernel_rfl) rfl

end
end Go.X.Y

namespace Go.X

/-! ### pieces for the laws -/

theorem mask31 {x : Int} (h : 0 ≤ x) (h' : x < 4294967296) : op2 .and .u32 x 2147483647 = x % 2147483648 := by
  obtain ⟨n, rfl⟩ := Int.eq_ofNat_of_zero_le h
  have hn : n < 2 ^ 32 := by omega
  have e1 := (bits_nat .u32 32 (by decide) (fun n a b => wrap_w (k := .u32) n a b) n 2147483647 hn (by decide)).1
  show bits .and .u32 (n : Int) ((2147483647 : Nat) : Int) = _
  rw [e1, show 2147483647 = 2 ^ 31 - 1 from rfl, Nat.and_two_pow_sub_one_eq_mod]
  omega

theorem gtr_b (a b : Int) : op2 .gtr .i64 a b = b2i (decide (a > b)) := rfl

theorem bytes_in (n : Int) : InB (BB 32) (toD 256 32 n) := in_BB (toD_len _ _ _) (toD_in (by decide) _ _)

/-- the words of 32 bytes -/
theorem of32_in {l : List Int} (h : InB (BB 32) l) : InB (WB 8) (s_Of32.f l) := by
  rw [Of32_val l h]
  exact InD_InB (b := 4294967296) (toD_len _ _ _) (toD_in (by decide) _ _)

end Go.X

namespace Go.X
set_option maxRecDepth 20000
noncomputable section
end
end Go.X

set_option maxRecDepth 20000
namespace Go.X.Y
open Go.Proofs
noncomputable section
end
end Go.X.Y
