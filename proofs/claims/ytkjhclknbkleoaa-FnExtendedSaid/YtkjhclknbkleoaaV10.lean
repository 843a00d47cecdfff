/-
  A part of the proof of Ytkjhclknbkleoaa: texts Ra, Rb, Rc, Rd. No conditions.
-/
import Derived.Test.YtkjhclknbkleoaaV09
import Derived.KernelRfl
import Derived.Test.YtkjhclknbkleoaaProg
set_option maxRecDepth 20000
namespace Go.X.Y
open Go.Proofs
noncomputable section
abbrev T_add64 : Tmpl := X.T_add64 107
theorem good_add64 (W : World0 Try.prog) : Good W T_add64 s_add64 := good_add64_ W Try.func107 (by kernel_rfl) (by kernel_rfl) (by kernel_rfl) (by kernel_rfl)
def T_mul64 : Tmpl := ⟨98, [.one (.lf (.int .u64 (.v 0))), .one (.lf (.int .u64 (.v 1)))], [], 2, 2, true, .tup [.lf (.int .u64 (.v 2)), .lf (.int .u64 (.v 3))], [], []⟩
def p_mul64 : Path := ⟨[(0, 18446744073709551615), (0, 18446744073709551615)], [], ⟨.tup [.lf (.int .u64 (.v 17)), .lf (.int .u64 (.v 18))], [], ⟨g_mul64, 19, [], [], []⟩⟩, ⟨outs_mul64, []⟩, 60⟩
theorem r_mul64 : runBody Try.prog [] [] Try.f98 p_mul64.fuel T_mul64.args T_mul64.mem T_mul64.nin p_mul64.orc = some p_mul64.out := by kernel_rfl
theorem good_mul64 (W : World0 Try.prog) : Good W T_mul64 s_mul64 := straight (l := l_mul64) (p := p_mul64) (by exact trivial) Try.func98 Try.call98 r_mul64 (by kernel_rfl) rfl

def T_mul19 : Tmpl := ⟨95, [.one (.lf (.int .u64 (.v 0)))], [], 1, 1, true, .one (.lf (.int .u64 (.v 1))), [], []⟩
def p_mul19 : Path := ⟨[(0, 18446744073709551615)], [], ⟨.one (.lf (.int .u64 (.v 4))), [], ⟨g_mul19, 5, [], [], []⟩⟩, ⟨outs_mul19, []⟩, 60⟩
theorem r_mul19 : runBody Try.prog [] [] Try.f95 p_mul19.fuel T_mul19.args T_mul19.mem T_mul19.nin p_mul19.orc = some p_mul19.out := by kernel_rfl
theorem good_mul19 (W : World0 Try.prog) : Good W T_mul19 s_mul19 := straight (l := l_mul19) (p := p_mul19) (by exact trivial) Try.func95 Try.call95 r_mul19 (by kernel_rfl) rfl

def T_mul : Tmpl := ⟨102, [.one (.lf (.int .u64 (.v 0))), .one (.lf (.int .u64 (.v 1)))], [], 2, 2, true, .one (.agg [.int .u64 (.v 2), .int .u64 (.v 3)]), [], []⟩
def p_mul : Path := ⟨[(0, 18446744073709551615), (0, 18446744073709551615)], [], ⟨.one (.agg [.int .u64 (.v 3), .int .u64 (.v 2)]), [[.int .u64 (.v 3), .int .u64 (.v 2)]], ⟨g_mul, 4, [.pre 0 [(.v 0), (.v 1)]], [], [0]⟩⟩, ⟨outs_mul, []⟩, 60⟩
theorem r_mul : runBody Try.prog [T_mul64] [] Try.f102 p_mul.fuel T_mul.args T_mul.mem T_mul.nin p_mul.orc = some p_mul.out := by kernel_rfl
theorem good_mul (W : World0 Try.prog) : Good W T_mul s_mul := straight (l := l_mul) (p := p_mul) (by exact ⟨good_mul64 W, trivial⟩) Try.func102 Try.call102 r_mul (by kernel_rfl) rfl

def T_addMul : Tmpl := ⟨104, [.one (.agg [.int .u64 (.v 0), .int .u64 (.v 1)]), .one (.lf (.int .u64 (.v 2))), .one (.lf (.int .u64 (.v 3)))], [], 4, 2, true, .one (.agg [.int .u64 (.v 4), .int .u64 (.v 5)]), [], []⟩
def p_addMul : Path := ⟨(bs 4 0 18446744073709551615), [], ⟨.one (.agg [.int .u64 (.v 6), .int .u64 (.v 8)]), [[.int .u64 (.v 0), .int .u64 (.v 1)], [.int .u64 (.v 6), .int .u64 (.v 8)]], ⟨g_addMul, 10, [.pre 0 [(.v 4), (.v 1), (.v 7)], .pre 0 [(.v 5), (.v 0), (.l 0)], .pre 1 [(.v 2), (.v 3)]], [], [1]⟩⟩, ⟨outs_addMul, []⟩, 60⟩
theorem r_addMul : runBody Try.prog [T_add64, T_mul64] [] Try.f104 p_addMul.fuel T_addMul.args T_addMul.mem T_addMul.nin p_addMul.orc = some p_addMul.out := by kernel_rfl
theorem good_addMul (W : World0 Try.prog) : Good W T_addMul s_addMul := straight (l := l_addMul) (p := p_addMul) (by exact ⟨good_add64 W, good_mul64 W, trivial⟩) Try.func104 Try.call104 r_addMul (by kernel_rfl) rfl

def T_addMul19 : Tmpl := ⟨103, [.one (.agg [.int .u64 (.v 0), .int .u64 (.v 1)]), .one (.lf (.int .u64 (.v 2))), .one (.lf (.int .u64 (.v 3)))], [], 4, 2, true, .one (.agg [.int .u64 (.v 4), .int .u64 (.v 5)]), [], []⟩
def p_addMul19 : Path := ⟨(bs 4 0 18446744073709551615), [], ⟨.one (.agg [.int .u64 (.v 7), .int .u64 (.v 9)]), [[.int .u64 (.v 0), .int .u64 (.v 1)], [.int .u64 (.v 7), .int .u64 (.v 9)]], ⟨g_addMul19, 11, [.pre 0 [(.v 5), (.v 1), (.v 8)], .pre 0 [(.v 6), (.v 0), (.l 0)], .pre 1 [(.v 4), (.v 3)], .pre 2 [(.v 2)]], [], [1]⟩⟩, ⟨outs_addMul19, []⟩, 60⟩
theorem r_addMul19 : runBody Try.prog [T_add64, T_mul64, T_mul19] [] Try.f103 p_addMul19.fuel T_addMul19.args T_addMul19.mem T_addMul19.nin p_addMul19.orc = some p_addMul19.out := by kernel_rfl
theorem good_addMul19 (W : World0 Try.prog) : Good W T_addMul19 s_addMul19 := straight (l := l_addMul19) (p := p_addMul19) (by exact ⟨good_add64 W, good_mul64 W, good_mul19 W, trivial⟩) Try.func103 Try.call103 r_addMul19 (by kernel_rfl) rfl

def T_addMul38 : Tmpl := ⟨106, [.one (.agg [.int .u64 (.v 0), .int .u64 (.v 1)]), .one (.lf (.int .u64 (.v 2))), .one (.lf (.int .u64 (.v 3)))], [], 4, 2, true, .one (.agg [.int .u64 (.v 4), .int .u64 (.v 5)]), [], []⟩
def p_addMul38 : Path := ⟨(bs 4 0 18446744073709551615), [], ⟨.one (.agg [.int .u64 (.v 8), .int .u64 (.v 10)]), [[.int .u64 (.v 0), .int .u64 (.v 1)], [.int .u64 (.v 8), .int .u64 (.v 10)]], ⟨g_addMul38, 12, [.pre 0 [(.v 6), (.v 1), (.v 9)], .pre 0 [(.v 7), (.v 0), (.l 0)], .pre 1 [(.v 4), (.v 5)], .pre 2 [(.v 2)]], [], [1]⟩⟩, ⟨outs_addMul38, []⟩, 60⟩
theorem r_addMul38 : runBody Try.prog [T_add64, T_mul64, T_mul19] [] Try.f106 p_addMul38.fuel T_addMul38.args T_addMul38.mem T_addMul38.nin p_addMul38.orc = some p_addMul38.out := by kernel_rfl
theorem good_addMul38 (W : World0 Try.prog) : Good W T_addMul38 s_addMul38 := straight (l := l_addMul38) (p := p_addMul38) (by exact ⟨good_add64 W, good_mul64 W, good_mul19 W, trivial⟩) Try.func106 Try.call106 r_addMul38 (by kernel_rfl) rfl

def T_shr51 : Tmpl := ⟨105, [.one (.agg [.int .u64 (.v 0), .int .u64 (.v 1)])], [], 2, 1, true, .one (.lf (.int .u64 (.v 2))), [], []⟩
def p_shr51 : Path := ⟨[(0, 18446744073709551615), (0, 18446744073709551615)], [], ⟨.one (.lf (.int .u64 (.v 4))), [[.int .u64 (.v 0), .int .u64 (.v 1)]], ⟨g_shr51, 5, [], [], []⟩⟩, ⟨outs_shr51, []⟩, 60⟩
theorem r_shr51 : runBody Try.prog [] [] Try.f105 p_shr51.fuel T_shr51.args T_shr51.mem T_shr51.nin p_shr51.orc = some p_shr51.out := by kernel_rfl
theorem good_shr51 (W : World0 Try.prog) : Good W T_shr51 s_shr51 := straight (l := l_shr51) (p := p_shr51) (by exact trivial) Try.func105 Try.call105 r_shr51 (by kernel_rfl) rfl

def T_carry : Tmpl := ⟨73, [.one (.lf (.ptr 0 0))], [(us .u64 0 5)], 5, 5, true, .one (.lf (.ptr 0 0)), [some (us .u64 5 5)], []⟩
def p_carry : Path := ⟨(bs 5 0 18446744073709551615), [], ⟨.one (.lf (.ptr 0 0)), [[.int .u64 (.v 8), .int .u64 (.v 20), .int .u64 (.v 17), .int .u64 (.v 14), .int .u64 (.v 11)]], ⟨g_carry, 21, [.pre 0 [(.v 6)]], [], [0, 0, 0, 0, 0]⟩⟩, ⟨outs_carry, []⟩, 60⟩
theorem r_carry : runBody Try.prog [T_mul19] [] Try.f73 p_carry.fuel T_carry.args T_carry.mem T_carry.nin p_carry.orc = some p_carry.out := by kernel_rfl
theorem good_carry (W : World0 Try.prog) : Good W T_carry s_carry := straight (l := l_carry) (p := p_carry) (by exact ⟨good_mul19 W, trivial⟩) Try.func73 Try.call73 r_carry (by kernel_rfl) rfl

def T_feMulG : Tmpl := ⟨96, [.one (.lf (.ptr 2 0)), .one (.lf (.ptr 0 0)), .one (.lf (.ptr 1 0))], [(us .u64 0 5), (us .u64 5 5), (anys 5)], 10, 5, true, .tup [], [none, none, some (us .u64 10 5)], []⟩
def p_feMulG : Path := ⟨(bs 10 0 4503599627370458), [], ⟨.tup [], [(us .u64 0 5), (us .u64 5 5), [.int .u64 (.v 79), .int .u64 (.v 82), .int .u64 (.v 85), .int .u64 (.v 88), .int .u64 (.v 91)], [.int .u64 (.v 18), .int .u64 (.v 19)], [.int .u64 (.v 28), .int .u64 (.v 29)], [.int .u64 (.v 38), .int .u64 (.v 39)], [.int .u64 (.v 48), .int .u64 (.v 49)], [.int .u64 (.v 58), .int .u64 (.v 59)]], ⟨g_feMulG, 92, [.pre 0 [(.v 77)], .pre 0 [(.v 64)], .pre 4 [(.v 58), (.v 59)], .pre 4 [(.v 48), (.v 49)], .pre 4 [(.v 38), (.v 39)], .pre 4 [(.v 28), (.v 29)], .pre 4 [(.v 18), (.v 19)], .pre 2 [(.v 56), (.v 57), (.v 4), (.v 5)], .pre 2 [(.v 54), (.v 55), (.v 3), (.v 6)], .pre 2 [(.v 52), (.v 53), (.v 2), (.v 7)], .pre 2 [(.v 50), (.v 51), (.v 1), (.v 8)], .pre 1 [(.v 0), (.v 9)], .pre 3 [(.v 46), (.v 47), (.v 4), (.v 9)], .pre 2 [(.v 44), (.v 45), (.v 3), (.v 5)], .pre 2 [(.v 42), (.v 43), (.v 2), (.v 6)], .pre 2 [(.v 40), (.v 41), (.v 1), (.v 7)], .pre 1 [(.v 0), (.v 8)], .pre 3 [(.v 36), (.v 37), (.v 4), (.v 8)], .pre 3 [(.v 34), (.v 35), (.v 3), (.v 9)], .pre 2 [(.v 32), (.v 33), (.v 2), (.v 5)], .pre 2 [(.v 30), (.v 31), (.v 1), (.v 6)], .pre 1 [(.v 0), (.v 7)], .pre 3 [(.v 26), (.v 27), (.v 4), (.v 7)], .pre 3 [(.v 24), (.v 25), (.v 3), (.v 8)], .pre 3 [(.v 22), (.v 23), (.v 2), (.v 9)], .pre 2 [(.v 20), (.v 21), (.v 1), (.v 5)], .pre 1 [(.v 0), (.v 6)], .pre 3 [(.v 16), (.v 17), (.v 4), (.v 6)], .pre 3 [(.v 14), (.v 15), (.v 3), (.v 7)], .pre 3 [(.v 12), (.v 13), (.v 2), (.v 8)], .pre 3 [(.v 10), (.v 11), (.v 1), (.v 9)], .pre 1 [(.v 0), (.v 5)]], [], [2, 2, 2, 2, 2, 7, 7, 7, 7, 7, 6, 6, 6, 6, 6, 5, 5, 5, 5, 5, 4, 4, 4, 4, 4, 3, 3, 3, 3, 3]⟩⟩, ⟨outs_feMulG, []⟩, 60⟩
theorem r_feMulG : runBody Try.prog [T_mul19, T_mul, T_addMul, T_addMul19, T_shr51] [] Try.f96 p_feMulG.fuel T_feMulG.args T_feMulG.mem T_feMulG.nin p_feMulG.orc = some p_feMulG.out := by kernel_rfl
theorem good_feMulG (W : World0 Try.prog) : Good W T_feMulG s_feMulG := straight (l := l_feMulG) (p := p_feMulG) (by exact ⟨good_mul19 W, good_mul W, good_addMul W, good_addMul19 W, good_shr51 W, trivial⟩) Try.func96 Try.call96 r_feMulG (by kernel_rfl) rfl

def T_feMulGx : Tmpl := ⟨96, [.one (.lf (.ptr 0 0)), .one (.lf (.ptr 0 0)), .one (.lf (.ptr 1 0))], [(us .u64 0 5), (us .u64 5 5)], 10, 5, true, .tup [], [some (us .u64 10 5), none], []⟩
def p_feMulGx : Path := ⟨(bs 10 0 4503599627370458), [], ⟨.tup [], [[.int .u64 (.v 79), .int .u64 (.v 82), .int .u64 (.v 85), .int .u64 (.v 88), .int .u64 (.v 91)], (us .u64 5 5), [.int .u64 (.v 18), .int .u64 (.v 19)], [.int .u64 (.v 28), .int .u64 (.v 29)], [.int .u64 (.v 38), .int .u64 (.v 39)], [.int .u64 (.v 48), .int .u64 (.v 49)], [.int .u64 (.v 58), .int .u64 (.v 59)]], ⟨g_feMulGx, 92, [.pre 0 [(.v 77)], .pre 0 [(.v 64)], .pre 4 [(.v 58), (.v 59)], .pre 4 [(.v 48), (.v 49)], .pre 4 [(.v 38), (.v 39)], .pre 4 [(.v 28), (.v 29)], .pre 4 [(.v 18), (.v 19)], .pre 2 [(.v 56), (.v 57), (.v 4), (.v 5)], .pre 2 [(.v 54), (.v 55), (.v 3), (.v 6)], .pre 2 [(.v 52), (.v 53), (.v 2), (.v 7)], .pre 2 [(.v 50), (.v 51), (.v 1), (.v 8)], .pre 1 [(.v 0), (.v 9)], .pre 3 [(.v 46), (.v 47), (.v 4), (.v 9)], .pre 2 [(.v 44), (.v 45), (.v 3), (.v 5)], .pre 2 [(.v 42), (.v 43), (.v 2), (.v 6)], .pre 2 [(.v 40), (.v 41), (.v 1), (.v 7)], .pre 1 [(.v 0), (.v 8)], .pre 3 [(.v 36), (.v 37), (.v 4), (.v 8)], .pre 3 [(.v 34), (.v 35), (.v 3), (.v 9)], .pre 2 [(.v 32), (.v 33), (.v 2), (.v 5)], .pre 2 [(.v 30), (.v 31), (.v 1), (.v 6)], .pre 1 [(.v 0), (.v 7)], .pre 3 [(.v 26), (.v 27), (.v 4), (.v 7)], .pre 3 [(.v 24), (.v 25), (.v 3), (.v 8)], .pre 3 [(.v 22), (.v 23), (.v 2), (.v 9)], .pre 2 [(.v 20), (.v 21), (.v 1), (.v 5)], .pre 1 [(.v 0), (.v 6)], .pre 3 [(.v 16), (.v 17), (.v 4), (.v 6)], .pre 3 [(.v 14), (.v 15), (.v 3), (.v 7)], .pre 3 [(.v 12), (.v 13), (.v 2), (.v 8)], .pre 3 [(.v 10), (.v 11), (.v 1), (.v 9)], .pre 1 [(.v 0), (.v 5)]], [], [0, 0, 0, 0, 0, 6, 6, 6, 6, 6, 5, 5, 5, 5, 5, 4, 4, 4, 4, 4, 3, 3, 3, 3, 3, 2, 2, 2, 2, 2]⟩⟩, ⟨outs_feMulGx, []⟩, 60⟩
theorem r_feMulGx : runBody Try.prog [T_mul19, T_mul, T_addMul, T_addMul19, T_shr51] [] Try.f96 p_feMulGx.fuel T_feMulGx.args T_feMulGx.mem T_feMulGx.nin p_feMulGx.orc = some p_feMulGx.out := by kernel_rfl
theorem good_feMulGx (W : World0 Try.prog) : Good W T_feMulGx s_feMulG := straight (l := l_feMulGx) (p := p_feMulGx) (by exact ⟨good_mul19 W, good_mul W, good_addMul W, good_addMul19 W, good_shr51 W, trivial⟩) Try.func96 Try.call96 r_feMulGx (by kernel_rfl) rfl

def T_feMulGy : Tmpl := ⟨96, [.one (.lf (.ptr 1 0)), .one (.lf (.ptr 0 0)), .one (.lf (.ptr 1 0))], [(us .u64 0 5), (us .u64 5 5)], 10, 5, true, .tup [], [none, some (us .u64 10 5)], []⟩
def p_feMulGy : Path := ⟨(bs 10 0 4503599627370458), [], ⟨.tup [], [(us .u64 0 5), [.int .u64 (.v 79), .int .u64 (.v 82), .int .u64 (.v 85), .int .u64 (.v 88), .int .u64 (.v 91)], [.int .u64 (.v 18), .int .u64 (.v 19)], [.int .u64 (.v 28), .int .u64 (.v 29)], [.int .u64 (.v 38), .int .u64 (.v 39)], [.int .u64 (.v 48), .int .u64 (.v 49)], [.int .u64 (.v 58), .int .u64 (.v 59)]], ⟨g_feMulGy, 92, [.pre 0 [(.v 77)], .pre 0 [(.v 64)], .pre 4 [(.v 58), (.v 59)], .pre 4 [(.v 48), (.v 49)], .pre 4 [(.v 38), (.v 39)], .pre 4 [(.v 28), (.v 29)], .pre 4 [(.v 18), (.v 19)], .pre 2 [(.v 56), (.v 57), (.v 4), (.v 5)], .pre 2 [(.v 54), (.v 55), (.v 3), (.v 6)], .pre 2 [(.v 52), (.v 53), (.v 2), (.v 7)], .pre 2 [(.v 50), (.v 51), (.v 1), (.v 8)], .pre 1 [(.v 0), (.v 9)], .pre 3 [(.v 46), (.v 47), (.v 4), (.v 9)], .pre 2 [(.v 44), (.v 45), (.v 3), (.v 5)], .pre 2 [(.v 42), (.v 43), (.v 2), (.v 6)], .pre 2 [(.v 40), (.v 41), (.v 1), (.v 7)], .pre 1 [(.v 0), (.v 8)], .pre 3 [(.v 36), (.v 37), (.v 4), (.v 8)], .pre 3 [(.v 34), (.v 35), (.v 3), (.v 9)], .pre 2 [(.v 32), (.v 33), (.v 2), (.v 5)], .pre 2 [(.v 30), (.v 31), (.v 1), (.v 6)], .pre 1 [(.v 0), (.v 7)], .pre 3 [(.v 26), (.v 27), (.v 4), (.v 7)], .pre 3 [(.v 24), (.v 25), (.v 3), (.v 8)], .pre 3 [(.v 22), (.v 23), (.v 2), (.v 9)], .pre 2 [(.v 20), (.v 21), (.v 1), (.v 5)], .pre 1 [(.v 0), (.v 6)], .pre 3 [(.v 16), (.v 17), (.v 4), (.v 6)], .pre 3 [(.v 14), (.v 15), (.v 3), (.v 7)], .pre 3 [(.v 12), (.v 13), (.v 2), (.v 8)], .pre 3 [(.v 10), (.v 11), (.v 1), (.v 9)], .pre 1 [(.v 0), (.v 5)]], [], [1, 1, 1, 1, 1, 6, 6, 6, 6, 6, 5, 5, 5, 5, 5, 4, 4, 4, 4, 4, 3, 3, 3, 3, 3, 2, 2, 2, 2, 2]⟩⟩, ⟨outs_feMulGy, []⟩, 60⟩
theorem r_feMulGy : runBody Try.prog [T_mul19, T_mul, T_addMul, T_addMul19, T_shr51] [] Try.f96 p_feMulGy.fuel T_feMulGy.args T_feMulGy.mem T_feMulGy.nin p_feMulGy.orc = some p_feMulGy.out := by kernel_rfl
theorem good_feMulGy (W : World0 Try.prog) : Good W T_feMulGy s_feMulG := straight (l := l_feMulGy) (p := p_feMulGy) (by exact ⟨good_mul19 W, good_mul W, good_addMul W, good_addMul19 W, good_shr51 W, trivial⟩) Try.func96 Try.call96 r_feMulGy (by kernel_rfl) rfl

def T_feSqG : Tmpl := ⟨97, [.one (.lf (.ptr 1 0)), .one (.lf (.ptr 0 0))], [(us .u64 0 5), (anys 5)], 5, 5, true, .tup [], [none, some (us .u64 5 5)], []⟩
def p_feSqG : Path := ⟨(bs 5 0 4503599627370458), [], ⟨.tup [], [(us .u64 0 5), [.int .u64 (.v 60), .int .u64 (.v 63), .int .u64 (.v 66), .int .u64 (.v 69), .int .u64 (.v 72)], [.int .u64 (.v 9), .int .u64 (.v 10)], [.int .u64 (.v 16), .int .u64 (.v 17)], [.int .u64 (.v 23), .int .u64 (.v 24)], [.int .u64 (.v 31), .int .u64 (.v 32)], [.int .u64 (.v 39), .int .u64 (.v 40)]], ⟨g_feSqG, 73, [.pre 0 [(.v 58)], .pre 0 [(.v 45)], .pre 5 [(.v 39), (.v 40)], .pre 5 [(.v 31), (.v 32)], .pre 5 [(.v 23), (.v 24)], .pre 5 [(.v 16), (.v 17)], .pre 5 [(.v 9), (.v 10)], .pre 2 [(.v 37), (.v 38), (.v 2), (.v 2)], .pre 2 [(.v 34), (.v 35), (.v 36), (.v 3)], .pre 1 [(.v 33), (.v 4)], .pre 3 [(.v 29), (.v 30), (.v 4), (.v 4)], .pre 2 [(.v 26), (.v 27), (.v 28), (.v 2)], .pre 1 [(.v 25), (.v 3)], .pre 4 [(.v 21), (.v 22), (.v 3), (.v 4)], .pre 2 [(.v 19), (.v 20), (.v 1), (.v 1)], .pre 1 [(.v 18), (.v 2)], .pre 3 [(.v 14), (.v 15), (.v 3), (.v 3)], .pre 4 [(.v 12), (.v 13), (.v 2), (.v 4)], .pre 1 [(.v 11), (.v 1)], .pre 4 [(.v 7), (.v 8), (.v 2), (.v 3)], .pre 4 [(.v 5), (.v 6), (.v 1), (.v 4)], .pre 1 [(.v 0), (.v 0)]], [], [1, 1, 1, 1, 1, 6, 6, 6, 5, 5, 5, 4, 4, 4, 3, 3, 3, 2, 2, 2]⟩⟩, ⟨outs_feSqG, []⟩, 60⟩
theorem r_feSqG : runBody Try.prog [T_mul19, T_mul, T_addMul, T_addMul19, T_addMul38, T_shr51] [] Try.f97 p_feSqG.fuel T_feSqG.args T_feSqG.mem T_feSqG.nin p_feSqG.orc = some p_feSqG.out := by kernel_rfl
theorem good_feSqG (W : World0 Try.prog) : Good W T_feSqG s_feSqG := straight (l := l_feSqG) (p := p_feSqG) (by exact ⟨good_mul19 W, good_mul W, good_addMul W, good_addMul19 W, good_addMul38 W, good_shr51 W, trivial⟩) Try.func97 Try.call97 r_feSqG (by kernel_rfl) rfl

def T_feSqGx : Tmpl := ⟨97, [.one (.lf (.ptr 0 0)), .one (.lf (.ptr 0 0))], [(us .u64 0 5)], 5, 5, true, .tup [], [some (us .u64 5 5)], []⟩
def p_feSqGx : Path := ⟨(bs 5 0 4503599627370458), [], ⟨.tup [], [[.int .u64 (.v 60), .int .u64 (.v 63), .int .u64 (.v 66), .int .u64 (.v 69), .int .u64 (.v 72)], [.int .u64 (.v 9), .int .u64 (.v 10)], [.int .u64 (.v 16), .int .u64 (.v 17)], [.int .u64 (.v 23), .int .u64 (.v 24)], [.int .u64 (.v 31), .int .u64 (.v 32)], [.int .u64 (.v 39), .int .u64 (.v 40)]], ⟨g_feSqGx, 73, [.pre 0 [(.v 58)], .pre 0 [(.v 45)], .pre 5 [(.v 39), (.v 40)], .pre 5 [(.v 31), (.v 32)], .pre 5 [(.v 23), (.v 24)], .pre 5 [(.v 16), (.v 17)], .pre 5 [(.v 9), (.v 10)], .pre 2 [(.v 37), (.v 38), (.v 2), (.v 2)], .pre 2 [(.v 34), (.v 35), (.v 36), (.v 3)], .pre 1 [(.v 33), (.v 4)], .pre 3 [(.v 29), (.v 30), (.v 4), (.v 4)], .pre 2 [(.v 26), (.v 27), (.v 28), (.v 2)], .pre 1 [(.v 25), (.v 3)], .pre 4 [(.v 21), (.v 22), (.v 3), (.v 4)], .pre 2 [(.v 19), (.v 20), (.v 1), (.v 1)], .pre 1 [(.v 18), (.v 2)], .pre 3 [(.v 14), (.v 15), (.v 3), (.v 3)], .pre 4 [(.v 12), (.v 13), (.v 2), (.v 4)], .pre 1 [(.v 11), (.v 1)], .pre 4 [(.v 7), (.v 8), (.v 2), (.v 3)], .pre 4 [(.v 5), (.v 6), (.v 1), (.v 4)], .pre 1 [(.v 0), (.v 0)]], [], [0, 0, 0, 0, 0, 5, 5, 5, 4, 4, 4, 3, 3, 3, 2, 2, 2, 1, 1, 1]⟩⟩, ⟨outs_feSqGx, []⟩, 60⟩
theorem r_feSqGx : runBody Try.prog [T_mul19, T_mul, T_addMul, T_addMul19, T_addMul38, T_shr51] [] Try.f97 p_feSqGx.fuel T_feSqGx.args T_feSqGx.mem T_feSqGx.nin p_feSqGx.orc = some p_feSqGx.out := by kernel_rfl
theorem good_feSqGx (W : World0 Try.prog) : Good W T_feSqGx s_feSqG := straight (l := l_feSqGx) (p := p_feSqGx) (by exact ⟨good_mul19 W, good_mul W, good_addMul W, good_addMul19 W, good_addMul38 W, good_shr51 W, trivial⟩) Try.func97 Try.call97 r_feSqGx (by kernel_rfl) rfl

end
end Go.X.Y

set_option maxRecDepth 20000
namespace Go.X.Y
open Go.Proofs
noncomputable section
def T_feMul : Tmpl := ⟨75, [.one (.lf (.ptr 2 0)), .one (.lf (.ptr 0 0)), .one (.lf (.ptr 1 0))], [(us .u64 0 5), (us .u64 5 5), (anys 5)], 10, 5, true, .tup [], [none, none, some (us .u64 10 5)], []⟩
def p_feMul : Path := ⟨(bs 10 0 4503599627370458), [], ⟨.tup [], [(us .u64 0 5), (us .u64 5 5), (us .u64 10 5)], ⟨g_feMul, 15, [.pre 0 (vs 0 10)], [], [2]⟩⟩, ⟨outs_feMul, []⟩, 60⟩
theorem r_feMul : runBody Try.prog [T_feMulG, T_feMulGx, T_feMulGy] [] Try.f75 p_feMul.fuel T_feMul.args T_feMul.mem T_feMul.nin p_feMul.orc = some p_feMul.out := by kernel_rfl
theorem good_feMul (W : World0 Try.prog) : Good W T_feMul s_feMulG := straightB (l := l_feMul) (p := p_feMul) (by exact ⟨good_feMulG W, good_feMulGx W, good_feMulGy W, trivial⟩) Try.func75 Try.call75 r_feMul (by kernel_rfl) eqF_feMul

def T_feMulx : Tmpl := ⟨75, [.one (.lf (.ptr 0 0)), .one (.lf (.ptr 0 0)), .one (.lf (.ptr 1 0))], [(us .u64 0 5), (us .u64 5 5)], 10, 5, true, .tup [], [some (us .u64 10 5), none], []⟩
def p_feMulx : Path := ⟨(bs 10 0 4503599627370458), [], ⟨.tup [], [(us .u64 10 5), (us .u64 5 5)], ⟨g_feMulx, 15, [.pre 1 (vs 0 10)], [], [0]⟩⟩, ⟨outs_feMulx, []⟩, 60⟩
theorem r_feMulx : runBody Try.prog [T_feMulG, T_feMulGx, T_feMulGy] [] Try.f75 p_feMulx.fuel T_feMulx.args T_feMulx.mem T_feMulx.nin p_feMulx.orc = some p_feMulx.out := by kernel_rfl
theorem good_feMulx (W : World0 Try.prog) : Good W T_feMulx s_feMulG := straightB (l := l_feMulx) (p := p_feMulx) (by exact ⟨good_feMulG W, good_feMulGx W, good_feMulGy W, trivial⟩) Try.func75 Try.call75 r_feMulx (by kernel_rfl) eqF_feMulx

def T_feMuly : Tmpl := ⟨75, [.one (.lf (.ptr 1 0)), .one (.lf (.ptr 0 0)), .one (.lf (.ptr 1 0))], [(us .u64 0 5), (us .u64 5 5)], 10, 5, true, .tup [], [none, some (us .u64 10 5)], []⟩
def p_feMuly : Path := ⟨(bs 10 0 4503599627370458), [], ⟨.tup [], [(us .u64 0 5), (us .u64 10 5)], ⟨g_feMuly, 15, [.pre 2 (vs 0 10)], [], [1]⟩⟩, ⟨outs_feMuly, []⟩, 60⟩
theorem r_feMuly : runBody Try.prog [T_feMulG, T_feMulGx, T_feMulGy] [] Try.f75 p_feMuly.fuel T_feMuly.args T_feMuly.mem T_feMuly.nin p_feMuly.orc = some p_feMuly.out := by kernel_rfl
theorem good_feMuly (W : World0 Try.prog) : Good W T_feMuly s_feMulG := straightB (l := l_feMuly) (p := p_feMuly) (by exact ⟨good_feMulG W, good_feMulGx W, good_feMulGy W, trivial⟩) Try.func75 Try.call75 r_feMuly (by kernel_rfl) eqF_feMuly

def T_feSq : Tmpl := ⟨76, [.one (.lf (.ptr 1 0)), .one (.lf (.ptr 0 0))], [(us .u64 0 5), (anys 5)], 5, 5, true, .tup [], [none, some (us .u64 5 5)], []⟩
def p_feSq : Path := ⟨(bs 5 0 4503599627370458), [], ⟨.tup [], [(us .u64 0 5), (us .u64 5 5)], ⟨g_feSq, 10, [.pre 0 (vs 0 5)], [], [1]⟩⟩, ⟨outs_feSq, []⟩, 60⟩
theorem r_feSq : runBody Try.prog [T_feSqG, T_feSqGx] [] Try.f76 p_feSq.fuel T_feSq.args T_feSq.mem T_feSq.nin p_feSq.orc = some p_feSq.out := by kernel_rfl
theorem good_feSq (W : World0 Try.prog) : Good W T_feSq s_feSqG := straightB (l := l_feSq) (p := p_feSq) (by exact ⟨good_feSqG W, good_feSqGx W, trivial⟩) Try.func76 Try.call76 r_feSq (by kernel_rfl) eqF_feSq

def T_feSqx : Tmpl := ⟨76, [.one (.lf (.ptr 0 0)), .one (.lf (.ptr 0 0))], [(us .u64 0 5)], 5, 5, true, .tup [], [some (us .u64 5 5)], []⟩
def p_feSqx : Path := ⟨(bs 5 0 4503599627370458), [], ⟨.tup [], [(us .u64 5 5)], ⟨g_feSqx, 10, [.pre 1 (vs 0 5)], [], [0]⟩⟩, ⟨outs_feSqx, []⟩, 60⟩
theorem r_feSqx : runBody Try.prog [T_feSqG, T_feSqGx] [] Try.f76 p_feSqx.fuel T_feSqx.args T_feSqx.mem T_feSqx.nin p_feSqx.orc = some p_feSqx.out := by kernel_rfl
theorem good_feSqx (W : World0 Try.prog) : Good W T_feSqx s_feSqG := straightB (l := l_feSqx) (p := p_feSqx) (by exact ⟨good_feSqG W, good_feSqGx W, trivial⟩) Try.func76 Try.call76 r_feSqx (by kernel_rfl) eqF_feSqx

def T_Mul : Tmpl := ⟨47, [.one (.lf (.ptr 2 0)), .one (.lf (.ptr 0 0)), .one (.lf (.ptr 1 0))], [(us .u64 0 5), (us .u64 5 5), (anys 5)], 10, 5, true, .one (.lf (.ptr 2 0)), [none, none, some (us .u64 10 5)], []⟩
def p_Mul : Path := ⟨(bs 10 0 4503599627370458), [], ⟨.one (.lf (.ptr 2 0)), [(us .u64 0 5), (us .u64 5 5), (us .u64 10 5)], ⟨g_Mul, 15, [.pre 0 (vs 0 10)], [], [2]⟩⟩, ⟨outs_Mul, []⟩, 60⟩
theorem r_Mul : runBody Try.prog [T_feMul, T_feMulx, T_feMuly] [] Try.f47 p_Mul.fuel T_Mul.args T_Mul.mem T_Mul.nin p_Mul.orc = some p_Mul.out := by kernel_rfl
theorem good_Mul (W : World0 Try.prog) : Good W T_Mul s_feMulG := straightB (l := l_Mul) (p := p_Mul) (by exact ⟨good_feMul W, good_feMulx W, good_feMuly W, trivial⟩) Try.func47 Try.call47 r_Mul (by kernel_rfl) eqF_feMul

def T_Mulx : Tmpl := ⟨47, [.one (.lf (.ptr 0 0)), .one (.lf (.ptr 0 0)), .one (.lf (.ptr 1 0))], [(us .u64 0 5), (us .u64 5 5)], 10, 5, true, .one (.lf (.ptr 0 0)), [some (us .u64 10 5), none], []⟩
def p_Mulx : Path := ⟨(bs 10 0 4503599627370458), [], ⟨.one (.lf (.ptr 0 0)), [(us .u64 10 5), (us .u64 5 5)], ⟨g_Mulx, 15, [.pre 1 (vs 0 10)], [], [0]⟩⟩, ⟨outs_Mulx, []⟩, 60⟩
theorem r_Mulx : runBody Try.prog [T_feMul, T_feMulx, T_feMuly] [] Try.f47 p_Mulx.fuel T_Mulx.args T_Mulx.mem T_Mulx.nin p_Mulx.orc = some p_Mulx.out := by kernel_rfl
theorem good_Mulx (W : World0 Try.prog) : Good W T_Mulx s_feMulG := straightB (l := l_Mulx) (p := p_Mulx) (by exact ⟨good_feMul W, good_feMulx W, good_feMuly W, trivial⟩) Try.func47 Try.call47 r_Mulx (by kernel_rfl) eqF_feMulx

def T_Muly : Tmpl := ⟨47, [.one (.lf (.ptr 1 0)), .one (.lf (.ptr 0 0)), .one (.lf (.ptr 1 0))], [(us .u64 0 5), (us .u64 5 5)], 10, 5, true, .one (.lf (.ptr 1 0)), [none, some (us .u64 10 5)], []⟩
def p_Muly : Path := ⟨(bs 10 0 4503599627370458), [], ⟨.one (.lf (.ptr 1 0)), [(us .u64 0 5), (us .u64 10 5)], ⟨g_Muly, 15, [.pre 2 (vs 0 10)], [], [1]⟩⟩, ⟨outs_Muly, []⟩, 60⟩
theorem r_Muly : runBody Try.prog [T_feMul, T_feMulx, T_feMuly] [] Try.f47 p_Muly.fuel T_Muly.args T_Muly.mem T_Muly.nin p_Muly.orc = some p_Muly.out := by kernel_rfl
theorem good_Muly (W : World0 Try.prog) : Good W T_Muly s_feMulG := straightB (l := l_Muly) (p := p_Muly) (by exact ⟨good_feMul W, good_feMulx W, good_feMuly W, trivial⟩) Try.func47 Try.call47 r_Muly (by kernel_rfl) eqF_feMuly

def T_Sq : Tmpl := ⟨48, [.one (.lf (.ptr 1 0)), .one (.lf (.ptr 0 0))], [(us .u64 0 5), (anys 5)], 5, 5, true, .one (.lf (.ptr 1 0)), [none, some (us .u64 5 5)], []⟩
def p_Sq : Path := ⟨(bs 5 0 4503599627370458), [], ⟨.one (.lf (.ptr 1 0)), [(us .u64 0 5), (us .u64 5 5)], ⟨g_Sq, 10, [.pre 0 (vs 0 5)], [], [1]⟩⟩, ⟨outs_Sq, []⟩, 60⟩
theorem r_Sq : runBody Try.prog [T_feSq, T_feSqx] [] Try.f48 p_Sq.fuel T_Sq.args T_Sq.mem T_Sq.nin p_Sq.orc = some p_Sq.out := by kernel_rfl
theorem good_Sq (W : World0 Try.prog) : Good W T_Sq s_feSqG := straightB (l := l_Sq) (p := p_Sq) (by exact ⟨good_feSq W, good_feSqx W, trivial⟩) Try.func48 Try.call48 r_Sq (by kernel_rfl) eqF_feSq

def T_Sqx : Tmpl := ⟨48, [.one (.lf (.ptr 0 0)), .one (.lf (.ptr 0 0))], [(us .u64 0 5)], 5, 5, true, .one (.lf (.ptr 0 0)), [some (us .u64 5 5)], []⟩
def p_Sqx : Path := ⟨(bs 5 0 4503599627370458), [], ⟨.one (.lf (.ptr 0 0)), [(us .u64 5 5)], ⟨g_Sqx, 10, [.pre 1 (vs 0 5)], [], [0]⟩⟩, ⟨outs_Sqx, []⟩, 60⟩
theorem r_Sqx : runBody Try.prog [T_feSq, T_feSqx] [] Try.f48 p_Sqx.fuel T_Sqx.args T_Sqx.mem T_Sqx.nin p_Sqx.orc = some p_Sqx.out := by kernel_rfl
theorem good_Sqx (W : World0 Try.prog) : Good W T_Sqx s_feSqG := straightB (l := l_Sqx) (p := p_Sqx) (by exact ⟨good_feSq W, good_feSqx W, trivial⟩) Try.func48 Try.call48 r_Sqx (by kernel_rfl) eqF_feSqx

end
end Go.X.Y

set_option maxRecDepth 20000
namespace Go.X.Y
open Go.Proofs
noncomputable section
def T_Add : Tmpl := ⟨44, [.one (.lf (.ptr 2 0)), .one (.lf (.ptr 0 0)), .one (.lf (.ptr 1 0))], [(us .u64 0 5), (us .u64 5 5), (anys 5)], 10, 5, true, .one (.lf (.ptr 2 0)), [none, none, some (us .u64 10 5)], []⟩
def p_Add : Path := ⟨(bs 10 0 4503599627370458), [], ⟨.one (.lf (.ptr 2 0)), [(us .u64 0 5), (us .u64 5 5), (us .u64 15 5)], ⟨g_Add, 20, [.pre 0 (vs 10 5)], [], [2, 2, 2, 2, 2, 2]⟩⟩, ⟨outs_Add, []⟩, 60⟩
theorem r_Add : runBody Try.prog [T_carry] [] Try.f44 p_Add.fuel T_Add.args T_Add.mem T_Add.nin p_Add.orc = some p_Add.out := by kernel_rfl
theorem good_Add (W : World0 Try.prog) : Good W T_Add s_Add := straight (l := l_Add) (p := p_Add) (by exact ⟨good_carry W, trivial⟩) Try.func44 Try.call44 r_Add (by kernel_rfl) rfl

def T_Addx : Tmpl := ⟨44, [.one (.lf (.ptr 0 0)), .one (.lf (.ptr 0 0)), .one (.lf (.ptr 1 0))], [(us .u64 0 5), (us .u64 5 5)], 10, 5, true, .one (.lf (.ptr 0 0)), [some (us .u64 10 5), none], []⟩
def p_Addx : Path := ⟨(bs 10 0 4503599627370458), [], ⟨.one (.lf (.ptr 0 0)), [(us .u64 15 5), (us .u64 5 5)], ⟨g_Addx, 20, [.pre 0 (vs 10 5)], [], [0, 0, 0, 0, 0, 0]⟩⟩, ⟨outs_Addx, []⟩, 60⟩
theorem r_Addx : runBody Try.prog [T_carry] [] Try.f44 p_Addx.fuel T_Addx.args T_Addx.mem T_Addx.nin p_Addx.orc = some p_Addx.out := by kernel_rfl
theorem good_Addx (W : World0 Try.prog) : Good W T_Addx s_Add := straight (l := l_Addx) (p := p_Addx) (by exact ⟨good_carry W, trivial⟩) Try.func44 Try.call44 r_Addx (by kernel_rfl) rfl

def T_Sub : Tmpl := ⟨45, [.one (.lf (.ptr 2 0)), .one (.lf (.ptr 0 0)), .one (.lf (.ptr 1 0))], [(us .u64 0 5), (us .u64 5 5), (anys 5)], 10, 5, true, .one (.lf (.ptr 2 0)), [none, none, some (us .u64 10 5)], []⟩
def p_Sub : Path := ⟨(bs 10 0 4503599627370458), [], ⟨.one (.lf (.ptr 2 0)), [(us .u64 0 5), (us .u64 5 5), (us .u64 20 5)], ⟨g_Sub, 25, [.pre 0 [(.v 11), (.v 13), (.v 15), (.v 17), (.v 19)]], [], [2, 2, 2, 2, 2, 2]⟩⟩, ⟨outs_Sub, []⟩, 60⟩
theorem r_Sub : runBody Try.prog [T_carry] [] Try.f45 p_Sub.fuel T_Sub.args T_Sub.mem T_Sub.nin p_Sub.orc = some p_Sub.out := by kernel_rfl
theorem good_Sub (W : World0 Try.prog) : Good W T_Sub s_Sub := straight (l := l_Sub) (p := p_Sub) (by exact ⟨good_carry W, trivial⟩) Try.func45 Try.call45 r_Sub (by kernel_rfl) rfl

def T_Subx : Tmpl := ⟨45, [.one (.lf (.ptr 0 0)), .one (.lf (.ptr 0 0)), .one (.lf (.ptr 1 0))], [(us .u64 0 5), (us .u64 5 5)], 10, 5, true, .one (.lf (.ptr 0 0)), [some (us .u64 10 5), none], []⟩
def p_Subx : Path := ⟨(bs 10 0 4503599627370458), [], ⟨.one (.lf (.ptr 0 0)), [(us .u64 20 5), (us .u64 5 5)], ⟨g_Subx, 25, [.pre 0 [(.v 11), (.v 13), (.v 15), (.v 17), (.v 19)]], [], [0, 0, 0, 0, 0, 0]⟩⟩, ⟨outs_Subx, []⟩, 60⟩
theorem r_Subx : runBody Try.prog [T_carry] [] Try.f45 p_Subx.fuel T_Subx.args T_Subx.mem T_Subx.nin p_Subx.orc = some p_Subx.out := by kernel_rfl
theorem good_Subx (W : World0 Try.prog) : Good W T_Subx s_Sub := straight (l := l_Subx) (p := p_Subx) (by exact ⟨good_carry W, trivial⟩) Try.func45 Try.call45 r_Subx (by kernel_rfl) rfl

def T_feZero : Tmpl := ⟨74, [], [], 0, 0, true, .one (.lf (.ptr 0 0)), [], [(lits .u64 0 5)]⟩
def p_feZero : Path := ⟨[], [], ⟨.one (.lf (.ptr 0 0)), [(lits .u64 0 5)], ⟨g_feZero, 0, [], [], []⟩⟩, ⟨outs_feZero, [0]⟩, 60⟩
theorem r_feZero : runBody Try.prog [] [] Try.f74 p_feZero.fuel T_feZero.args T_feZero.mem T_feZero.nin p_feZero.orc = some p_feZero.out := by kernel_rfl
theorem good_feZero (W : World0 Try.prog) : Good W T_feZero s_feZero := straight (l := l_feZero) (p := p_feZero) (by exact trivial) Try.func74 Try.call74 r_feZero (by kernel_rfl) rfl

def T_feOne_ : Tmpl := ⟨99, [], [], 0, 0, true, .one (.lf (.ptr 0 0)), [], [([.int .u64 (.l 1)] ++ (lits .u64 0 4))]⟩
def p_feOne_ : Path := ⟨[], [], ⟨.one (.lf (.ptr 0 0)), [([.int .u64 (.l 1)] ++ (lits .u64 0 4))], ⟨g_feOne_, 0, [], [], []⟩⟩, ⟨outs_feOne_, [0]⟩, 60⟩
theorem r_feOne_ : runBody Try.prog [] [] Try.f99 p_feOne_.fuel T_feOne_.args T_feOne_.mem T_feOne_.nin p_feOne_.orc = some p_feOne_.out := by kernel_rfl
theorem good_feOne_ (W : World0 Try.prog) : Good W T_feOne_ s_feOne_ := straight (l := l_feOne_) (p := p_feOne_) (by exact trivial) Try.func99 Try.call99 r_feOne_ (by kernel_rfl) rfl

def T_Neg : Tmpl := ⟨46, [.one (.lf (.ptr 1 0)), .one (.lf (.ptr 0 0))], [(us .u64 0 5), (anys 5)], 5, 5, true, .one (.lf (.ptr 1 0)), [none, some (us .u64 5 5)], []⟩
def p_Neg : Path := ⟨(bs 5 0 4503599627370458), [], ⟨.one (.lf (.ptr 1 0)), [(us .u64 0 5), (us .u64 5 5), (lits .u64 0 5)], ⟨g_Neg, 10, [.pre 0 ((ls 0 5) ++ (vs 0 5)), .pre 2 []], [], [1]⟩⟩, ⟨outs_Neg, []⟩, 60⟩
theorem r_Neg : runBody Try.prog [T_Sub, T_Subx, T_feZero] [] Try.f46 p_Neg.fuel T_Neg.args T_Neg.mem T_Neg.nin p_Neg.orc = some p_Neg.out := by kernel_rfl
theorem good_Neg (W : World0 Try.prog) : Good W T_Neg s_Neg := straight (l := l_Neg) (p := p_Neg) (by exact ⟨good_Sub W, good_Subx W, good_feZero W, trivial⟩) Try.func46 Try.call46 r_Neg (by kernel_rfl) rfl

def T_One : Tmpl := ⟨82, [.one (.lf (.ptr 0 0))], [(anys 5)], 0, 0, true, .one (.lf (.ptr 0 0)), [some ([.int .u64 (.l 1)] ++ (lits .u64 0 4))], []⟩
def p_One : Path := ⟨[], [], ⟨.one (.lf (.ptr 0 0)), [([.int .u64 (.l 1)] ++ (lits .u64 0 4)), ([.int .u64 (.l 1)] ++ (lits .u64 0 4))], ⟨g_One, 0, [.pre 0 []], [], [0]⟩⟩, ⟨outs_One, []⟩, 60⟩
theorem r_One : runBody Try.prog [T_feOne_] [] Try.f82 p_One.fuel T_One.args T_One.mem T_One.nin p_One.orc = some p_One.out := by kernel_rfl
theorem good_One (W : World0 Try.prog) : Good W T_One s_One := straight (l := l_One) (p := p_One) (by exact ⟨good_feOne_ W, trivial⟩) Try.func82 Try.call82 r_One (by kernel_rfl) rfl

def T_Set : Tmpl := ⟨81, [.one (.lf (.ptr 1 0)), .one (.lf (.ptr 0 0))], [(us .u64 0 5), (anys 5)], 5, 0, true, .one (.lf (.ptr 1 0)), [none, some (us .u64 0 5)], []⟩
def p_Set : Path := ⟨(bs 5 0 4503599627370458), [], ⟨.one (.lf (.ptr 1 0)), [(us .u64 0 5), (us .u64 0 5)], ⟨g_Set, 5, [], [], [1]⟩⟩, ⟨outs_Set, []⟩, 60⟩
theorem r_Set : runBody Try.prog [] [] Try.f81 p_Set.fuel T_Set.args T_Set.mem T_Set.nin p_Set.orc = some p_Set.out := by kernel_rfl
theorem good_Set (W : World0 Try.prog) : Good W T_Set s_Set := straight (l := l_Set) (p := p_Set) (by exact trivial) Try.func81 Try.call81 r_Set (by kernel_rfl) rfl

def T_mask : Tmpl := ⟨91, [.one (.lf (.int .i64 (.v 0)))], [], 1, 1, true, .one (.lf (.int .u64 (.v 1))), [], []⟩
def p_mask : Path := ⟨[(0, 1)], [], ⟨.one (.lf (.int .u64 (.v 3))), [], ⟨g_mask, 4, [], [], []⟩⟩, ⟨outs_mask, []⟩, 60⟩
theorem r_mask : runBody Try.prog [] [] Try.f91 p_mask.fuel T_mask.args T_mask.mem T_mask.nin p_mask.orc = some p_mask.out := by kernel_rfl
theorem good_mask (W : World0 Try.prog) : Good W T_mask s_mask := straight (l := l_mask) (p := p_mask) (by exact trivial) Try.func91 Try.call91 r_mask (by kernel_rfl) rfl

def T_Sel : Tmpl := ⟨69, [.one (.lf (.ptr 2 0)), .one (.lf (.ptr 0 0)), .one (.lf (.ptr 1 0)), .one (.lf (.int .i64 (.v 10)))], [(us .u64 0 5), (us .u64 5 5), (anys 5)], 11, 5, true, .one (.lf (.ptr 2 0)), [none, none, some (us .u64 11 5)], []⟩
def p_Sel : Path := ⟨((bs 10 0 4503599627370458) ++ [(0, 1)]), [], ⟨.one (.lf (.ptr 2 0)), [(us .u64 0 5), (us .u64 5 5), [.int .u64 (.v 15), .int .u64 (.v 19), .int .u64 (.v 23), .int .u64 (.v 27), .int .u64 (.v 31)]], ⟨g_Sel, 32, [.pre 0 [(.v 10)]], [], [2, 2, 2, 2, 2]⟩⟩, ⟨outs_Sel, []⟩, 60⟩
theorem r_Sel : runBody Try.prog [T_mask] [] Try.f69 p_Sel.fuel T_Sel.args T_Sel.mem T_Sel.nin p_Sel.orc = some p_Sel.out := by kernel_rfl
theorem good_Sel (W : World0 Try.prog) : Good W T_Sel s_Sel := Good.swap (s := s_Sel0) (straight (l := l_Sel) (p := p_Sel) (by exact ⟨good_mask W, trivial⟩) Try.func69 Try.call69 r_Sel (by kernel_rfl) rfl) rfl rfl eq_Sel

def T_Sely : Tmpl := ⟨69, [.one (.lf (.ptr 1 0)), .one (.lf (.ptr 0 0)), .one (.lf (.ptr 1 0)), .one (.lf (.int .i64 (.v 10)))], [(us .u64 0 5), (us .u64 5 5)], 11, 5, true, .one (.lf (.ptr 1 0)), [none, some (us .u64 11 5)], []⟩
def p_Sely : Path := ⟨((bs 10 0 4503599627370458) ++ [(0, 1)]), [], ⟨.one (.lf (.ptr 1 0)), [(us .u64 0 5), [.int .u64 (.v 15), .int .u64 (.v 19), .int .u64 (.v 23), .int .u64 (.v 27), .int .u64 (.v 31)]], ⟨g_Sely, 32, [.pre 0 [(.v 10)]], [], [1, 1, 1, 1, 1]⟩⟩, ⟨outs_Sely, []⟩, 60⟩
theorem r_Sely : runBody Try.prog [T_mask] [] Try.f69 p_Sely.fuel T_Sely.args T_Sely.mem T_Sely.nin p_Sely.orc = some p_Sely.out := by kernel_rfl
theorem good_Sely (W : World0 Try.prog) : Good W T_Sely s_Sel := Good.swap (s := s_Sel0) (straight (l := l_Sely) (p := p_Sely) (by exact ⟨good_mask W, trivial⟩) Try.func69 Try.call69 r_Sely (by kernel_rfl) rfl) rfl rfl eq_Sel

def T_reduce : Tmpl := ⟨93, [.one (.lf (.ptr 0 0))], [(us .u64 0 5)], 5, 5, true, .one (.lf (.ptr 0 0)), [some (us .u64 5 5)], []⟩
def p_reduce : Path := ⟨(bs 5 0 4503599627370458), [], ⟨.one (.lf (.ptr 0 0)), [[.int .u64 (.v 24), .int .u64 (.v 27), .int .u64 (.v 30), .int .u64 (.v 33), .int .u64 (.v 34)]], ⟨g_reduce, 35, [.pre 0 (vs 0 5)], [], [0, 0, 0, 0, 0, 0, 0, 0, 0, 0, 0]⟩⟩, ⟨outs_reduce, []⟩, 60⟩
theorem r_reduce : runBody Try.prog [T_carry] [] Try.f93 p_reduce.fuel T_reduce.args T_reduce.mem T_reduce.nin p_reduce.orc = some p_reduce.out := by kernel_rfl
theorem good_reduce (W : World0 Try.prog) : Good W T_reduce s_reduce := straight (l := l_reduce) (p := p_reduce) (by exact ⟨good_carry W, trivial⟩) Try.func93 Try.call93 r_reduce (by kernel_rfl) rfl

def T_put32 : Tmpl := ⟨94, [.one (.lf (.slc 0 0 32 none)), .one (.lf (.int .u64 (.v 0)))], [(anys 8)], 1, 8, true, .tup [], [some (us .u8 1 8)], []⟩
def p_put32 : Path := ⟨[(0, 18446744073709551615)], [], ⟨.tup [], [[.int .u8 (.v 2), .int .u8 (.v 4), .int .u8 (.v 6), .int .u8 (.v 8), .int .u8 (.v 10), .int .u8 (.v 12), .int .u8 (.v 14), .int .u8 (.v 16)]], ⟨g_put32, 17, [], [], [0, 0, 0, 0, 0, 0, 0, 0]⟩⟩, ⟨outs_put32, []⟩, 60⟩
theorem r_put32 : runBody Try.prog [] [] Try.f94 p_put32.fuel T_put32.args T_put32.mem T_put32.nin p_put32.orc = some p_put32.out := by kernel_rfl
theorem good_put32 (W : World0 Try.prog) : Good W T_put32 s_put32 := straight (l := l_put32) (p := p_put32) (by exact trivial) Try.func94 Try.call94 r_put32 (by kernel_rfl) rfl

def T_put24 : Tmpl := ⟨94, [.one (.lf (.slc 0 0 24 none)), .one (.lf (.int .u64 (.v 0)))], [(anys 8)], 1, 8, true, .tup [], [some (us .u8 1 8)], []⟩
def p_put24 : Path := ⟨[(0, 18446744073709551615)], [], ⟨.tup [], [[.int .u8 (.v 2), .int .u8 (.v 4), .int .u8 (.v 6), .int .u8 (.v 8), .int .u8 (.v 10), .int .u8 (.v 12), .int .u8 (.v 14), .int .u8 (.v 16)]], ⟨g_put24, 17, [], [], [0, 0, 0, 0, 0, 0, 0, 0]⟩⟩, ⟨outs_put24, []⟩, 60⟩
theorem r_put24 : runBody Try.prog [] [] Try.f94 p_put24.fuel T_put24.args T_put24.mem T_put24.nin p_put24.orc = some p_put24.out := by kernel_rfl
theorem good_put24 (W : World0 Try.prog) : Good W T_put24 s_put32 := straight (l := l_put24) (p := p_put24) (by exact trivial) Try.func94 Try.call94 r_put24 (by kernel_rfl) rfl

def T_put16 : Tmpl := ⟨94, [.one (.lf (.slc 0 0 16 none)), .one (.lf (.int .u64 (.v 0)))], [(anys 8)], 1, 8, true, .tup [], [some (us .u8 1 8)], []⟩
def p_put16 : Path := ⟨[(0, 18446744073709551615)], [], ⟨.tup [], [[.int .u8 (.v 2), .int .u8 (.v 4), .int .u8 (.v 6), .int .u8 (.v 8), .int .u8 (.v 10), .int .u8 (.v 12), .int .u8 (.v 14), .int .u8 (.v 16)]], ⟨g_put16, 17, [], [], [0, 0, 0, 0, 0, 0, 0, 0]⟩⟩, ⟨outs_put16, []⟩, 60⟩
theorem r_put16 : runBody Try.prog [] [] Try.f94 p_put16.fuel T_put16.args T_put16.mem T_put16.nin p_put16.orc = some p_put16.out := by kernel_rfl
theorem good_put16 (W : World0 Try.prog) : Good W T_put16 s_put32 := straight (l := l_put16) (p := p_put16) (by exact trivial) Try.func94 Try.call94 r_put16 (by kernel_rfl) rfl

def T_put8 : Tmpl := ⟨94, [.one (.lf (.slc 0 0 8 none)), .one (.lf (.int .u64 (.v 0)))], [(anys 8)], 1, 8, true, .tup [], [some (us .u8 1 8)], []⟩
def p_put8 : Path := ⟨[(0, 18446744073709551615)], [], ⟨.tup [], [[.int .u8 (.v 2), .int .u8 (.v 4), .int .u8 (.v 6), .int .u8 (.v 8), .int .u8 (.v 10), .int .u8 (.v 12), .int .u8 (.v 14), .int .u8 (.v 16)]], ⟨g_put8, 17, [], [], [0, 0, 0, 0, 0, 0, 0, 0]⟩⟩, ⟨outs_put8, []⟩, 60⟩
theorem r_put8 : runBody Try.prog [] [] Try.f94 p_put8.fuel T_put8.args T_put8.mem T_put8.nin p_put8.orc = some p_put8.out := by kernel_rfl
theorem good_put8 (W : World0 Try.prog) : Good W T_put8 s_put32 := straight (l := l_put8) (p := p_put8) (by exact trivial) Try.func94 Try.call94 r_put8 (by kernel_rfl) rfl

end
end Go.X.Y

set_option maxRecDepth 20000
namespace Go.X.Y
open Go.Proofs
noncomputable section
def T_bytes_ : Tmpl := ⟨71, [.one (.lf (.ptr 0 0)), .one (.lf (.ptr 1 0))], [(us .u64 0 5), (anys 32)], 5, 32, true, .one (.lf (.slc 1 0 32 (some 32))), [none, some (us .u8 5 32)], []⟩
def p_bytes_ : Path := ⟨(bs 5 0 4503599627370458), [], ⟨.one (.lf (.slc 1 0 32 (some 32))), [(us .u64 0 5), (us .u8 21 32), (us .u64 5 5)], ⟨g_bytes_, 53, [.pre 4 [(.v 20)], .pre 3 [(.v 17)], .pre 2 [(.v 14)], .pre 1 [(.v 11)], .pre 0 (vs 0 5)], [], [1, 1, 1, 1, 2, 2]⟩⟩, ⟨outs_bytes_, []⟩, 60⟩
theorem r_bytes_ : runBody Try.prog [T_reduce, T_put32, T_put24, T_put16, T_put8] [] Try.f71 p_bytes_.fuel T_bytes_.args T_bytes_.mem T_bytes_.nin p_bytes_.orc = some p_bytes_.out := by kernel_rfl
theorem good_bytes_ (W : World0 Try.prog) : Good W T_bytes_ s_bytes_ := straight (l := l_bytes_) (p := p_bytes_) (by exact ⟨good_reduce W, good_put32 W, good_put24 W, good_put16 W, good_put8 W, trivial⟩) Try.func71 Try.call71 r_bytes_ (by kernel_rfl) rfl

def T_Bytes : Tmpl := ⟨35, [.one (.lf (.ptr 0 0))], [(us .u64 0 5)], 5, 32, true, .one (.lf (.slc 1 0 32 (some 32))), [none], [(us .u8 5 32)]⟩
def p_Bytes : Path := ⟨(bs 5 0 4503599627370458), [], ⟨.one (.lf (.slc 1 0 32 (some 32))), [(us .u64 0 5), (us .u8 5 32)], ⟨g_Bytes, 37, [.pre 0 (vs 0 5)], [], [1]⟩⟩, ⟨outs_Bytes, [1]⟩, 60⟩
theorem r_Bytes : runBody Try.prog [T_bytes_] [] Try.f35 p_Bytes.fuel T_Bytes.args T_Bytes.mem T_Bytes.nin p_Bytes.orc = some p_Bytes.out := by kernel_rfl
theorem good_Bytes (W : World0 Try.prog) : Good W T_Bytes s_Bytes := straight (l := l_Bytes) (p := p_Bytes) (by exact ⟨good_bytes_ W, trivial⟩) Try.func35 Try.call35 r_Bytes (by kernel_rfl) rfl

def T_le64 : Tmpl := ⟨92, [.one (.lf (.slc 0 0 8 none))], [(us .u8 0 8)], 8, 1, true, .one (.lf (.int .u64 (.v 8))), [none], []⟩
def p_le64 : Path := ⟨(bs 8 0 255), [], ⟨.one (.lf (.int .u64 (.v 30))), [(us .u8 0 8)], ⟨g_le64, 31, [], [], []⟩⟩, ⟨outs_le64, []⟩, 60⟩
theorem r_le64 : runBody Try.prog [] [] Try.f92 p_le64.fuel T_le64.args T_le64.mem T_le64.nin p_le64.orc = some p_le64.out := by kernel_rfl
theorem good_le64 (W : World0 Try.prog) : Good W T_le64 s_le64 := straight (l := l_le64) (p := p_le64) (by exact trivial) Try.func92 Try.call92 r_le64 (by kernel_rfl) rfl

def T_SetBytes : Tmpl := ⟨70, [.one (.lf (.ptr 1 0)), .one (.lf (.slc 0 0 32 none))], [(us .u8 0 32), (anys 5)], 32, 5, true, .tup [.lf (.ptr 1 0), .lf (.cst .nilIface)], [none, some (us .u64 32 5)], []⟩
def p_SetBytes : Path := ⟨(bs 32 0 255), [], ⟨.tup [.lf (.ptr 1 0), .lf (.cst .nilIface)], [(us .u8 0 32), [.int .u64 (.v 33), .int .u64 (.v 36), .int .u64 (.v 39), .int .u64 (.v 42), .int .u64 (.v 45)]], ⟨g_SetBytes, 46, [.pre 0 (vs 24 8), .pre 0 (vs 19 8), .pre 0 (vs 12 8), .pre 0 (vs 6 8), .pre 0 (vs 0 8)], [], [1, 1, 1, 1, 1, 1, 1, 1, 1, 1]⟩⟩, ⟨outs_SetBytes, []⟩, 60⟩
theorem r_SetBytes : runBody Try.prog [T_le64] [] Try.f70 p_SetBytes.fuel T_SetBytes.args T_SetBytes.mem T_SetBytes.nin p_SetBytes.orc = some p_SetBytes.out := by kernel_rfl
theorem good_SetBytes (W : World0 Try.prog) : Good W T_SetBytes s_SetBytes := straight (l := l_SetBytes) (p := p_SetBytes) (by exact ⟨good_le64 W, trivial⟩) Try.func70 Try.call70 r_SetBytes (by kernel_rfl) rfl

def T_IsNeg : Tmpl := ⟨52, [.one (.lf (.ptr 0 0))], [(us .u64 0 5)], 5, 1, true, .one (.lf (.int .i64 (.v 5))), [none], []⟩
def p_IsNeg : Path := ⟨(bs 5 0 4503599627370458), [], ⟨.one (.lf (.int .i64 (.v 38))), [(us .u64 0 5), (us .u8 5 32)], ⟨g_IsNeg, 39, [.pre 0 (vs 0 5)], [], []⟩⟩, ⟨outs_IsNeg, []⟩, 60⟩
theorem r_IsNeg : runBody Try.prog [T_Bytes] [] Try.f52 p_IsNeg.fuel T_IsNeg.args T_IsNeg.mem T_IsNeg.nin p_IsNeg.orc = some p_IsNeg.out := by kernel_rfl
theorem good_IsNeg (W : World0 Try.prog) : Good W T_IsNeg s_IsNeg := straight (l := l_IsNeg) (p := p_IsNeg) (by exact ⟨good_Bytes W, trivial⟩) Try.func52 Try.call52 r_IsNeg (by kernel_rfl) rfl

def T_Abs : Tmpl := ⟨51, [.one (.lf (.ptr 1 0)), .one (.lf (.ptr 0 0))], [(us .u64 0 5), (anys 5)], 5, 5, true, .one (.lf (.ptr 1 0)), [none, some (us .u64 5 5)], []⟩
def p_Abs : Path := ⟨(bs 5 0 4503599627370458), [], ⟨.one (.lf (.ptr 1 0)), [(us .u64 0 5), (us .u64 11 5), (us .u64 5 5)], ⟨g_Abs, 16, [.pre 1 ((vs 5 5) ++ (vs 0 5) ++ [(.v 10)]), .pre 3 (vs 0 5), .pre 0 (vs 0 5)], [], [1, 2]⟩⟩, ⟨outs_Abs, []⟩, 60⟩
theorem r_Abs : runBody Try.prog [T_Neg, T_Sel, T_Sely, T_IsNeg] [] Try.f51 p_Abs.fuel T_Abs.args T_Abs.mem T_Abs.nin p_Abs.orc = some p_Abs.out := by kernel_rfl
theorem good_Abs (W : World0 Try.prog) : Good W T_Abs s_Abs := straight (l := l_Abs) (p := p_Abs) (by exact ⟨good_Neg W, good_Sel W, good_Sely W, good_IsNeg W, trivial⟩) Try.func51 Try.call51 r_Abs (by kernel_rfl) rfl

def T_sqrtM1 : Tmpl := ⟨68, [], [], 0, 0, true, .one (.lf (.ptr 0 0)), [], [[.int .u64 (.l 1718705420411056), .int .u64 (.l 234908883556509), .int .u64 (.l 2233514472574048), .int .u64 (.l 2117202627021982), .int .u64 (.l 765476049583133)]]⟩
def p_sqrtM1 : Path := ⟨[], [], ⟨.one (.lf (.ptr 0 0)), [[.int .u64 (.l 1718705420411056), .int .u64 (.l 234908883556509), .int .u64 (.l 2233514472574048), .int .u64 (.l 2117202627021982), .int .u64 (.l 765476049583133)]], ⟨g_sqrtM1, 0, [], [], []⟩⟩, ⟨outs_sqrtM1, [0]⟩, 60⟩
theorem r_sqrtM1 : runBody Try.prog [] [] Try.f68 p_sqrtM1.fuel T_sqrtM1.args T_sqrtM1.mem T_sqrtM1.nin p_sqrtM1.orc = some p_sqrtM1.out := by kernel_rfl
theorem good_sqrtM1 (W : World0 Try.prog) : Good W T_sqrtM1 s_sqrtM1 := straight (l := l_sqrtM1) (p := p_sqrtM1) (by exact trivial) Try.func68 Try.call68 r_sqrtM1 (by kernel_rfl) rfl

end
end Go.X.Y
