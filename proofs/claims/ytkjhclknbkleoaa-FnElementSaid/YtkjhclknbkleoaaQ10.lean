/-
  A part of the proof of Ytkjhclknbkleoaa: texts Ra, Rb, Rc, Rd, Rf, Rg, Rh, Ri, Rj. No conditions.
-/
import Derived.Test.YtkjhclknbkleoaaQ09
import Derived.KernelRfl
import Derived.Test.YtkjhclknbkleoaaProg
set_option maxRecDepth 20000
namespace Go.X.Y
open Go.Proofs
noncomputable section
abbrev T_add64 : Tmpl := X.T_add64 107
theorem good_add64 (W : World0 Try.prog) : Good W T_add64 s_add64 := good_add64_ W Try.func107 (by kernel_rfl) (by kernel_rfl) (by kernel_rfl) (by kernel_rfl)
def T_mul64 : Tmpl := ⟨98, [.one (.lf (.int .u64 (.v 0))), .one (.lf (.int .u64 (.v 1)))], [], 2, 2, true, .tup [.lf (.int .u64 (.v 2)), .lf (.int .u64 (.v 3))], [], []⟩
def p_mul64 : Path := ⟨[(0, 18446744073709551615), (0, 18446744073709551615)], [], ⟨.tup [.lf (.int .u64 (.v 17)), .lf (.int .u64 (.v 18))], [], ⟨g_mul64, 19, [], [], []⟩⟩, ⟨outs_mul64, []⟩, 60⟩
theorem r_mul64 : runBody Try.prog [] [] Try.f98 p_mul64.fuel T_mul64.args T_mul64.mem T_mul64.nin p_mul64.orc = some p_mul64.out := by kernel_rfl
theorem good_mul64 (W : World0 Try.prog) : Good W T_mul64 s_mul64 := straight (l := l_mul64) (p := p_mul64) (by exact trivial) Try.func98 Try.call98 r_mul64 (by kernel_rfl) rfl

def T_mul19 : Tmpl := ⟨95, [.one (.lf (.int .u64 (.v 0)))], [], 1, 1, true, .one (.lf (.int .u64 (.v 1))), [], []⟩
def p_mul19 : Path := ⟨[(0, 18446744073709551615)], [], ⟨.one (.lf (.int .u64 (.v 4))), [], ⟨g_mul19, 5, [], [], []⟩⟩, ⟨outs_mul19, []⟩, 60⟩
theorem r_mul19 : runBody Try.prog [] [] Try.f95 p_mul19.fuel T_mul19.args T_mul19.mem T_mul19.nin p_mul19.orc = some p_mul19.out := by kernel_rfl
theorem good_mul19 (W : World0 Try.prog) : Good W T_mul19 s_mul19 := straight (l := l_mul19) (p := p_mul19) (by exact trivial) Try.func95 Try.call95 r_mul19 (by kernel_rfl) rfl

def T_mul : Tmpl := ⟨102, [.one (.lf (.int .u64 (.v 0))), .one (.lf (.int .u64 (.v 1)))], [], 2, 2, true, .one (.agg [.int .u64 (.v 2), .int .u64 (.v 3)]), [], []⟩
def p_mul : Path := ⟨[(0, 18446744073709551615), (0, 18446744073709551615)], [], ⟨.one (.agg [.int .u64 (.v 3), .int .u64 (.v 2)]), [[.int .u64 (.v 3), .int .u64 (.v 2)]], ⟨g_mul, 4, [.pre 0 [(.v 0), (.v 1)]], [], [0]⟩⟩, ⟨outs_mul, []⟩, 60⟩
theorem r_mul : runBody Try.prog [T_mul64] [] Try.f102 p_mul.fuel T_mul.args T_mul.mem T_mul.nin p_mul.orc = some p_mul.out := by kernel_rfl
theorem good_mul (W : World0 Try.prog) : Good W T_mul s_mul := straight (l := l_mul) (p := p_mul) (by exact ⟨good_mul64 W, trivial⟩) Try.func102 Try.call102 r_mul (by kernel_rfl) rfl

def T_addMul : Tmpl := ⟨104, [.one (.agg [.int .u64 (.v 0), .int .u64 (.v 1)]), .one (.lf (.int .u64 (.v 2))), .one (.lf (.int .u64 (.v 3)))], [], 4, 2, true, .one (.agg [.int .u64 (.v 4), .int .u64 (.v 5)]), [], []⟩
def p_addMul : Path := ⟨(bs 4 0 18446744073709551615), [], ⟨.one (.agg [.int .u64 (.v 6), .int .u64 (.v 8)]), [[.int .u64 (.v 0), .int .u64 (.v 1)], [.int .u64 (.v 6), .int .u64 (.v 8)]], ⟨g_addMul, 10, [.pre 0 [(.v 4), (.v 1), (.v 7)], .pre 0 [(.v 5), (.v 0), (.l 0)], .pre 1 [(.v 2), (.v 3)]], [], [1]⟩⟩, ⟨outs_addMul, []⟩, 60⟩
theorem r_addMul : runBody Try.prog [T_add64, T_mul64] [] Try.f104 p_addMul.fuel T_addMul.args T_addMul.mem T_addMul.nin p_addMul.orc = some p_addMul.out := by kernel_rfl
theorem good_addMul (W : World0 Try.prog) : Good W T_addMul s_addMul := straight (l := l_addMul) (p := p_addMul) (by exact ⟨good_add64 W, good_mul64 W, trivial⟩) Try.func104 Try.call104 r_addMul (by kernel_rfl) rfl

def T_addMul19 : Tmpl := ⟨103, [.one (.agg [.int .u64 (.v 0), .int .u64 (.v 1)]), .one (.lf (.int .u64 (.v 2))), .one (.lf (.int .u64 (.v 3)))], [], 4, 2, true, .one (.agg [.int .u64 (.v 4), .int .u64 (.v 5)]), [], []⟩
def p_addMul19 : Path := ⟨(bs 4 0 18446744073709551615), [], ⟨.one (.agg [.int .u64 (.v 7), .int .u64 (.v 9)]), [[.int .u64 (.v 0), .int .u64 (.v 1)], [.int .u64 (.v 7), .int .u64 (.v 9)]], ⟨g_addMul19, 11, [.pre 0 [(.v 5), (.v 1), (.v 8)], .pre 0 [(.v 6), (.v 0), (.l 0)], .pre 1 [(.v 4), (.v 3)], .pre 2 [(.v 2)]], [], [1]⟩⟩, ⟨outs_addMul19, []⟩, 60⟩
theorem r_addMul19 : runBody Try.prog [T_add64, T_mul64, T_mul19] [] Try.f103 p_addMul19.fuel T_addMul19.args T_addMul19.mem T_addMul19.nin p_addMul19.orc = some p_addMul19.out := by kernel_rfl
theorem good_addMul19 (W : World0 Try.prog) : Good W T_addMul19 s_addMul19 := straight (l := l_addMul19) (p := p_addMul19) (by exact ⟨good_add64 W, good_mul64 W, good_mul19 W, trivial⟩) Try.func103 Try.call103 r_addMul19 (by kernel_rfl) rfl

def T_addMul38 : Tmpl := ⟨106, [.one (.agg [.int .u64 (.v 0), .int .u64 (.v 1)]), .one (.lf (.int .u64 (.v 2))), .one (.lf (.int .u64 (.v 3)))], [], 4, 2, true, .one (.agg [.int .u64 (.v 4), .int .u64 (.v 5)]), [], []⟩
def p_addMul38 : Path := ⟨(bs 4 0 18446744073709551615), [], ⟨.one (.agg [.int .u64 (.v 8), .int .u64 (.v 10)]), [[.int .u64 (.v 0), .int .u64 (.v 1)], [.int .u64 (.v 8), .int .u64 (.v 10)]], ⟨g_addMul38, 12, [.pre 0 [(.v 6), (.v 1), (.v 9)], .pre 0 [(.v 7), (.v 0), (.l 0)], .pre 1 [(.v 4), (.v 5)], .pre 2 [(.v 2)]], [], [1]⟩⟩, ⟨outs_addMul38, []⟩, 60⟩
theorem r_addMul38 : runBody Try.prog [T_add64, T_mul64, T_mul19] [] Try.f106 p_addMul38.fuel T_addMul38.args T_addMul38.mem T_addMul38.nin p_addMul38.orc = some p_addMul38.out := by kernel_rfl
theorem good_addMul38 (W : World0 Try.prog) : Good W T_addMul38 s_addMul38 := straight (l := l_addMul38) (p := p_addMul38) (by exact ⟨good_add64 W, good_mul64 W, good_mul19 W, trivial⟩) Try.func106 Try.call106 r_addMul38 (by kernel_rfl) rfl

def T_shr51 : Tmpl := ⟨105, [.one (.agg [.int .u64 (.v 0), .int .u64 (.v 1)])], [], 2, 1, true, .one (.lf (.int .u64 (.v 2))), [], []⟩
def p_shr51 : Path := ⟨[(0, 18446744073709551615), (0, 18446744073709551615)], [], ⟨.one (.lf (.int .u64 (.v 4))), [[.int .u64 (.v 0), .int .u64 (.v 1)]], ⟨g_shr51, 5, [], [], []⟩⟩, ⟨outs_shr51, []⟩, 60⟩
theorem r_shr51 : runBody Try.prog [] [] Try.f105 p_shr51.fuel T_shr51.args T_shr51.mem T_shr51.nin p_shr51.orc = some p_shr51.out := by kernel_rfl
theorem good_shr51 (W : World0 Try.prog) : Good W T_shr51 s_shr51 := straight (l := l_shr51) (p := p_shr51) (by exact trivial) Try.func105 Try.call105 r_shr51 (by kernel_rfl) rfl

def T_carry : Tmpl := ⟨73, [.one (.lf (.ptr 0 0))], [(us .u64 0 5)], 5, 5, true, .one (.lf (.ptr 0 0)), [some (us .u64 5 5)], []⟩
def p_carry : Path := ⟨(bs 5 0 18446744073709551615), [], ⟨.one (.lf (.ptr 0 0)), [[.int .u64 (.v 8), .int .u64 (.v 20), .int .u64 (.v 17), .int .u64 (.v 14), .int .u64 (.v 11)]], ⟨g_carry, 21, [.pre 0 [(.v 6)]], [], [0, 0, 0, 0, 0]⟩⟩, ⟨outs_carry, []⟩, 60⟩
theorem r_carry : runBody Try.prog [T_mul19] [] Try.f73 p_carry.fuel T_carry.args T_carry.mem T_carry.nin p_carry.orc = some p_carry.out := by kernel_rfl
theorem good_carry (W : World0 Try.prog) : Good W T_carry s_carry := straight (l := l_carry) (p := p_carry) (by exact ⟨good_mul19 W, trivial⟩) Try.func73 Try.call73 r_carry (by kernel_rfl) rfl

def T_feMulG : Tmpl := ⟨96, [.one (.lf (.ptr 2 0)), .one (.lf (.ptr 0 0)), .one (.lf (.ptr 1 0))], [(us .u64 0 5), (us .u64 5 5), [.any, .any, .any, .any, .any]], 10, 5, true, .tup [], [none, none, some (us .u64 10 5)], []⟩
def p_feMulG : Path := ⟨(bs 10 0 4503599627370458), [], ⟨.tup [], [(us .u64 0 5), (us .u64 5 5), [.int .u64 (.v 79), .int .u64 (.v 82), .int .u64 (.v 85), .int .u64 (.v 88), .int .u64 (.v 91)], [.int .u64 (.v 18), .int .u64 (.v 19)], [.int .u64 (.v 28), .int .u64 (.v 29)], [.int .u64 (.v 38), .int .u64 (.v 39)], [.int .u64 (.v 48), .int .u64 (.v 49)], [.int .u64 (.v 58), .int .u64 (.v 59)]], ⟨g_feMulG, 92, [.pre 0 [(.v 77)], .pre 0 [(.v 64)], .pre 4 [(.v 58), (.v 59)], .pre 4 [(.v 48), (.v 49)], .pre 4 [(.v 38), (.v 39)], .pre 4 [(.v 28), (.v 29)], .pre 4 [(.v 18), (.v 19)], .pre 2 [(.v 56), (.v 57), (.v 4), (.v 5)], .pre 2 [(.v 54), (.v 55), (.v 3), (.v 6)], .pre 2 [(.v 52), (.v 53), (.v 2), (.v 7)], .pre 2 [(.v 50), (.v 51), (.v 1), (.v 8)], .pre 1 [(.v 0), (.v 9)], .pre 3 [(.v 46), (.v 47), (.v 4), (.v 9)], .pre 2 [(.v 44), (.v 45), (.v 3), (.v 5)], .pre 2 [(.v 42), (.v 43), (.v 2), (.v 6)], .pre 2 [(.v 40), (.v 41), (.v 1), (.v 7)], .pre 1 [(.v 0), (.v 8)], .pre 3 [(.v 36), (.v 37), (.v 4), (.v 8)], .pre 3 [(.v 34), (.v 35), (.v 3), (.v 9)], .pre 2 [(.v 32), (.v 33), (.v 2), (.v 5)], .pre 2 [(.v 30), (.v 31), (.v 1), (.v 6)], .pre 1 [(.v 0), (.v 7)], .pre 3 [(.v 26), (.v 27), (.v 4), (.v 7)], .pre 3 [(.v 24), (.v 25), (.v 3), (.v 8)], .pre 3 [(.v 22), (.v 23), (.v 2), (.v 9)], .pre 2 [(.v 20), (.v 21), (.v 1), (.v 5)], .pre 1 [(.v 0), (.v 6)], .pre 3 [(.v 16), (.v 17), (.v 4), (.v 6)], .pre 3 [(.v 14), (.v 15), (.v 3), (.v 7)], .pre 3 [(.v 12), (.v 13), (.v 2), (.v 8)], .pre 3 [(.v 10), (.v 11), (.v 1), (.v 9)], .pre 1 [(.v 0), (.v 5)]], [], [2, 2, 2, 2, 2, 7, 7, 7, 7, 7, 6, 6, 6, 6, 6, 5, 5, 5, 5, 5, 4, 4, 4, 4, 4, 3, 3, 3, 3, 3]⟩⟩, ⟨outs_feMulG, []⟩, 60⟩
theorem r_feMulG : runBody Try.prog [T_mul19, T_mul, T_addMul, T_addMul19, T_shr51] [] Try.f96 p_feMulG.fuel T_feMulG.args T_feMulG.mem T_feMulG.nin p_feMulG.orc = some p_feMulG.out := by kernel_rfl
theorem good_feMulG (W : World0 Try.prog) : Good W T_feMulG s_feMulG := straight (l := l_feMulG) (p := p_feMulG) (by exact ⟨good_mul19 W, good_mul W, good_addMul W, good_addMul19 W, good_shr51 W, trivial⟩) Try.func96 Try.call96 r_feMulG (by kernel_rfl) rfl

def T_feMulGx : Tmpl := ⟨96, [.one (.lf (.ptr 0 0)), .one (.lf (.ptr 0 0)), .one (.lf (.ptr 1 0))], [(us .u64 0 5), (us .u64 5 5)], 10, 5, true, .tup [], [some (us .u64 10 5), none], []⟩
def p_feMulGx : Path := ⟨(bs 10 0 4503599627370458), [], ⟨.tup [], [[.int .u64 (.v 79), .int .u64 (.v 82), .int .u64 (.v 85), .int .u64 (.v 88), .int .u64 (.v 91)], (us .u64 5 5), [.int .u64 (.v 18), .int .u64 (.v 19)], [.int .u64 (.v 28), .int .u64 (.v 29)], [.int .u64 (.v 38), .int .u64 (.v 39)], [.int .u64 (.v 48), .int .u64 (.v 49)], [.int .u64 (.v 58), .int .u64 (.v 59)]], ⟨g_feMulGx, 92, [.pre 0 [(.v 77)], .pre 0 [(.v 64)], .pre 4 [(.v 58), (.v 59)], .pre 4 [(.v 48), (.v 49)], .pre 4 [(.v 38), (.v 39)], .pre 4 [(.v 28), (.v 29)], .pre 4 [(.v 18), (.v 19)], .pre 2 [(.v 56), (.v 57), (.v 4), (.v 5)], .pre 2 [(.v 54), (.v 55), (.v 3), (.v 6)], .pre 2 [(.v 52), (.v 53), (.v 2), (.v 7)], .pre 2 [(.v 50), (.v 51), (.v 1), (.v 8)], .pre 1 [(.v 0), (.v 9)], .pre 3 [(.v 46), (.v 47), (.v 4), (.v 9)], .pre 2 [(.v 44), (.v 45), (.v 3), (.v 5)], .pre 2 [(.v 42), (.v 43), (.v 2), (.v 6)], .pre 2 [(.v 40), (.v 41), (.v 1), (.v 7)], .pre 1 [(.v 0), (.v 8)], .pre 3 [(.v 36), (.v 37), (.v 4), (.v 8)], .pre 3 [(.v 34), (.v 35), (.v 3), (.v 9)], .pre 2 [(.v 32), (.v 33), (.v 2), (.v 5)], .pre 2 [(.v 30), (.v 31), (.v 1), (.v 6)], .pre 1 [(.v 0), (.v 7)], .pre 3 [(.v 26), (.v 27), (.v 4), (.v 7)], .pre 3 [(.v 24), (.v 25), (.v 3), (.v 8)], .pre 3 [(.v 22), (.v 23), (.v 2), (.v 9)], .pre 2 [(.v 20), (.v 21), (.v 1), (.v 5)], .pre 1 [(.v 0), (.v 6)], .pre 3 [(.v 16), (.v 17), (.v 4), (.v 6)], .pre 3 [(.v 14), (.v 15), (.v 3), (.v 7)], .pre 3 [(.v 12), (.v 13), (.v 2), (.v 8)], .pre 3 [(.v 10), (.v 11), (.v 1), (.v 9)], .pre 1 [(.v 0), (.v 5)]], [], [0, 0, 0, 0, 0, 6, 6, 6, 6, 6, 5, 5, 5, 5, 5, 4, 4, 4, 4, 4, 3, 3, 3, 3, 3, 2, 2, 2, 2, 2]⟩⟩, ⟨outs_feMulGx, []⟩, 60⟩
theorem r_feMulGx : runBody Try.prog [T_mul19, T_mul, T_addMul, T_addMul19, T_shr51] [] Try.f96 p_feMulGx.fuel T_feMulGx.args T_feMulGx.mem T_feMulGx.nin p_feMulGx.orc = some p_feMulGx.out := by kernel_rfl
theorem good_feMulGx (W : World0 Try.prog) : Good W T_feMulGx s_feMulG := straight (l := l_feMulGx) (p := p_feMulGx) (by exact ⟨good_mul19 W, good_mul W, good_addMul W, good_addMul19 W, good_shr51 W, trivial⟩) Try.func96 Try.call96 r_feMulGx (by kernel_rfl) rfl

def T_feMulGy : Tmpl := ⟨96, [.one (.lf (.ptr 1 0)), .one (.lf (.ptr 0 0)), .one (.lf (.ptr 1 0))], [(us .u64 0 5), (us .u64 5 5)], 10, 5, true, .tup [], [none, some (us .u64 10 5)], []⟩
def p_feMulGy : Path := ⟨(bs 10 0 4503599627370458), [], ⟨.tup [], [(us .u64 0 5), [.int .u64 (.v 79), .int .u64 (.v 82), .int .u64 (.v 85), .int .u64 (.v 88), .int .u64 (.v 91)], [.int .u64 (.v 18), .int .u64 (.v 19)], [.int .u64 (.v 28), .int .u64 (.v 29)], [.int .u64 (.v 38), .int .u64 (.v 39)], [.int .u64 (.v 48), .int .u64 (.v 49)], [.int .u64 (.v 58), .int .u64 (.v 59)]], ⟨g_feMulGy, 92, [.pre 0 [(.v 77)], .pre 0 [(.v 64)], .pre 4 [(.v 58), (.v 59)], .pre 4 [(.v 48), (.v 49)], .pre 4 [(.v 38), (.v 39)], .pre 4 [(.v 28), (.v 29)], .pre 4 [(.v 18), (.v 19)], .pre 2 [(.v 56), (.v 57), (.v 4), (.v 5)], .pre 2 [(.v 54), (.v 55), (.v 3), (.v 6)], .pre 2 [(.v 52), (.v 53), (.v 2), (.v 7)], .pre 2 [(.v 50), (.v 51), (.v 1), (.v 8)], .pre 1 [(.v 0), (.v 9)], .pre 3 [(.v 46), (.v 47), (.v 4), (.v 9)], .pre 2 [(.v 44), (.v 45), (.v 3), (.v 5)], .pre 2 [(.v 42), (.v 43), (.v 2), (.v 6)], .pre 2 [(.v 40), (.v 41), (.v 1), (.v 7)], .pre 1 [(.v 0), (.v 8)], .pre 3 [(.v 36), (.v 37), (.v 4), (.v 8)], .pre 3 [(.v 34), (.v 35), (.v 3), (.v 9)], .pre 2 [(.v 32), (.v 33), (.v 2), (.v 5)], .pre 2 [(.v 30), (.v 31), (.v 1), (.v 6)], .pre 1 [(.v 0), (.v 7)], .pre 3 [(.v 26), (.v 27), (.v 4), (.v 7)], .pre 3 [(.v 24), (.v 25), (.v 3), (.v 8)], .pre 3 [(.v 22), (.v 23), (.v 2), (.v 9)], .pre 2 [(.v 20), (.v 21), (.v 1), (.v 5)], .pre 1 [(.v 0), (.v 6)], .pre 3 [(.v 16), (.v 17), (.v 4), (.v 6)], .pre 3 [(.v 14), (.v 15), (.v 3), (.v 7)], .pre 3 [(.v 12), (.v 13), (.v 2), (.v 8)], .pre 3 [(.v 10), (.v 11), (.v 1), (.v 9)], .pre 1 [(.v 0), (.v 5)]], [], [1, 1, 1, 1, 1, 6, 6, 6, 6, 6, 5, 5, 5, 5, 5, 4, 4, 4, 4, 4, 3, 3, 3, 3, 3, 2, 2, 2, 2, 2]⟩⟩, ⟨outs_feMulGy, []⟩, 60⟩
theorem r_feMulGy : runBody Try.prog [T_mul19, T_mul, T_addMul, T_addMul19, T_shr51] [] Try.f96 p_feMulGy.fuel T_feMulGy.args T_feMulGy.mem T_feMulGy.nin p_feMulGy.orc = some p_feMulGy.out := by kernel_rfl
theorem good_feMulGy (W : World0 Try.prog) : Good W T_feMulGy s_feMulG := straight (l := l_feMulGy) (p := p_feMulGy) (by exact ⟨good_mul19 W, good_mul W, good_addMul W, good_addMul19 W, good_shr51 W, trivial⟩) Try.func96 Try.call96 r_feMulGy (by kernel_rfl) rfl

def T_feSqG : Tmpl := ⟨97, [.one (.lf (.ptr 1 0)), .one (.lf (.ptr 0 0))], [(us .u64 0 5), [.any, .any, .any, .any, .any]], 5, 5, true, .tup [], [none, some (us .u64 5 5)], []⟩
def p_feSqG : Path := ⟨(bs 5 0 4503599627370458), [], ⟨.tup [], [(us .u64 0 5), [.int .u64 (.v 60), .int .u64 (.v 63), .int .u64 (.v 66), .int .u64 (.v 69), .int .u64 (.v 72)], [.int .u64 (.v 9), .int .u64 (.v 10)], [.int .u64 (.v 16), .int .u64 (.v 17)], [.int .u64 (.v 23), .int .u64 (.v 24)], [.int .u64 (.v 31), .int .u64 (.v 32)], [.int .u64 (.v 39), .int .u64 (.v 40)]], ⟨g_feSqG, 73, [.pre 0 [(.v 58)], .pre 0 [(.v 45)], .pre 5 [(.v 39), (.v 40)], .pre 5 [(.v 31), (.v 32)], .pre 5 [(.v 23), (.v 24)], .pre 5 [(.v 16), (.v 17)], .pre 5 [(.v 9), (.v 10)], .pre 2 [(.v 37), (.v 38), (.v 2), (.v 2)], .pre 2 [(.v 34), (.v 35), (.v 36), (.v 3)], .pre 1 [(.v 33), (.v 4)], .pre 3 [(.v 29), (.v 30), (.v 4), (.v 4)], .pre 2 [(.v 26), (.v 27), (.v 28), (.v 2)], .pre 1 [(.v 25), (.v 3)], .pre 4 [(.v 21), (.v 22), (.v 3), (.v 4)], .pre 2 [(.v 19), (.v 20), (.v 1), (.v 1)], .pre 1 [(.v 18), (.v 2)], .pre 3 [(.v 14), (.v 15), (.v 3), (.v 3)], .pre 4 [(.v 12), (.v 13), (.v 2), (.v 4)], .pre 1 [(.v 11), (.v 1)], .pre 4 [(.v 7), (.v 8), (.v 2), (.v 3)], .pre 4 [(.v 5), (.v 6), (.v 1), (.v 4)], .pre 1 [(.v 0), (.v 0)]], [], [1, 1, 1, 1, 1, 6, 6, 6, 5, 5, 5, 4, 4, 4, 3, 3, 3, 2, 2, 2]⟩⟩, ⟨outs_feSqG, []⟩, 60⟩
theorem r_feSqG : runBody Try.prog [T_mul19, T_mul, T_addMul, T_addMul19, T_addMul38, T_shr51] [] Try.f97 p_feSqG.fuel T_feSqG.args T_feSqG.mem T_feSqG.nin p_feSqG.orc = some p_feSqG.out := by kernel_rfl
theorem good_feSqG (W : World0 Try.prog) : Good W T_feSqG s_feSqG := straight (l := l_feSqG) (p := p_feSqG) (by exact ⟨good_mul19 W, good_mul W, good_addMul W, good_addMul19 W, good_addMul38 W, good_shr51 W, trivial⟩) Try.func97 Try.call97 r_feSqG (by kernel_rfl) rfl

def T_feSqGx : Tmpl := ⟨97, [.one (.lf (.ptr 0 0)), .one (.lf (.ptr 0 0))], [(us .u64 0 5)], 5, 5, true, .tup [], [some (us .u64 5 5)], []⟩
def p_feSqGx : Path := ⟨(bs 5 0 4503599627370458), [], ⟨.tup [], [[.int .u64 (.v 60), .int .u64 (.v 63), .int .u64 (.v 66), .int .u64 (.v 69), .int .u64 (.v 72)], [.int .u64 (.v 9), .int .u64 (.v 10)], [.int .u64 (.v 16), .int .u64 (.v 17)], [.int .u64 (.v 23), .int .u64 (.v 24)], [.int .u64 (.v 31), .int .u64 (.v 32)], [.int .u64 (.v 39), .int .u64 (.v 40)]], ⟨g_feSqGx, 73, [.pre 0 [(.v 58)], .pre 0 [(.v 45)], .pre 5 [(.v 39), (.v 40)], .pre 5 [(.v 31), (.v 32)], .pre 5 [(.v 23), (.v 24)], .pre 5 [(.v 16), (.v 17)], .pre 5 [(.v 9), (.v 10)], .pre 2 [(.v 37), (.v 38), (.v 2), (.v 2)], .pre 2 [(.v 34), (.v 35), (.v 36), (.v 3)], .pre 1 [(.v 33), (.v 4)], .pre 3 [(.v 29), (.v 30), (.v 4), (.v 4)], .pre 2 [(.v 26), (.v 27), (.v 28), (.v 2)], .pre 1 [(.v 25), (.v 3)], .pre 4 [(.v 21), (.v 22), (.v 3), (.v 4)], .pre 2 [(.v 19), (.v 20), (.v 1), (.v 1)], .pre 1 [(.v 18), (.v 2)], .pre 3 [(.v 14), (.v 15), (.v 3), (.v 3)], .pre 4 [(.v 12), (.v 13), (.v 2), (.v 4)], .pre 1 [(.v 11), (.v 1)], .pre 4 [(.v 7), (.v 8), (.v 2), (.v 3)], .pre 4 [(.v 5), (.v 6), (.v 1), (.v 4)], .pre 1 [(.v 0), (.v 0)]], [], [0, 0, 0, 0, 0, 5, 5, 5, 4, 4, 4, 3, 3, 3, 2, 2, 2, 1, 1, 1]⟩⟩, ⟨outs_feSqGx, []⟩, 60⟩
theorem r_feSqGx : runBody Try.prog [T_mul19, T_mul, T_addMul, T_addMul19, T_addMul38, T_shr51] [] Try.f97 p_feSqGx.fuel T_feSqGx.args T_feSqGx.mem T_feSqGx.nin p_feSqGx.orc = some p_feSqGx.out := by kernel_rfl
theorem good_feSqGx (W : World0 Try.prog) : Good W T_feSqGx s_feSqG := straight (l := l_feSqGx) (p := p_feSqGx) (by exact ⟨good_mul19 W, good_mul W, good_addMul W, good_addMul19 W, good_addMul38 W, good_shr51 W, trivial⟩) Try.func97 Try.call97 r_feSqGx (by kernel_rfl) rfl

end
end Go.X.Y

set_option maxRecDepth 20000
namespace Go.X.Y
open Go.Proofs
noncomputable section
def T_feMul : Tmpl := ⟨75, [.one (.lf (.ptr 2 0)), .one (.lf (.ptr 0 0)), .one (.lf (.ptr 1 0))], [(us .u64 0 5), (us .u64 5 5), [.any, .any, .any, .any, .any]], 10, 5, true, .tup [], [none, none, some (us .u64 10 5)], []⟩
def p_feMul : Path := ⟨(bs 10 0 4503599627370458), [], ⟨.tup [], [(us .u64 0 5), (us .u64 5 5), (us .u64 10 5)], ⟨g_feMul, 15, [.pre 0 (vs 0 10)], [], [2]⟩⟩, ⟨outs_feMul, []⟩, 60⟩
theorem r_feMul : runBody Try.prog [T_feMulG, T_feMulGx, T_feMulGy] [] Try.f75 p_feMul.fuel T_feMul.args T_feMul.mem T_feMul.nin p_feMul.orc = some p_feMul.out := by kernel_rfl
theorem good_feMul (W : World0 Try.prog) : Good W T_feMul s_feMulG := straightB (l := l_feMul) (p := p_feMul) (by exact ⟨good_feMulG W, good_feMulGx W, good_feMulGy W, trivial⟩) Try.func75 Try.call75 r_feMul (by kernel_rfl) eqF_feMul

def T_feMulx : Tmpl := ⟨75, [.one (.lf (.ptr 0 0)), .one (.lf (.ptr 0 0)), .one (.lf (.ptr 1 0))], [(us .u64 0 5), (us .u64 5 5)], 10, 5, true, .tup [], [some (us .u64 10 5), none], []⟩
def p_feMulx : Path := ⟨(bs 10 0 4503599627370458), [], ⟨.tup [], [(us .u64 10 5), (us .u64 5 5)], ⟨g_feMulx, 15, [.pre 1 (vs 0 10)], [], [0]⟩⟩, ⟨outs_feMulx, []⟩, 60⟩
theorem r_feMulx : runBody Try.prog [T_feMulG, T_feMulGx, T_feMulGy] [] Try.f75 p_feMulx.fuel T_feMulx.args T_feMulx.mem T_feMulx.nin p_feMulx.orc = some p_feMulx.out := by kernel_rfl
theorem good_feMulx (W : World0 Try.prog) : Good W T_feMulx s_feMulG := straightB (l := l_feMulx) (p := p_feMulx) (by exact ⟨good_feMulG W, good_feMulGx W, good_feMulGy W, trivial⟩) Try.func75 Try.call75 r_feMulx (by kernel_rfl) eqF_feMulx

def T_feMuly : Tmpl := ⟨75, [.one (.lf (.ptr 1 0)), .one (.lf (.ptr 0 0)), .one (.lf (.ptr 1 0))], [(us .u64 0 5), (us .u64 5 5)], 10, 5, true, .tup [], [none, some (us .u64 10 5)], []⟩
def p_feMuly : Path := ⟨(bs 10 0 4503599627370458), [], ⟨.tup [], [(us .u64 0 5), (us .u64 10 5)], ⟨g_feMuly, 15, [.pre 2 (vs 0 10)], [], [1]⟩⟩, ⟨outs_feMuly, []⟩, 60⟩
theorem r_feMuly : runBody Try.prog [T_feMulG, T_feMulGx, T_feMulGy] [] Try.f75 p_feMuly.fuel T_feMuly.args T_feMuly.mem T_feMuly.nin p_feMuly.orc = some p_feMuly.out := by kernel_rfl
theorem good_feMuly (W : World0 Try.prog) : Good W T_feMuly s_feMulG := straightB (l := l_feMuly) (p := p_feMuly) (by exact ⟨good_feMulG W, good_feMulGx W, good_feMulGy W, trivial⟩) Try.func75 Try.call75 r_feMuly (by kernel_rfl) eqF_feMuly

def T_feSq : Tmpl := ⟨76, [.one (.lf (.ptr 1 0)), .one (.lf (.ptr 0 0))], [(us .u64 0 5), [.any, .any, .any, .any, .any]], 5, 5, true, .tup [], [none, some (us .u64 5 5)], []⟩
def p_feSq : Path := ⟨(bs 5 0 4503599627370458), [], ⟨.tup [], [(us .u64 0 5), (us .u64 5 5)], ⟨g_feSq, 10, [.pre 0 (vs 0 5)], [], [1]⟩⟩, ⟨outs_feSq, []⟩, 60⟩
theorem r_feSq : runBody Try.prog [T_feSqG, T_feSqGx] [] Try.f76 p_feSq.fuel T_feSq.args T_feSq.mem T_feSq.nin p_feSq.orc = some p_feSq.out := by kernel_rfl
theorem good_feSq (W : World0 Try.prog) : Good W T_feSq s_feSqG := straightB (l := l_feSq) (p := p_feSq) (by exact ⟨good_feSqG W, good_feSqGx W, trivial⟩) Try.func76 Try.call76 r_feSq (by kernel_rfl) eqF_feSq

def T_feSqx : Tmpl := ⟨76, [.one (.lf (.ptr 0 0)), .one (.lf (.ptr 0 0))], [(us .u64 0 5)], 5, 5, true, .tup [], [some (us .u64 5 5)], []⟩
def p_feSqx : Path := ⟨(bs 5 0 4503599627370458), [], ⟨.tup [], [(us .u64 5 5)], ⟨g_feSqx, 10, [.pre 1 (vs 0 5)], [], [0]⟩⟩, ⟨outs_feSqx, []⟩, 60⟩
theorem r_feSqx : runBody Try.prog [T_feSqG, T_feSqGx] [] Try.f76 p_feSqx.fuel T_feSqx.args T_feSqx.mem T_feSqx.nin p_feSqx.orc = some p_feSqx.out := by kernel_rfl
theorem good_feSqx (W : World0 Try.prog) : Good W T_feSqx s_feSqG := straightB (l := l_feSqx) (p := p_feSqx) (by exact ⟨good_feSqG W, good_feSqGx W, trivial⟩) Try.func76 Try.call76 r_feSqx (by kernel_rfl) eqF_feSqx

def T_Mul : Tmpl := ⟨47, [.one (.lf (.ptr 2 0)), .one (.lf (.ptr 0 0)), .one (.lf (.ptr 1 0))], [(us .u64 0 5), (us .u64 5 5), [.any, .any, .any, .any, .any]], 10, 5, true, .one (.lf (.ptr 2 0)), [none, none, some (us .u64 10 5)], []⟩
def p_Mul : Path := ⟨(bs 10 0 4503599627370458), [], ⟨.one (.lf (.ptr 2 0)), [(us .u64 0 5), (us .u64 5 5), (us .u64 10 5)], ⟨g_Mul, 15, [.pre 0 (vs 0 10)], [], [2]⟩⟩, ⟨outs_Mul, []⟩, 60⟩
theorem r_Mul : runBody Try.prog [T_feMul, T_feMulx, T_feMuly] [] Try.f47 p_Mul.fuel T_Mul.args T_Mul.mem T_Mul.nin p_Mul.orc = some p_Mul.out := by kernel_rfl
theorem good_Mul (W : World0 Try.prog) : Good W T_Mul s_feMulG := straightB (l := l_Mul) (p := p_Mul) (by exact ⟨good_feMul W, good_feMulx W, good_feMuly W, trivial⟩) Try.func47 Try.call47 r_Mul (by kernel_rfl) eqF_feMul

def T_Mulx : Tmpl := ⟨47, [.one (.lf (.ptr 0 0)), .one (.lf (.ptr 0 0)), .one (.lf (.ptr 1 0))], [(us .u64 0 5), (us .u64 5 5)], 10, 5, true, .one (.lf (.ptr 0 0)), [some (us .u64 10 5), none], []⟩
def p_Mulx : Path := ⟨(bs 10 0 4503599627370458), [], ⟨.one (.lf (.ptr 0 0)), [(us .u64 10 5), (us .u64 5 5)], ⟨g_Mulx, 15, [.pre 1 (vs 0 10)], [], [0]⟩⟩, ⟨outs_Mulx, []⟩, 60⟩
theorem r_Mulx : runBody Try.prog [T_feMul, T_feMulx, T_feMuly] [] Try.f47 p_Mulx.fuel T_Mulx.args T_Mulx.mem T_Mulx.nin p_Mulx.orc = some p_Mulx.out := by kernel_rfl
theorem good_Mulx (W : World0 Try.prog) : Good W T_Mulx s_feMulG := straightB (l := l_Mulx) (p := p_Mulx) (by exact ⟨good_feMul W, good_feMulx W, good_feMuly W, trivial⟩) Try.func47 Try.call47 r_Mulx (by kernel_rfl) eqF_feMulx

def T_Muly : Tmpl := ⟨47, [.one (.lf (.ptr 1 0)), .one (.lf (.ptr 0 0)), .one (.lf (.ptr 1 0))], [(us .u64 0 5), (us .u64 5 5)], 10, 5, true, .one (.lf (.ptr 1 0)), [none, some (us .u64 10 5)], []⟩
def p_Muly : Path := ⟨(bs 10 0 4503599627370458), [], ⟨.one (.lf (.ptr 1 0)), [(us .u64 0 5), (us .u64 10 5)], ⟨g_Muly, 15, [.pre 2 (vs 0 10)], [], [1]⟩⟩, ⟨outs_Muly, []⟩, 60⟩
theorem r_Muly : runBody Try.prog [T_feMul, T_feMulx, T_feMuly] [] Try.f47 p_Muly.fuel T_Muly.args T_Muly.mem T_Muly.nin p_Muly.orc = some p_Muly.out := by kernel_rfl
theorem good_Muly (W : World0 Try.prog) : Good W T_Muly s_feMulG := straightB (l := l_Muly) (p := p_Muly) (by exact ⟨good_feMul W, good_feMulx W, good_feMuly W, trivial⟩) Try.func47 Try.call47 r_Muly (by kernel_rfl) eqF_feMuly

def T_Sq : Tmpl := ⟨48, [.one (.lf (.ptr 1 0)), .one (.lf (.ptr 0 0))], [(us .u64 0 5), [.any, .any, .any, .any, .any]], 5, 5, true, .one (.lf (.ptr 1 0)), [none, some (us .u64 5 5)], []⟩
def p_Sq : Path := ⟨(bs 5 0 4503599627370458), [], ⟨.one (.lf (.ptr 1 0)), [(us .u64 0 5), (us .u64 5 5)], ⟨g_Sq, 10, [.pre 0 (vs 0 5)], [], [1]⟩⟩, ⟨outs_Sq, []⟩, 60⟩
theorem r_Sq : runBody Try.prog [T_feSq, T_feSqx] [] Try.f48 p_Sq.fuel T_Sq.args T_Sq.mem T_Sq.nin p_Sq.orc = some p_Sq.out := by kernel_rfl
theorem good_Sq (W : World0 Try.prog) : Good W T_Sq s_feSqG := straightB (l := l_Sq) (p := p_Sq) (by exact ⟨good_feSq W, good_feSqx W, trivial⟩) Try.func48 Try.call48 r_Sq (by kernel_rfl) eqF_feSq

def T_Sqx : Tmpl := ⟨48, [.one (.lf (.ptr 0 0)), .one (.lf (.ptr 0 0))], [(us .u64 0 5)], 5, 5, true, .one (.lf (.ptr 0 0)), [some (us .u64 5 5)], []⟩
def p_Sqx : Path := ⟨(bs 5 0 4503599627370458), [], ⟨.one (.lf (.ptr 0 0)), [(us .u64 5 5)], ⟨g_Sqx, 10, [.pre 1 (vs 0 5)], [], [0]⟩⟩, ⟨outs_Sqx, []⟩, 60⟩
theorem r_Sqx : runBody Try.prog [T_feSq, T_feSqx] [] Try.f48 p_Sqx.fuel T_Sqx.args T_Sqx.mem T_Sqx.nin p_Sqx.orc = some p_Sqx.out := by kernel_rfl
theorem good_Sqx (W : World0 Try.prog) : Good W T_Sqx s_feSqG := straightB (l := l_Sqx) (p := p_Sqx) (by exact ⟨good_feSq W, good_feSqx W, trivial⟩) Try.func48 Try.call48 r_Sqx (by kernel_rfl) eqF_feSqx

end
end Go.X.Y

set_option maxRecDepth 20000
namespace Go.X.Y
open Go.Proofs
noncomputable section
def T_Add : Tmpl := ⟨44, [.one (.lf (.ptr 2 0)), .one (.lf (.ptr 0 0)), .one (.lf (.ptr 1 0))], [(us .u64 0 5), (us .u64 5 5), [.any, .any, .any, .any, .any]], 10, 5, true, .one (.lf (.ptr 2 0)), [none, none, some (us .u64 10 5)], []⟩
def p_Add : Path := ⟨(bs 10 0 4503599627370458), [], ⟨.one (.lf (.ptr 2 0)), [(us .u64 0 5), (us .u64 5 5), (us .u64 15 5)], ⟨g_Add, 20, [.pre 0 (vs 10 5)], [], [2, 2, 2, 2, 2, 2]⟩⟩, ⟨outs_Add, []⟩, 60⟩
theorem r_Add : runBody Try.prog [T_carry] [] Try.f44 p_Add.fuel T_Add.args T_Add.mem T_Add.nin p_Add.orc = some p_Add.out := by kernel_rfl
theorem good_Add (W : World0 Try.prog) : Good W T_Add s_Add := straight (l := l_Add) (p := p_Add) (by exact ⟨good_carry W, trivial⟩) Try.func44 Try.call44 r_Add (by kernel_rfl) rfl

def T_Addx : Tmpl := ⟨44, [.one (.lf (.ptr 0 0)), .one (.lf (.ptr 0 0)), .one (.lf (.ptr 1 0))], [(us .u64 0 5), (us .u64 5 5)], 10, 5, true, .one (.lf (.ptr 0 0)), [some (us .u64 10 5), none], []⟩
def p_Addx : Path := ⟨(bs 10 0 4503599627370458), [], ⟨.one (.lf (.ptr 0 0)), [(us .u64 15 5), (us .u64 5 5)], ⟨g_Addx, 20, [.pre 0 (vs 10 5)], [], [0, 0, 0, 0, 0, 0]⟩⟩, ⟨outs_Addx, []⟩, 60⟩
theorem r_Addx : runBody Try.prog [T_carry] [] Try.f44 p_Addx.fuel T_Addx.args T_Addx.mem T_Addx.nin p_Addx.orc = some p_Addx.out := by kernel_rfl
theorem good_Addx (W : World0 Try.prog) : Good W T_Addx s_Add := straight (l := l_Addx) (p := p_Addx) (by exact ⟨good_carry W, trivial⟩) Try.func44 Try.call44 r_Addx (by kernel_rfl) rfl

def T_Sub : Tmpl := ⟨45, [.one (.lf (.ptr 2 0)), .one (.lf (.ptr 0 0)), .one (.lf (.ptr 1 0))], [(us .u64 0 5), (us .u64 5 5), [.any, .any, .any, .any, .any]], 10, 5, true, .one (.lf (.ptr 2 0)), [none, none, some (us .u64 10 5)], []⟩
def p_Sub : Path := ⟨(bs 10 0 4503599627370458), [], ⟨.one (.lf (.ptr 2 0)), [(us .u64 0 5), (us .u64 5 5), (us .u64 20 5)], ⟨g_Sub, 25, [.pre 0 [(.v 11), (.v 13), (.v 15), (.v 17), (.v 19)]], [], [2, 2, 2, 2, 2, 2]⟩⟩, ⟨outs_Sub, []⟩, 60⟩
theorem r_Sub : runBody Try.prog [T_carry] [] Try.f45 p_Sub.fuel T_Sub.args T_Sub.mem T_Sub.nin p_Sub.orc = some p_Sub.out := by kernel_rfl
theorem good_Sub (W : World0 Try.prog) : Good W T_Sub s_Sub := straight (l := l_Sub) (p := p_Sub) (by exact ⟨good_carry W, trivial⟩) Try.func45 Try.call45 r_Sub (by kernel_rfl) rfl

def T_Subx : Tmpl := ⟨45, [.one (.lf (.ptr 0 0)), .one (.lf (.ptr 0 0)), .one (.lf (.ptr 1 0))], [(us .u64 0 5), (us .u64 5 5)], 10, 5, true, .one (.lf (.ptr 0 0)), [some (us .u64 10 5), none], []⟩
def p_Subx : Path := ⟨(bs 10 0 4503599627370458), [], ⟨.one (.lf (.ptr 0 0)), [(us .u64 20 5), (us .u64 5 5)], ⟨g_Subx, 25, [.pre 0 [(.v 11), (.v 13), (.v 15), (.v 17), (.v 19)]], [], [0, 0, 0, 0, 0, 0]⟩⟩, ⟨outs_Subx, []⟩, 60⟩
theorem r_Subx : runBody Try.prog [T_carry] [] Try.f45 p_Subx.fuel T_Subx.args T_Subx.mem T_Subx.nin p_Subx.orc = some p_Subx.out := by kernel_rfl
theorem good_Subx (W : World0 Try.prog) : Good W T_Subx s_Sub := straight (l := l_Subx) (p := p_Subx) (by exact ⟨good_carry W, trivial⟩) Try.func45 Try.call45 r_Subx (by kernel_rfl) rfl

def T_feZero : Tmpl := ⟨74, [], [], 0, 0, true, .one (.lf (.ptr 0 0)), [], [[.int .u64 (.l 0), .int .u64 (.l 0), .int .u64 (.l 0), .int .u64 (.l 0), .int .u64 (.l 0)]]⟩
def p_feZero : Path := ⟨[], [], ⟨.one (.lf (.ptr 0 0)), [[.int .u64 (.l 0), .int .u64 (.l 0), .int .u64 (.l 0), .int .u64 (.l 0), .int .u64 (.l 0)]], ⟨g_feZero, 0, [], [], []⟩⟩, ⟨outs_feZero, [0]⟩, 60⟩
theorem r_feZero : runBody Try.prog [] [] Try.f74 p_feZero.fuel T_feZero.args T_feZero.mem T_feZero.nin p_feZero.orc = some p_feZero.out := by kernel_rfl
theorem good_feZero (W : World0 Try.prog) : Good W T_feZero s_feZero := straight (l := l_feZero) (p := p_feZero) (by exact trivial) Try.func74 Try.call74 r_feZero (by kernel_rfl) rfl

def T_feOne_ : Tmpl := ⟨99, [], [], 0, 0, true, .one (.lf (.ptr 0 0)), [], [[.int .u64 (.l 1), .int .u64 (.l 0), .int .u64 (.l 0), .int .u64 (.l 0), .int .u64 (.l 0)]]⟩
def p_feOne_ : Path := ⟨[], [], ⟨.one (.lf (.ptr 0 0)), [[.int .u64 (.l 1), .int .u64 (.l 0), .int .u64 (.l 0), .int .u64 (.l 0), .int .u64 (.l 0)]], ⟨g_feOne_, 0, [], [], []⟩⟩, ⟨outs_feOne_, [0]⟩, 60⟩
theorem r_feOne_ : runBody Try.prog [] [] Try.f99 p_feOne_.fuel T_feOne_.args T_feOne_.mem T_feOne_.nin p_feOne_.orc = some p_feOne_.out := by kernel_rfl
theorem good_feOne_ (W : World0 Try.prog) : Good W T_feOne_ s_feOne_ := straight (l := l_feOne_) (p := p_feOne_) (by exact trivial) Try.func99 Try.call99 r_feOne_ (by kernel_rfl) rfl

def T_Neg : Tmpl := ⟨46, [.one (.lf (.ptr 1 0)), .one (.lf (.ptr 0 0))], [(us .u64 0 5), [.any, .any, .any, .any, .any]], 5, 5, true, .one (.lf (.ptr 1 0)), [none, some (us .u64 5 5)], []⟩
def p_Neg : Path := ⟨(bs 5 0 4503599627370458), [], ⟨.one (.lf (.ptr 1 0)), [(us .u64 0 5), (us .u64 5 5), [.int .u64 (.l 0), .int .u64 (.l 0), .int .u64 (.l 0), .int .u64 (.l 0), .int .u64 (.l 0)]], ⟨g_Neg, 10, [.pre 0 ((ls 0 5) ++ (vs 0 5)), .pre 2 []], [], [1]⟩⟩, ⟨outs_Neg, []⟩, 60⟩
theorem r_Neg : runBody Try.prog [T_Sub, T_Subx, T_feZero] [] Try.f46 p_Neg.fuel T_Neg.args T_Neg.mem T_Neg.nin p_Neg.orc = some p_Neg.out := by kernel_rfl
theorem good_Neg (W : World0 Try.prog) : Good W T_Neg s_Neg := straight (l := l_Neg) (p := p_Neg) (by exact ⟨good_Sub W, good_Subx W, good_feZero W, trivial⟩) Try.func46 Try.call46 r_Neg (by kernel_rfl) rfl

def T_One : Tmpl := ⟨82, [.one (.lf (.ptr 0 0))], [[.any, .any, .any, .any, .any]], 0, 0, true, .one (.lf (.ptr 0 0)), [some [.int .u64 (.l 1), .int .u64 (.l 0), .int .u64 (.l 0), .int .u64 (.l 0), .int .u64 (.l 0)]], []⟩
def p_One : Path := ⟨[], [], ⟨.one (.lf (.ptr 0 0)), [[.int .u64 (.l 1), .int .u64 (.l 0), .int .u64 (.l 0), .int .u64 (.l 0), .int .u64 (.l 0)], [.int .u64 (.l 1), .int .u64 (.l 0), .int .u64 (.l 0), .int .u64 (.l 0), .int .u64 (.l 0)]], ⟨g_One, 0, [.pre 0 []], [], [0]⟩⟩, ⟨outs_One, []⟩, 60⟩
theorem r_One : runBody Try.prog [T_feOne_] [] Try.f82 p_One.fuel T_One.args T_One.mem T_One.nin p_One.orc = some p_One.out := by kernel_rfl
theorem good_One (W : World0 Try.prog) : Good W T_One s_One := straight (l := l_One) (p := p_One) (by exact ⟨good_feOne_ W, trivial⟩) Try.func82 Try.call82 r_One (by kernel_rfl) rfl

def T_Set : Tmpl := ⟨81, [.one (.lf (.ptr 1 0)), .one (.lf (.ptr 0 0))], [(us .u64 0 5), [.any, .any, .any, .any, .any]], 5, 0, true, .one (.lf (.ptr 1 0)), [none, some (us .u64 0 5)], []⟩
def p_Set : Path := ⟨(bs 5 0 4503599627370458), [], ⟨.one (.lf (.ptr 1 0)), [(us .u64 0 5), (us .u64 0 5)], ⟨g_Set, 5, [], [], [1]⟩⟩, ⟨outs_Set, []⟩, 60⟩
theorem r_Set : runBody Try.prog [] [] Try.f81 p_Set.fuel T_Set.args T_Set.mem T_Set.nin p_Set.orc = some p_Set.out := by kernel_rfl
theorem good_Set (W : World0 Try.prog) : Good W T_Set s_Set := straight (l := l_Set) (p := p_Set) (by exact trivial) Try.func81 Try.call81 r_Set (by kernel_rfl) rfl

def T_mask : Tmpl := ⟨91, [.one (.lf (.int .i64 (.v 0)))], [], 1, 1, true, .one (.lf (.int .u64 (.v 1))), [], []⟩
def p_mask : Path := ⟨[(0, 1)], [], ⟨.one (.lf (.int .u64 (.v 3))), [], ⟨g_mask, 4, [], [], []⟩⟩, ⟨outs_mask, []⟩, 60⟩
theorem r_mask : runBody Try.prog [] [] Try.f91 p_mask.fuel T_mask.args T_mask.mem T_mask.nin p_mask.orc = some p_mask.out := by kernel_rfl
theorem good_mask (W : World0 Try.prog) : Good W T_mask s_mask := straight (l := l_mask) (p := p_mask) (by exact trivial) Try.func91 Try.call91 r_mask (by kernel_rfl) rfl

def T_Sel : Tmpl := ⟨69, [.one (.lf (.ptr 2 0)), .one (.lf (.ptr 0 0)), .one (.lf (.ptr 1 0)), .one (.lf (.int .i64 (.v 10)))], [(us .u64 0 5), (us .u64 5 5), [.any, .any, .any, .any, .any]], 11, 5, true, .one (.lf (.ptr 2 0)), [none, none, some (us .u64 11 5)], []⟩
def p_Sel : Path := ⟨((bs 10 0 4503599627370458) ++ [(0, 1)]), [], ⟨.one (.lf (.ptr 2 0)), [(us .u64 0 5), (us .u64 5 5), [.int .u64 (.v 15), .int .u64 (.v 19), .int .u64 (.v 23), .int .u64 (.v 27), .int .u64 (.v 31)]], ⟨g_Sel, 32, [.pre 0 [(.v 10)]], [], [2, 2, 2, 2, 2]⟩⟩, ⟨outs_Sel, []⟩, 60⟩
theorem r_Sel : runBody Try.prog [T_mask] [] Try.f69 p_Sel.fuel T_Sel.args T_Sel.mem T_Sel.nin p_Sel.orc = some p_Sel.out := by kernel_rfl
theorem good_Sel (W : World0 Try.prog) : Good W T_Sel s_Sel := Good.swap (s := s_Sel0) (straight (l := l_Sel) (p := p_Sel) (by exact ⟨good_mask W, trivial⟩) Try.func69 Try.call69 r_Sel (by kernel_rfl) rfl) rfl rfl eq_Sel

def T_Sely : Tmpl := ⟨69, [.one (.lf (.ptr 1 0)), .one (.lf (.ptr 0 0)), .one (.lf (.ptr 1 0)), .one (.lf (.int .i64 (.v 10)))], [(us .u64 0 5), (us .u64 5 5)], 11, 5, true, .one (.lf (.ptr 1 0)), [none, some (us .u64 11 5)], []⟩
def p_Sely : Path := ⟨((bs 10 0 4503599627370458) ++ [(0, 1)]), [], ⟨.one (.lf (.ptr 1 0)), [(us .u64 0 5), [.int .u64 (.v 15), .int .u64 (.v 19), .int .u64 (.v 23), .int .u64 (.v 27), .int .u64 (.v 31)]], ⟨g_Sely, 32, [.pre 0 [(.v 10)]], [], [1, 1, 1, 1, 1]⟩⟩, ⟨outs_Sely, []⟩, 60⟩
theorem r_Sely : runBody Try.prog [T_mask] [] Try.f69 p_Sely.fuel T_Sely.args T_Sely.mem T_Sely.nin p_Sely.orc = some p_Sely.out := by kernel_rfl
theorem good_Sely (W : World0 Try.prog) : Good W T_Sely s_Sel := Good.swap (s := s_Sel0) (straight (l := l_Sely) (p := p_Sely) (by exact ⟨good_mask W, trivial⟩) Try.func69 Try.call69 r_Sely (by kernel_rfl) rfl) rfl rfl eq_Sel

def T_reduce : Tmpl := ⟨93, [.one (.lf (.ptr 0 0))], [(us .u64 0 5)], 5, 5, true, .one (.lf (.ptr 0 0)), [some (us .u64 5 5)], []⟩
def p_reduce : Path := ⟨(bs 5 0 4503599627370458), [], ⟨.one (.lf (.ptr 0 0)), [[.int .u64 (.v 24), .int .u64 (.v 27), .int .u64 (.v 30), .int .u64 (.v 33), .int .u64 (.v 34)]], ⟨g_reduce, 35, [.pre 0 (vs 0 5)], [], [0, 0, 0, 0, 0, 0, 0, 0, 0, 0, 0]⟩⟩, ⟨outs_reduce, []⟩, 60⟩
theorem r_reduce : runBody Try.prog [T_carry] [] Try.f93 p_reduce.fuel T_reduce.args T_reduce.mem T_reduce.nin p_reduce.orc = some p_reduce.out := by kernel_rfl
theorem good_reduce (W : World0 Try.prog) : Good W T_reduce s_reduce := straight (l := l_reduce) (p := p_reduce) (by exact ⟨good_carry W, trivial⟩) Try.func93 Try.call93 r_reduce (by kernel_rfl) rfl

def T_put32 : Tmpl := ⟨94, [.one (.lf (.slc 0 0 32 none)), .one (.lf (.int .u64 (.v 0)))], [[.any, .any, .any, .any, .any, .any, .any, .any]], 1, 8, true, .tup [], [some (us .u8 1 8)], []⟩
def p_put32 : Path := ⟨[(0, 18446744073709551615)], [], ⟨.tup [], [[.int .u8 (.v 2), .int .u8 (.v 4), .int .u8 (.v 6), .int .u8 (.v 8), .int .u8 (.v 10), .int .u8 (.v 12), .int .u8 (.v 14), .int .u8 (.v 16)]], ⟨g_put32, 17, [], [], [0, 0, 0, 0, 0, 0, 0, 0]⟩⟩, ⟨outs_put32, []⟩, 60⟩
theorem r_put32 : runBody Try.prog [] [] Try.f94 p_put32.fuel T_put32.args T_put32.mem T_put32.nin p_put32.orc = some p_put32.out := by kernel_rfl
theorem good_put32 (W : World0 Try.prog) : Good W T_put32 s_put32 := straight (l := l_put32) (p := p_put32) (by exact trivial) Try.func94 Try.call94 r_put32 (by kernel_rfl) rfl

def T_put24 : Tmpl := ⟨94, [.one (.lf (.slc 0 0 24 none)), .one (.lf (.int .u64 (.v 0)))], [[.any, .any, .any, .any, .any, .any, .any, .any]], 1, 8, true, .tup [], [some (us .u8 1 8)], []⟩
def p_put24 : Path := ⟨[(0, 18446744073709551615)], [], ⟨.tup [], [[.int .u8 (.v 2), .int .u8 (.v 4), .int .u8 (.v 6), .int .u8 (.v 8), .int .u8 (.v 10), .int .u8 (.v 12), .int .u8 (.v 14), .int .u8 (.v 16)]], ⟨g_put24, 17, [], [], [0, 0, 0, 0, 0, 0, 0, 0]⟩⟩, ⟨outs_put24, []⟩, 60⟩
theorem r_put24 : runBody Try.prog [] [] Try.f94 p_put24.fuel T_put24.args T_put24.mem T_put24.nin p_put24.orc = some p_put24.out := by kernel_rfl
theorem good_put24 (W : World0 Try.prog) : Good W T_put24 s_put32 := straight (l := l_put24) (p := p_put24) (by exact trivial) Try.func94 Try.call94 r_put24 (by kernel_rfl) rfl

def T_put16 : Tmpl := ⟨94, [.one (.lf (.slc 0 0 16 none)), .one (.lf (.int .u64 (.v 0)))], [[.any, .any, .any, .any, .any, .any, .any, .any]], 1, 8, true, .tup [], [some (us .u8 1 8)], []⟩
def p_put16 : Path := ⟨[(0, 18446744073709551615)], [], ⟨.tup [], [[.int .u8 (.v 2), .int .u8 (.v 4), .int .u8 (.v 6), .int .u8 (.v 8), .int .u8 (.v 10), .int .u8 (.v 12), .int .u8 (.v 14), .int .u8 (.v 16)]], ⟨g_put16, 17, [], [], [0, 0, 0, 0, 0, 0, 0, 0]⟩⟩, ⟨outs_put16, []⟩, 60⟩
theorem r_put16 : runBody Try.prog [] [] Try.f94 p_put16.fuel T_put16.args T_put16.mem T_put16.nin p_put16.orc = some p_put16.out := by kernel_rfl
theorem good_put16 (W : World0 Try.prog) : Good W T_put16 s_put32 := straight (l := l_put16) (p := p_put16) (by exact trivial) Try.func94 Try.call94 r_put16 (by kernel_rfl) rfl

def T_put8 : Tmpl := ⟨94, [.one (.lf (.slc 0 0 8 none)), .one (.lf (.int .u64 (.v 0)))], [[.any, .any, .any, .any, .any, .any, .any, .any]], 1, 8, true, .tup [], [some (us .u8 1 8)], []⟩
def p_put8 : Path := ⟨[(0, 18446744073709551615)], [], ⟨.tup [], [[.int .u8 (.v 2), .int .u8 (.v 4), .int .u8 (.v 6), .int .u8 (.v 8), .int .u8 (.v 10), .int .u8 (.v 12), .int .u8 (.v 14), .int .u8 (.v 16)]], ⟨g_put8, 17, [], [], [0, 0, 0, 0, 0, 0, 0, 0]⟩⟩, ⟨outs_put8, []⟩, 60⟩
theorem r_put8 : runBody Try.prog [] [] Try.f94 p_put8.fuel T_put8.args T_put8.mem T_put8.nin p_put8.orc = some p_put8.out := by kernel_rfl
theorem good_put8 (W : World0 Try.prog) : Good W T_put8 s_put32 := straight (l := l_put8) (p := p_put8) (by exact trivial) Try.func94 Try.call94 r_put8 (by kernel_rfl) rfl

end
end Go.X.Y

set_option maxRecDepth 20000
namespace Go.X.Y
open Go.Proofs
noncomputable section
def T_bytes_ : Tmpl := ⟨71, [.one (.lf (.ptr 0 0)), .one (.lf (.ptr 1 0))], [(us .u64 0 5), [.any, .any, .any, .any, .any, .any, .any, .any, .any, .any, .any, .any, .any, .any, .any, .any, .any, .any, .any, .any, .any, .any, .any, .any, .any, .any, .any, .any, .any, .any, .any, .any]], 5, 32, true, .one (.lf (.slc 1 0 32 (some 32))), [none, some (us .u8 5 32)], []⟩
def p_bytes_ : Path := ⟨(bs 5 0 4503599627370458), [], ⟨.one (.lf (.slc 1 0 32 (some 32))), [(us .u64 0 5), (us .u8 21 32), (us .u64 5 5)], ⟨g_bytes_, 53, [.pre 4 [(.v 20)], .pre 3 [(.v 17)], .pre 2 [(.v 14)], .pre 1 [(.v 11)], .pre 0 (vs 0 5)], [], [1, 1, 1, 1, 2, 2]⟩⟩, ⟨outs_bytes_, []⟩, 60⟩
theorem r_bytes_ : runBody Try.prog [T_reduce, T_put32, T_put24, T_put16, T_put8] [] Try.f71 p_bytes_.fuel T_bytes_.args T_bytes_.mem T_bytes_.nin p_bytes_.orc = some p_bytes_.out := by kernel_rfl
theorem good_bytes_ (W : World0 Try.prog) : Good W T_bytes_ s_bytes_ := straight (l := l_bytes_) (p := p_bytes_) (by exact ⟨good_reduce W, good_put32 W, good_put24 W, good_put16 W, good_put8 W, trivial⟩) Try.func71 Try.call71 r_bytes_ (by kernel_rfl) rfl

def T_Bytes : Tmpl := ⟨35, [.one (.lf (.ptr 0 0))], [(us .u64 0 5)], 5, 32, true, .one (.lf (.slc 1 0 32 (some 32))), [none], [(us .u8 5 32)]⟩
def p_Bytes : Path := ⟨(bs 5 0 4503599627370458), [], ⟨.one (.lf (.slc 1 0 32 (some 32))), [(us .u64 0 5), (us .u8 5 32)], ⟨g_Bytes, 37, [.pre 0 (vs 0 5)], [], [1]⟩⟩, ⟨outs_Bytes, [1]⟩, 60⟩
theorem r_Bytes : runBody Try.prog [T_bytes_] [] Try.f35 p_Bytes.fuel T_Bytes.args T_Bytes.mem T_Bytes.nin p_Bytes.orc = some p_Bytes.out := by kernel_rfl
theorem good_Bytes (W : World0 Try.prog) : Good W T_Bytes s_Bytes := straight (l := l_Bytes) (p := p_Bytes) (by exact ⟨good_bytes_ W, trivial⟩) Try.func35 Try.call35 r_Bytes (by kernel_rfl) rfl

def T_le64 : Tmpl := ⟨92, [.one (.lf (.slc 0 0 8 none))], [(us .u8 0 8)], 8, 1, true, .one (.lf (.int .u64 (.v 8))), [none], []⟩
def p_le64 : Path := ⟨(bs 8 0 255), [], ⟨.one (.lf (.int .u64 (.v 30))), [(us .u8 0 8)], ⟨g_le64, 31, [], [], []⟩⟩, ⟨outs_le64, []⟩, 60⟩
theorem r_le64 : runBody Try.prog [] [] Try.f92 p_le64.fuel T_le64.args T_le64.mem T_le64.nin p_le64.orc = some p_le64.out := by kernel_rfl
theorem good_le64 (W : World0 Try.prog) : Good W T_le64 s_le64 := straight (l := l_le64) (p := p_le64) (by exact trivial) Try.func92 Try.call92 r_le64 (by kernel_rfl) rfl

def T_SetBytes : Tmpl := ⟨70, [.one (.lf (.ptr 1 0)), .one (.lf (.slc 0 0 32 none))], [(us .u8 0 32), [.any, .any, .any, .any, .any]], 32, 5, true, .tup [.lf (.ptr 1 0), .lf (.cst .nilIface)], [none, some (us .u64 32 5)], []⟩
def p_SetBytes : Path := ⟨(bs 32 0 255), [], ⟨.tup [.lf (.ptr 1 0), .lf (.cst .nilIface)], [(us .u8 0 32), [.int .u64 (.v 33), .int .u64 (.v 36), .int .u64 (.v 39), .int .u64 (.v 42), .int .u64 (.v 45)]], ⟨g_SetBytes, 46, [.pre 0 (vs 24 8), .pre 0 (vs 19 8), .pre 0 (vs 12 8), .pre 0 (vs 6 8), .pre 0 (vs 0 8)], [], [1, 1, 1, 1, 1, 1, 1, 1, 1, 1]⟩⟩, ⟨outs_SetBytes, []⟩, 60⟩
theorem r_SetBytes : runBody Try.prog [T_le64] [] Try.f70 p_SetBytes.fuel T_SetBytes.args T_SetBytes.mem T_SetBytes.nin p_SetBytes.orc = some p_SetBytes.out := by kernel_rfl
theorem good_SetBytes (W : World0 Try.prog) : Good W T_SetBytes s_SetBytes := straight (l := l_SetBytes) (p := p_SetBytes) (by exact ⟨good_le64 W, trivial⟩) Try.func70 Try.call70 r_SetBytes (by kernel_rfl) rfl

def T_IsNeg : Tmpl := ⟨52, [.one (.lf (.ptr 0 0))], [(us .u64 0 5)], 5, 1, true, .one (.lf (.int .i64 (.v 5))), [none], []⟩
def p_IsNeg : Path := ⟨(bs 5 0 4503599627370458), [], ⟨.one (.lf (.int .i64 (.v 38))), [(us .u64 0 5), (us .u8 5 32)], ⟨g_IsNeg, 39, [.pre 0 (vs 0 5)], [], []⟩⟩, ⟨outs_IsNeg, []⟩, 60⟩
theorem r_IsNeg : runBody Try.prog [T_Bytes] [] Try.f52 p_IsNeg.fuel T_IsNeg.args T_IsNeg.mem T_IsNeg.nin p_IsNeg.orc = some p_IsNeg.out := by kernel_rfl
theorem good_IsNeg (W : World0 Try.prog) : Good W T_IsNeg s_IsNeg := straight (l := l_IsNeg) (p := p_IsNeg) (by exact ⟨good_Bytes W, trivial⟩) Try.func52 Try.call52 r_IsNeg (by kernel_rfl) rfl

def T_Abs : Tmpl := ⟨51, [.one (.lf (.ptr 1 0)), .one (.lf (.ptr 0 0))], [(us .u64 0 5), [.any, .any, .any, .any, .any]], 5, 5, true, .one (.lf (.ptr 1 0)), [none, some (us .u64 5 5)], []⟩
def p_Abs : Path := ⟨(bs 5 0 4503599627370458), [], ⟨.one (.lf (.ptr 1 0)), [(us .u64 0 5), (us .u64 11 5), (us .u64 5 5)], ⟨g_Abs, 16, [.pre 1 ((vs 5 5) ++ (vs 0 5) ++ [(.v 10)]), .pre 3 (vs 0 5), .pre 0 (vs 0 5)], [], [1, 2]⟩⟩, ⟨outs_Abs, []⟩, 60⟩
theorem r_Abs : runBody Try.prog [T_Neg, T_Sel, T_Sely, T_IsNeg] [] Try.f51 p_Abs.fuel T_Abs.args T_Abs.mem T_Abs.nin p_Abs.orc = some p_Abs.out := by kernel_rfl
theorem good_Abs (W : World0 Try.prog) : Good W T_Abs s_Abs := straight (l := l_Abs) (p := p_Abs) (by exact ⟨good_Neg W, good_Sel W, good_Sely W, good_IsNeg W, trivial⟩) Try.func51 Try.call51 r_Abs (by kernel_rfl) rfl

def T_sqrtM1 : Tmpl := ⟨68, [], [], 0, 0, true, .one (.lf (.ptr 0 0)), [], [[.int .u64 (.l 1718705420411056), .int .u64 (.l 234908883556509), .int .u64 (.l 2233514472574048), .int .u64 (.l 2117202627021982), .int .u64 (.l 765476049583133)]]⟩
def p_sqrtM1 : Path := ⟨[], [], ⟨.one (.lf (.ptr 0 0)), [[.int .u64 (.l 1718705420411056), .int .u64 (.l 234908883556509), .int .u64 (.l 2233514472574048), .int .u64 (.l 2117202627021982), .int .u64 (.l 765476049583133)]], ⟨g_sqrtM1, 0, [], [], []⟩⟩, ⟨outs_sqrtM1, [0]⟩, 60⟩
theorem r_sqrtM1 : runBody Try.prog [] [] Try.f68 p_sqrtM1.fuel T_sqrtM1.args T_sqrtM1.mem T_sqrtM1.nin p_sqrtM1.orc = some p_sqrtM1.out := by kernel_rfl
theorem good_sqrtM1 (W : World0 Try.prog) : Good W T_sqrtM1 s_sqrtM1 := straight (l := l_sqrtM1) (p := p_sqrtM1) (by exact trivial) Try.func68 Try.call68 r_sqrtM1 (by kernel_rfl) rfl

end
end Go.X.Y

set_option maxRecDepth 20000
namespace Go.X.Y
open Go.Proofs
noncomputable section
def T_element : Tmpl := ⟨34, [.one (.lf (.slc 0 0 32 none))], [(us .u8 0 32)], 32, 5, true, .one (.lf (.ptr 1 0)), [none], [(us .u64 32 5)]⟩
def p_element : Path := ⟨(bs 32 0 255), [], ⟨.one (.lf (.ptr 1 0)), [(us .u8 0 32), (us .u64 32 5)], ⟨g_element, 37, [.pre 0 (vs 0 32)], [], [1]⟩⟩, ⟨outs_element, [1]⟩, 60⟩
theorem r_element : runBody Try.prog [T_SetBytes] [] Try.f34 p_element.fuel T_element.args T_element.mem T_element.nin p_element.orc = some p_element.out := by kernel_rfl
theorem good_element (W : World0 Try.prog) : Good W T_element s_element := straight (l := l_element) (p := p_element) (by exact ⟨good_SetBytes W, trivial⟩) Try.func34 Try.call34 r_element (by kernel_rfl) rfl

def T_Plus : Tmpl := ⟨38, [.one (.agg (us .u32 0 16)), .one (.agg (us .u32 16 16))], [], 32, 16, true, .one (.agg (us .u32 32 16)), [], []⟩
def p_Plus : Path := ⟨(bs 32 0 4294967295), [], ⟨.one (.agg [.int .u32 (.v 36), .int .u32 (.v 42), .int .u32 (.v 48), .int .u32 (.v 54), .int .u32 (.v 60), .int .u32 (.v 66), .int .u32 (.v 72), .int .u32 (.v 78), .int .u32 (.v 84), .int .u32 (.v 90), .int .u32 (.v 96), .int .u32 (.v 102), .int .u32 (.v 108), .int .u32 (.v 114), .int .u32 (.v 120), .int .u32 (.v 126)]), [[.int .u32 (.v 36), .int .u32 (.v 42), .int .u32 (.v 48), .int .u32 (.v 54), .int .u32 (.v 60), .int .u32 (.v 66), .int .u32 (.v 72), .int .u32 (.v 78), .int .u32 (.v 84), .int .u32 (.v 90), .int .u32 (.v 96), .int .u32 (.v 102), .int .u32 (.v 108), .int .u32 (.v 114), .int .u32 (.v 120), .int .u32 (.v 126)], (us .u32 16 16), [.int .u32 (.v 36), .int .u32 (.v 42), .int .u32 (.v 48), .int .u32 (.v 54), .int .u32 (.v 60), .int .u32 (.v 66), .int .u32 (.v 72), .int .u32 (.v 78), .int .u32 (.v 84), .int .u32 (.v 90), .int .u32 (.v 96), .int .u32 (.v 102), .int .u32 (.v 108), .int .u32 (.v 114), .int .u32 (.v 120), .int .u32 (.v 126)]], ⟨g_Plus, 128, [], [], [2, 0, 0, 0, 0, 0, 0, 0, 0, 0, 0, 0, 0, 0, 0, 0, 0]⟩⟩, ⟨outs_Plus, []⟩, 200⟩
theorem r_Plus : runBody Try.prog [] [] Try.f38 p_Plus.fuel T_Plus.args T_Plus.mem T_Plus.nin p_Plus.orc = some p_Plus.out := by kernel_rfl
theorem good_Plus (W : World0 Try.prog) : Good W T_Plus s_Plus := straight (l := l_Plus) (p := p_Plus) (by exact trivial) Try.func38 Try.call38 r_Plus (by kernel_rfl) rfl

def T_Minus : Tmpl := ⟨54, [.one (.agg (us .u32 0 16)), .one (.agg (us .u32 16 16))], [], 32, 16, true, .one (.agg (us .u32 32 16)), [], []⟩
def p_Minus : Path := ⟨(bs 32 0 4294967295), [], ⟨.one (.agg [.int .u32 (.v 36), .int .u32 (.v 42), .int .u32 (.v 48), .int .u32 (.v 54), .int .u32 (.v 60), .int .u32 (.v 66), .int .u32 (.v 72), .int .u32 (.v 78), .int .u32 (.v 84), .int .u32 (.v 90), .int .u32 (.v 96), .int .u32 (.v 102), .int .u32 (.v 108), .int .u32 (.v 114), .int .u32 (.v 120), .int .u32 (.v 126)]), [[.int .u32 (.v 36), .int .u32 (.v 42), .int .u32 (.v 48), .int .u32 (.v 54), .int .u32 (.v 60), .int .u32 (.v 66), .int .u32 (.v 72), .int .u32 (.v 78), .int .u32 (.v 84), .int .u32 (.v 90), .int .u32 (.v 96), .int .u32 (.v 102), .int .u32 (.v 108), .int .u32 (.v 114), .int .u32 (.v 120), .int .u32 (.v 126)], (us .u32 16 16), [.int .u32 (.v 36), .int .u32 (.v 42), .int .u32 (.v 48), .int .u32 (.v 54), .int .u32 (.v 60), .int .u32 (.v 66), .int .u32 (.v 72), .int .u32 (.v 78), .int .u32 (.v 84), .int .u32 (.v 90), .int .u32 (.v 96), .int .u32 (.v 102), .int .u32 (.v 108), .int .u32 (.v 114), .int .u32 (.v 120), .int .u32 (.v 126)]], ⟨g_Minus, 128, [], [], [2, 0, 0, 0, 0, 0, 0, 0, 0, 0, 0, 0, 0, 0, 0, 0, 0]⟩⟩, ⟨outs_Minus, []⟩, 200⟩
theorem r_Minus : runBody Try.prog [] [] Try.f54 p_Minus.fuel T_Minus.args T_Minus.mem T_Minus.nin p_Minus.orc = some p_Minus.out := by kernel_rfl
theorem good_Minus (W : World0 Try.prog) : Good W T_Minus s_Minus := straight (l := l_Minus) (p := p_Minus) (by exact trivial) Try.func54 Try.call54 r_Minus (by kernel_rfl) rfl

def T_Times : Tmpl := ⟨32, [.one (.agg (us .u32 0 16)), .one (.agg (us .u32 16 16))], [], 32, 16, true, .one (.agg (us .u32 32 16)), [], []⟩
def p_Times : Path := ⟨(bs 32 0 4294967295), [], ⟨.one (.agg [.int .u32 (.v 37), .int .u32 (.v 95), .int .u32 (.v 160), .int .u32 (.v 225), .int .u32 (.v 290), .int .u32 (.v 355), .int .u32 (.v 420), .int .u32 (.v 485), .int .u32 (.v 493), .int .u32 (.v 501), .int .u32 (.v 509), .int .u32 (.v 517), .int .u32 (.v 525), .int .u32 (.v 533), .int .u32 (.v 541), .int .u32 (.v 543)]), [(us .u32 0 16), (us .u32 16 16), [.int .u32 (.v 37), .int .u32 (.v 95), .int .u32 (.v 160), .int .u32 (.v 225), .int .u32 (.v 290), .int .u32 (.v 355), .int .u32 (.v 420), .int .u32 (.v 485), .int .u32 (.v 493), .int .u32 (.v 501), .int .u32 (.v 509), .int .u32 (.v 517), .int .u32 (.v 525), .int .u32 (.v 533), .int .u32 (.v 541), .int .u32 (.v 543)], [.int .u32 (.v 37), .int .u32 (.v 95), .int .u32 (.v 160), .int .u32 (.v 225), .int .u32 (.v 290), .int .u32 (.v 355), .int .u32 (.v 420), .int .u32 (.v 485), .int .u32 (.v 493), .int .u32 (.v 501), .int .u32 (.v 509), .int .u32 (.v 517), .int .u32 (.v 525), .int .u32 (.v 533), .int .u32 (.v 541), .int .u32 (.v 543)]], ⟨g_Times, 544, [], [], [2, 3, 3, 3, 3, 3, 3, 3, 3, 3, 3, 3, 3, 3, 3, 3, 3, 3, 3, 3, 3, 3, 3, 3, 3, 3, 3, 3, 3, 3, 3, 3, 3, 3, 3, 3, 3, 3, 3, 3, 3, 3, 3, 3, 3, 3, 3, 3, 3, 3, 3, 3, 3, 3, 3, 3, 3, 3, 3, 3, 3, 3, 3, 3, 3, 3, 3, 3, 3, 3, 3, 3, 3]⟩⟩, ⟨outs_Times, []⟩, 200⟩
theorem r_Times : runBody Try.prog [] [] Try.f32 p_Times.fuel T_Times.args T_Times.mem T_Times.nin p_Times.orc = some p_Times.out := by kernel_rfl
theorem good_Times (W : World0 Try.prog) : Good W T_Times s_Times := straight (l := l_Times) (p := p_Times) (by exact trivial) Try.func32 Try.call32 r_Times (by kernel_rfl) rfl

def T_NBytes : Tmpl := ⟨12, [.one (.agg (us .u32 0 16))], [], 16, 32, true, .one (.lf (.slc 0 0 32 (some 32))), [], [(us .u8 16 32)]⟩
def p_NBytes : Path := ⟨(bs 16 0 4294967295), [], ⟨.one (.lf (.slc 1 0 32 (some 32))), [(us .u32 0 16), [.int .u8 (.v 17), .int .u8 (.v 19), .int .u8 (.v 21), .int .u8 (.v 23), .int .u8 (.v 25), .int .u8 (.v 27), .int .u8 (.v 29), .int .u8 (.v 31), .int .u8 (.v 33), .int .u8 (.v 35), .int .u8 (.v 37), .int .u8 (.v 39), .int .u8 (.v 41), .int .u8 (.v 43), .int .u8 (.v 45), .int .u8 (.v 47), .int .u8 (.v 49), .int .u8 (.v 51), .int .u8 (.v 53), .int .u8 (.v 55), .int .u8 (.v 57), .int .u8 (.v 59), .int .u8 (.v 61), .int .u8 (.v 63), .int .u8 (.v 65), .int .u8 (.v 67), .int .u8 (.v 69), .int .u8 (.v 71), .int .u8 (.v 73), .int .u8 (.v 75), .int .u8 (.v 77), .int .u8 (.v 79)]], ⟨g_NBytes, 80, [], [], [1, 1, 1, 1, 1, 1, 1, 1, 1, 1, 1, 1, 1, 1, 1, 1, 1, 1, 1, 1, 1, 1, 1, 1, 1, 1, 1, 1, 1, 1, 1, 1]⟩⟩, ⟨outs_NBytes, [1]⟩, 200⟩
theorem r_NBytes : runBody Try.prog [] [] Try.f12 p_NBytes.fuel T_NBytes.args T_NBytes.mem T_NBytes.nin p_NBytes.orc = some p_NBytes.out := by kernel_rfl
theorem good_NBytes (W : World0 Try.prog) : Good W T_NBytes s_NBytes := straight (l := l_NBytes) (p := p_NBytes) (by exact trivial) Try.func12 Try.call12 r_NBytes (by kernel_rfl) rfl

def T_Of32 : Tmpl := ⟨7, [.one (.lf (.slc 0 0 32 none))], [(us .u8 0 32)], 32, 8, true, .one (.agg ((us .u32 32 8) ++ [.int .u32 (.l 0), .int .u32 (.l 0), .int .u32 (.l 0), .int .u32 (.l 0), .int .u32 (.l 0), .int .u32 (.l 0), .int .u32 (.l 0), .int .u32 (.l 0)])), [none], []⟩
def p_Of32 : Path := ⟨(bs 32 0 255), [], ⟨.one (.agg [.int .u32 (.v 43), .int .u32 (.v 55), .int .u32 (.v 67), .int .u32 (.v 79), .int .u32 (.v 91), .int .u32 (.v 103), .int .u32 (.v 115), .int .u32 (.v 127), .int .u32 (.l 0), .int .u32 (.l 0), .int .u32 (.l 0), .int .u32 (.l 0), .int .u32 (.l 0), .int .u32 (.l 0), .int .u32 (.l 0), .int .u32 (.l 0)]), [(us .u8 0 32), [.int .u32 (.v 43), .int .u32 (.v 55), .int .u32 (.v 67), .int .u32 (.v 79), .int .u32 (.v 91), .int .u32 (.v 103), .int .u32 (.v 115), .int .u32 (.v 127), .int .u32 (.l 0), .int .u32 (.l 0), .int .u32 (.l 0), .int .u32 (.l 0), .int .u32 (.l 0), .int .u32 (.l 0), .int .u32 (.l 0), .int .u32 (.l 0)], [.int .u32 (.v 43), .int .u32 (.v 55), .int .u32 (.v 67), .int .u32 (.v 79), .int .u32 (.v 91), .int .u32 (.v 103), .int .u32 (.v 115), .int .u32 (.v 127), .int .u32 (.l 0), .int .u32 (.l 0), .int .u32 (.l 0), .int .u32 (.l 0), .int .u32 (.l 0), .int .u32 (.l 0), .int .u32 (.l 0), .int .u32 (.l 0)]], ⟨g_Of32, 128, [], [], [1, 2, 2, 2, 2, 2, 2, 2, 2, 2, 2, 2, 2, 2, 2, 2, 2, 2, 2, 2, 2, 2, 2, 2, 2, 2, 2, 2, 2, 2, 2, 2, 2]⟩⟩, ⟨outs_Of32, []⟩, 200⟩
theorem r_Of32 : runBody Try.prog [] [] Try.f7 p_Of32.fuel T_Of32.args T_Of32.mem T_Of32.nin p_Of32.orc = some p_Of32.out := by kernel_rfl
theorem good_Of32 (W : World0 Try.prog) : Good W T_Of32 s_Of32 := straight (l := l_Of32) (p := p_Of32) (by exact trivial) Try.func7 Try.call7 r_Of32 (by kernel_rfl) rfl

def T_Of64 : Tmpl := ⟨7, [.one (.lf (.slc 0 0 64 none))], [(us .u8 0 64)], 64, 16, true, .one (.agg (us .u32 64 16)), [none], []⟩
def p_Of64 : Path := ⟨(bs 64 0 255), [], ⟨.one (.agg [.int .u32 (.v 75), .int .u32 (.v 87), .int .u32 (.v 99), .int .u32 (.v 111), .int .u32 (.v 123), .int .u32 (.v 135), .int .u32 (.v 147), .int .u32 (.v 159), .int .u32 (.v 171), .int .u32 (.v 183), .int .u32 (.v 195), .int .u32 (.v 207), .int .u32 (.v 219), .int .u32 (.v 231), .int .u32 (.v 243), .int .u32 (.v 255)]), [(us .u8 0 64), [.int .u32 (.v 75), .int .u32 (.v 87), .int .u32 (.v 99), .int .u32 (.v 111), .int .u32 (.v 123), .int .u32 (.v 135), .int .u32 (.v 147), .int .u32 (.v 159), .int .u32 (.v 171), .int .u32 (.v 183), .int .u32 (.v 195), .int .u32 (.v 207), .int .u32 (.v 219), .int .u32 (.v 231), .int .u32 (.v 243), .int .u32 (.v 255)], [.int .u32 (.v 75), .int .u32 (.v 87), .int .u32 (.v 99), .int .u32 (.v 111), .int .u32 (.v 123), .int .u32 (.v 135), .int .u32 (.v 147), .int .u32 (.v 159), .int .u32 (.v 171), .int .u32 (.v 183), .int .u32 (.v 195), .int .u32 (.v 207), .int .u32 (.v 219), .int .u32 (.v 231), .int .u32 (.v 243), .int .u32 (.v 255)]], ⟨g_Of64, 256, [], [], [1, 2, 2, 2, 2, 2, 2, 2, 2, 2, 2, 2, 2, 2, 2, 2, 2, 2, 2, 2, 2, 2, 2, 2, 2, 2, 2, 2, 2, 2, 2, 2, 2, 2, 2, 2, 2, 2, 2, 2, 2, 2, 2, 2, 2, 2, 2, 2, 2, 2, 2, 2, 2, 2, 2, 2, 2, 2, 2, 2, 2, 2, 2, 2, 2]⟩⟩, ⟨outs_Of64, []⟩, 200⟩
theorem r_Of64 : runBody Try.prog [] [] Try.f7 p_Of64.fuel T_Of64.args T_Of64.mem T_Of64.nin p_Of64.orc = some p_Of64.out := by kernel_rfl
theorem good_Of64 (W : World0 Try.prog) : Good W T_Of64 s_Of64 := straight (l := l_Of64) (p := p_Of64) (by exact trivial) Try.func7 Try.call7 r_Of64 (by kernel_rfl) rfl

def T_Small : Tmpl := ⟨39, [.one (.lf (.int .i64 (.v 0)))], [], 1, 1, true, .one (.agg [.int .u32 (.v 1), .int .u32 (.l 0), .int .u32 (.l 0), .int .u32 (.l 0), .int .u32 (.l 0), .int .u32 (.l 0), .int .u32 (.l 0), .int .u32 (.l 0), .int .u32 (.l 0), .int .u32 (.l 0), .int .u32 (.l 0), .int .u32 (.l 0), .int .u32 (.l 0), .int .u32 (.l 0), .int .u32 (.l 0), .int .u32 (.l 0)]), [], []⟩
def p_Small : Path := ⟨[((-9223372036854775808), 9223372036854775807)], [], ⟨.one (.agg [.int .u32 (.v 1), .int .u32 (.l 0), .int .u32 (.l 0), .int .u32 (.l 0), .int .u32 (.l 0), .int .u32 (.l 0), .int .u32 (.l 0), .int .u32 (.l 0), .int .u32 (.l 0), .int .u32 (.l 0), .int .u32 (.l 0), .int .u32 (.l 0), .int .u32 (.l 0), .int .u32 (.l 0), .int .u32 (.l 0), .int .u32 (.l 0)]), [[.int .u32 (.v 1), .int .u32 (.l 0), .int .u32 (.l 0), .int .u32 (.l 0), .int .u32 (.l 0), .int .u32 (.l 0), .int .u32 (.l 0), .int .u32 (.l 0), .int .u32 (.l 0), .int .u32 (.l 0), .int .u32 (.l 0), .int .u32 (.l 0), .int .u32 (.l 0), .int .u32 (.l 0), .int .u32 (.l 0), .int .u32 (.l 0)]], ⟨g_Small, 2, [], [], [0]⟩⟩, ⟨outs_Small, []⟩, 60⟩
theorem r_Small : runBody Try.prog [] [] Try.f39 p_Small.fuel T_Small.args T_Small.mem T_Small.nin p_Small.orc = some p_Small.out := by kernel_rfl
theorem good_Small (W : World0 Try.prog) : Good W T_Small s_Small := straight (l := l_Small) (p := p_Small) (by exact trivial) Try.func39 Try.call39 r_Small (by kernel_rfl) rfl

def T_P : Tmpl := ⟨37, [], [], 0, 0, true, .one (.agg [.int .u32 (.l 4294967277), .int .u32 (.l 4294967295), .int .u32 (.l 4294967295), .int .u32 (.l 4294967295), .int .u32 (.l 4294967295), .int .u32 (.l 4294967295), .int .u32 (.l 4294967295), .int .u32 (.l 2147483647), .int .u32 (.l 0), .int .u32 (.l 0), .int .u32 (.l 0), .int .u32 (.l 0), .int .u32 (.l 0), .int .u32 (.l 0), .int .u32 (.l 0), .int .u32 (.l 0)]), [], []⟩
def p_P : Path := ⟨[], [], ⟨.one (.agg [.int .u32 (.l 4294967277), .int .u32 (.l 4294967295), .int .u32 (.l 4294967295), .int .u32 (.l 4294967295), .int .u32 (.l 4294967295), .int .u32 (.l 4294967295), .int .u32 (.l 4294967295), .int .u32 (.l 2147483647), .int .u32 (.l 0), .int .u32 (.l 0), .int .u32 (.l 0), .int .u32 (.l 0), .int .u32 (.l 0), .int .u32 (.l 0), .int .u32 (.l 0), .int .u32 (.l 0)]), [[.int .u32 (.l 4294967277), .int .u32 (.l 4294967295), .int .u32 (.l 4294967295), .int .u32 (.l 4294967295), .int .u32 (.l 4294967295), .int .u32 (.l 4294967295), .int .u32 (.l 4294967295), .int .u32 (.l 2147483647), .int .u32 (.l 0), .int .u32 (.l 0), .int .u32 (.l 0), .int .u32 (.l 0), .int .u32 (.l 0), .int .u32 (.l 0), .int .u32 (.l 0), .int .u32 (.l 0)]], ⟨g_P, 0, [], [], [0]⟩⟩, ⟨outs_P, []⟩, 60⟩
theorem r_P : runBody Try.prog [] [] Try.f37 p_P.fuel T_P.args T_P.mem T_P.nin p_P.orc = some p_P.out := by kernel_rfl
theorem good_P (W : World0 Try.prog) : Good W T_P s_P := straight (l := l_P) (p := p_P) (by exact trivial) Try.func37 Try.call37 r_P (by kernel_rfl) rfl

def T_Bit : Tmpl := ⟨56, [.one (.agg (us .u32 0 16)), .one (.lf (.int .i64 (.v 16)))], [], 17, 1, true, .one (.lf (.int .i64 (.v 17))), [], []⟩
def p_Bit : Path := ⟨((bs 16 0 4294967295) ++ [(0, 255)]), [], ⟨.one (.lf (.int .i64 (.v 22))), [(us .u32 0 16)], ⟨g_Bit, 23, [.nn (.v 19), .rng (.v 17) 16], [], []⟩⟩, ⟨outs_Bit, []⟩, 60⟩
theorem r_Bit : runBody Try.prog [] [] Try.f56 p_Bit.fuel T_Bit.args T_Bit.mem T_Bit.nin p_Bit.orc = some p_Bit.out := by kernel_rfl
theorem good_Bit (W : World0 Try.prog) : Good W T_Bit s_Bit := straight (l := l_Bit) (p := p_Bit) (by exact trivial) Try.func56 Try.call56 r_Bit (by kernel_rfl) rfl

def T_ctc : Tmpl := ⟨78, [.one (.lf (.slc 0 0 32 none)), .one (.lf (.slc 1 0 32 none))], [(us .u8 0 32), (us .u8 32 32)], 64, 1, true, .one (.lf (.int .i64 (.v 64))), [none, none], []⟩
def p_ctc_0 : Path := ⟨(bs 64 0 255), [true], ⟨.one (.lf (.int .i64 (.l 1))), [(us .u8 0 32), (us .u8 32 32)], ⟨g_ctc_0, 65, [.cond (.v 64) true], [], []⟩⟩, ⟨outs_ctc_0, []⟩, 60⟩
theorem r_ctc_0 : runBody Try.prog [] [] Try.f78 p_ctc_0.fuel T_ctc.args T_ctc.mem T_ctc.nin p_ctc_0.orc = some p_ctc_0.out := by kernel_rfl
def p_ctc_1 : Path := ⟨(bs 64 0 255), [false], ⟨.one (.lf (.int .i64 (.l 0))), [(us .u8 0 32), (us .u8 32 32)], ⟨g_ctc_1, 65, [.cond (.v 64) false], [], []⟩⟩, ⟨outs_ctc_1, []⟩, 60⟩
theorem r_ctc_1 : runBody Try.prog [] [] Try.f78 p_ctc_1.fuel T_ctc.args T_ctc.mem T_ctc.nin p_ctc_1.orc = some p_ctc_1.out := by kernel_rfl
theorem good_ctc (W : World0 Try.prog) : Good W T_ctc s_ctc := paths (ts := []) (l := l_ctc) (ps := [p_ctc_0, p_ctc_1]) (by exact trivial) (by kernel_rfl) Try.func78 Try.call78 (by kernel_rfl) (by
  intro p hp
  simp only [List.mem_cons, List.not_mem_nil, or_false] at hp
  rcases hp with rfl | rfl
  · exact ⟨r_ctc_0, by kernel_rfl⟩
  · exact ⟨r_ctc_1, by kernel_rfl⟩
  ) (paths_fp cov_ctc (by kernel_rfl))

def T_Equal : Tmpl := ⟨53, [.one (.lf (.ptr 0 0)), .one (.lf (.ptr 1 0))], [(us .u64 0 5), (us .u64 5 5)], 10, 1, true, .one (.lf (.int .i64 (.v 10))), [none, none], []⟩
def p_Equal : Path := ⟨(bs 10 0 4503599627370458), [], ⟨.one (.lf (.int .i64 (.v 74))), [(us .u64 0 5), (us .u64 5 5), (us .u8 10 32), (us .u8 42 32)], ⟨g_Equal, 75, [.pre 1 (vs 10 64), .pre 0 (vs 0 5), .pre 0 (vs 5 5)], [], []⟩⟩, ⟨outs_Equal, []⟩, 60⟩
theorem r_Equal : runBody Try.prog [T_Bytes, T_ctc] [] Try.f53 p_Equal.fuel T_Equal.args T_Equal.mem T_Equal.nin p_Equal.orc = some p_Equal.out := by kernel_rfl
theorem good_Equal (W : World0 Try.prog) : Good W T_Equal s_Equal := straight (l := l_Equal) (p := p_Equal) (by exact ⟨good_Bytes W, good_ctc W, trivial⟩) Try.func53 Try.call53 r_Equal (by kernel_rfl) rfl

end
end Go.X.Y

set_option maxRecDepth 20000
namespace Go.X.Y
open Go.Proofs
noncomputable section
def T_Less : Tmpl := ⟨66, [.one (.agg (us .u32 0 16)), .one (.agg (us .u32 16 16))], [], 32, 1, true, .one (.lf (.bool (.v 32))), [], []⟩
def p_Less_0 : Path := ⟨(bs 32 0 4294967295), [true], ⟨.one (.lf (.bool (.v 33))), [(us .u32 0 16), (us .u32 16 16)], ⟨g_Less_0, 34, [.cond (.v 32) true], [], []⟩⟩, ⟨outs_Less_0, []⟩, 200⟩
theorem r_Less_0 : runBody Try.prog [] [] Try.f66 p_Less_0.fuel T_Less.args T_Less.mem T_Less.nin p_Less_0.orc = some p_Less_0.out := by kernel_rfl
def p_Less_1 : Path := ⟨(bs 32 0 4294967295), [false, true], ⟨.one (.lf (.bool (.v 34))), [(us .u32 0 16), (us .u32 16 16)], ⟨g_Less_1, 35, [.cond (.v 33) true, .cond (.v 32) false], [], []⟩⟩, ⟨outs_Less_1, []⟩, 200⟩
theorem r_Less_1 : runBody Try.prog [] [] Try.f66 p_Less_1.fuel T_Less.args T_Less.mem T_Less.nin p_Less_1.orc = some p_Less_1.out := by kernel_rfl
def p_Less_2 : Path := ⟨(bs 32 0 4294967295), [false, false, true], ⟨.one (.lf (.bool (.v 35))), [(us .u32 0 16), (us .u32 16 16)], ⟨g_Less_2, 36, [.cond (.v 34) true, .cond (.v 33) false, .cond (.v 32) false], [], []⟩⟩, ⟨outs_Less_2, []⟩, 200⟩
theorem r_Less_2 : runBody Try.prog [] [] Try.f66 p_Less_2.fuel T_Less.args T_Less.mem T_Less.nin p_Less_2.orc = some p_Less_2.out := by kernel_rfl
def p_Less_3 : Path := ⟨(bs 32 0 4294967295), [false, false, false, true], ⟨.one (.lf (.bool (.v 36))), [(us .u32 0 16), (us .u32 16 16)], ⟨g_Less_3, 37, [.cond (.v 35) true, .cond (.v 34) false, .cond (.v 33) false, .cond (.v 32) false], [], []⟩⟩, ⟨outs_Less_3, []⟩, 200⟩
theorem r_Less_3 : runBody Try.prog [] [] Try.f66 p_Less_3.fuel T_Less.args T_Less.mem T_Less.nin p_Less_3.orc = some p_Less_3.out := by kernel_rfl
def p_Less_4 : Path := ⟨(bs 32 0 4294967295), [false, false, false, false, true], ⟨.one (.lf (.bool (.v 37))), [(us .u32 0 16), (us .u32 16 16)], ⟨g_Less_4, 38, [.cond (.v 36) true, .cond (.v 35) false, .cond (.v 34) false, .cond (.v 33) false, .cond (.v 32) false], [], []⟩⟩, ⟨outs_Less_4, []⟩, 200⟩
theorem r_Less_4 : runBody Try.prog [] [] Try.f66 p_Less_4.fuel T_Less.args T_Less.mem T_Less.nin p_Less_4.orc = some p_Less_4.out := by kernel_rfl
def p_Less_5 : Path := ⟨(bs 32 0 4294967295), [false, false, false, false, false, true], ⟨.one (.lf (.bool (.v 38))), [(us .u32 0 16), (us .u32 16 16)], ⟨g_Less_5, 39, [.cond (.v 37) true, .cond (.v 36) false, .cond (.v 35) false, .cond (.v 34) false, .cond (.v 33) false, .cond (.v 32) false], [], []⟩⟩, ⟨outs_Less_5, []⟩, 200⟩
theorem r_Less_5 : runBody Try.prog [] [] Try.f66 p_Less_5.fuel T_Less.args T_Less.mem T_Less.nin p_Less_5.orc = some p_Less_5.out := by kernel_rfl
def p_Less_6 : Path := ⟨(bs 32 0 4294967295), [false, false, false, false, false, false, true], ⟨.one (.lf (.bool (.v 39))), [(us .u32 0 16), (us .u32 16 16)], ⟨g_Less_6, 40, [.cond (.v 38) true, .cond (.v 37) false, .cond (.v 36) false, .cond (.v 35) false, .cond (.v 34) false, .cond (.v 33) false, .cond (.v 32) false], [], []⟩⟩, ⟨outs_Less_6, []⟩, 200⟩
theorem r_Less_6 : runBody Try.prog [] [] Try.f66 p_Less_6.fuel T_Less.args T_Less.mem T_Less.nin p_Less_6.orc = some p_Less_6.out := by kernel_rfl
def p_Less_7 : Path := ⟨(bs 32 0 4294967295), [false, false, false, false, false, false, false, true], ⟨.one (.lf (.bool (.v 40))), [(us .u32 0 16), (us .u32 16 16)], ⟨g_Less_7, 41, [.cond (.v 39) true, .cond (.v 38) false, .cond (.v 37) false, .cond (.v 36) false, .cond (.v 35) false, .cond (.v 34) false, .cond (.v 33) false, .cond (.v 32) false], [], []⟩⟩, ⟨outs_Less_7, []⟩, 200⟩
theorem r_Less_7 : runBody Try.prog [] [] Try.f66 p_Less_7.fuel T_Less.args T_Less.mem T_Less.nin p_Less_7.orc = some p_Less_7.out := by kernel_rfl
def p_Less_8 : Path := ⟨(bs 32 0 4294967295), [false, false, false, false, false, false, false, false, true], ⟨.one (.lf (.bool (.v 41))), [(us .u32 0 16), (us .u32 16 16)], ⟨g_Less_8, 42, [.cond (.v 40) true, .cond (.v 39) false, .cond (.v 38) false, .cond (.v 37) false, .cond (.v 36) false, .cond (.v 35) false, .cond (.v 34) false, .cond (.v 33) false, .cond (.v 32) false], [], []⟩⟩, ⟨outs_Less_8, []⟩, 200⟩
theorem r_Less_8 : runBody Try.prog [] [] Try.f66 p_Less_8.fuel T_Less.args T_Less.mem T_Less.nin p_Less_8.orc = some p_Less_8.out := by kernel_rfl
def p_Less_9 : Path := ⟨(bs 32 0 4294967295), [false, false, false, false, false, false, false, false, false, true], ⟨.one (.lf (.bool (.v 42))), [(us .u32 0 16), (us .u32 16 16)], ⟨g_Less_9, 43, [.cond (.v 41) true, .cond (.v 40) false, .cond (.v 39) false, .cond (.v 38) false, .cond (.v 37) false, .cond (.v 36) false, .cond (.v 35) false, .cond (.v 34) false, .cond (.v 33) false, .cond (.v 32) false], [], []⟩⟩, ⟨outs_Less_9, []⟩, 200⟩
theorem r_Less_9 : runBody Try.prog [] [] Try.f66 p_Less_9.fuel T_Less.args T_Less.mem T_Less.nin p_Less_9.orc = some p_Less_9.out := by kernel_rfl
def p_Less_10 : Path := ⟨(bs 32 0 4294967295), [false, false, false, false, false, false, false, false, false, false, true], ⟨.one (.lf (.bool (.v 43))), [(us .u32 0 16), (us .u32 16 16)], ⟨g_Less_10, 44, [.cond (.v 42) true, .cond (.v 41) false, .cond (.v 40) false, .cond (.v 39) false, .cond (.v 38) false, .cond (.v 37) false, .cond (.v 36) false, .cond (.v 35) false, .cond (.v 34) false, .cond (.v 33) false, .cond (.v 32) false], [], []⟩⟩, ⟨outs_Less_10, []⟩, 200⟩
theorem r_Less_10 : runBody Try.prog [] [] Try.f66 p_Less_10.fuel T_Less.args T_Less.mem T_Less.nin p_Less_10.orc = some p_Less_10.out := by kernel_rfl
def p_Less_11 : Path := ⟨(bs 32 0 4294967295), [false, false, false, false, false, false, false, false, false, false, false, true], ⟨.one (.lf (.bool (.v 44))), [(us .u32 0 16), (us .u32 16 16)], ⟨g_Less_11, 45, [.cond (.v 43) true, .cond (.v 42) false, .cond (.v 41) false, .cond (.v 40) false, .cond (.v 39) false, .cond (.v 38) false, .cond (.v 37) false, .cond (.v 36) false, .cond (.v 35) false, .cond (.v 34) false, .cond (.v 33) false, .cond (.v 32) false], [], []⟩⟩, ⟨outs_Less_11, []⟩, 200⟩
theorem r_Less_11 : runBody Try.prog [] [] Try.f66 p_Less_11.fuel T_Less.args T_Less.mem T_Less.nin p_Less_11.orc = some p_Less_11.out := by kernel_rfl
def p_Less_12 : Path := ⟨(bs 32 0 4294967295), [false, false, false, false, false, false, false, false, false, false, false, false, true], ⟨.one (.lf (.bool (.v 45))), [(us .u32 0 16), (us .u32 16 16)], ⟨g_Less_12, 46, [.cond (.v 44) true, .cond (.v 43) false, .cond (.v 42) false, .cond (.v 41) false, .cond (.v 40) false, .cond (.v 39) false, .cond (.v 38) false, .cond (.v 37) false, .cond (.v 36) false, .cond (.v 35) false, .cond (.v 34) false, .cond (.v 33) false, .cond (.v 32) false], [], []⟩⟩, ⟨outs_Less_12, []⟩, 200⟩
theorem r_Less_12 : runBody Try.prog [] [] Try.f66 p_Less_12.fuel T_Less.args T_Less.mem T_Less.nin p_Less_12.orc = some p_Less_12.out := by kernel_rfl
def p_Less_13 : Path := ⟨(bs 32 0 4294967295), [false, false, false, false, false, false, false, false, false, false, false, false, false, true], ⟨.one (.lf (.bool (.v 46))), [(us .u32 0 16), (us .u32 16 16)], ⟨g_Less_13, 47, [.cond (.v 45) true, .cond (.v 44) false, .cond (.v 43) false, .cond (.v 42) false, .cond (.v 41) false, .cond (.v 40) false, .cond (.v 39) false, .cond (.v 38) false, .cond (.v 37) false, .cond (.v 36) false, .cond (.v 35) false, .cond (.v 34) false, .cond (.v 33) false, .cond (.v 32) false], [], []⟩⟩, ⟨outs_Less_13, []⟩, 200⟩
theorem r_Less_13 : runBody Try.prog [] [] Try.f66 p_Less_13.fuel T_Less.args T_Less.mem T_Less.nin p_Less_13.orc = some p_Less_13.out := by kernel_rfl
def p_Less_14 : Path := ⟨(bs 32 0 4294967295), [false, false, false, false, false, false, false, false, false, false, false, false, false, false, true], ⟨.one (.lf (.bool (.v 47))), [(us .u32 0 16), (us .u32 16 16)], ⟨g_Less_14, 48, [.cond (.v 46) true, .cond (.v 45) false, .cond (.v 44) false, .cond (.v 43) false, .cond (.v 42) false, .cond (.v 41) false, .cond (.v 40) false, .cond (.v 39) false, .cond (.v 38) false, .cond (.v 37) false, .cond (.v 36) false, .cond (.v 35) false, .cond (.v 34) false, .cond (.v 33) false, .cond (.v 32) false], [], []⟩⟩, ⟨outs_Less_14, []⟩, 200⟩
theorem r_Less_14 : runBody Try.prog [] [] Try.f66 p_Less_14.fuel T_Less.args T_Less.mem T_Less.nin p_Less_14.orc = some p_Less_14.out := by kernel_rfl
def p_Less_15 : Path := ⟨(bs 32 0 4294967295), [false, false, false, false, false, false, false, false, false, false, false, false, false, false, false, true], ⟨.one (.lf (.bool (.v 48))), [(us .u32 0 16), (us .u32 16 16)], ⟨g_Less_15, 49, [.cond (.v 47) true, .cond (.v 46) false, .cond (.v 45) false, .cond (.v 44) false, .cond (.v 43) false, .cond (.v 42) false, .cond (.v 41) false, .cond (.v 40) false, .cond (.v 39) false, .cond (.v 38) false, .cond (.v 37) false, .cond (.v 36) false, .cond (.v 35) false, .cond (.v 34) false, .cond (.v 33) false, .cond (.v 32) false], [], []⟩⟩, ⟨outs_Less_15, []⟩, 200⟩
theorem r_Less_15 : runBody Try.prog [] [] Try.f66 p_Less_15.fuel T_Less.args T_Less.mem T_Less.nin p_Less_15.orc = some p_Less_15.out := by kernel_rfl
def p_Less_16 : Path := ⟨(bs 32 0 4294967295), [false, false, false, false, false, false, false, false, false, false, false, false, false, false, false, false], ⟨.one (.lf (.bool (.l 0))), [(us .u32 0 16), (us .u32 16 16)], ⟨g_Less_16, 48, [.cond (.v 47) false, .cond (.v 46) false, .cond (.v 45) false, .cond (.v 44) false, .cond (.v 43) false, .cond (.v 42) false, .cond (.v 41) false, .cond (.v 40) false, .cond (.v 39) false, .cond (.v 38) false, .cond (.v 37) false, .cond (.v 36) false, .cond (.v 35) false, .cond (.v 34) false, .cond (.v 33) false, .cond (.v 32) false], [], []⟩⟩, ⟨outs_Less_16, []⟩, 200⟩
theorem r_Less_16 : runBody Try.prog [] [] Try.f66 p_Less_16.fuel T_Less.args T_Less.mem T_Less.nin p_Less_16.orc = some p_Less_16.out := by kernel_rfl
theorem good_Less (W : World0 Try.prog) : Good W T_Less s_Less := paths (ts := []) (l := l_Less) (ps := [p_Less_0, p_Less_1, p_Less_2, p_Less_3, p_Less_4, p_Less_5, p_Less_6, p_Less_7, p_Less_8, p_Less_9, p_Less_10, p_Less_11, p_Less_12, p_Less_13, p_Less_14, p_Less_15, p_Less_16]) (by exact trivial) (by kernel_rfl) Try.func66 Try.call66 (by kernel_rfl) (by
  intro p hp
  simp only [List.mem_cons, List.not_mem_nil, or_false] at hp
  rcases hp with rfl | rfl | rfl | rfl | rfl | rfl | rfl | rfl | rfl | rfl | rfl | rfl | rfl | rfl | rfl | rfl | rfl
  · exact ⟨r_Less_0, by kernel_rfl⟩
  · exact ⟨r_Less_1, by kernel_rfl⟩
  · exact ⟨r_Less_2, by kernel_rfl⟩
  · exact ⟨r_Less_3, by kernel_rfl⟩
  · exact ⟨r_Less_4, by kernel_rfl⟩
  · exact ⟨r_Less_5, by kernel_rfl⟩
  · exact ⟨r_Less_6, by kernel_rfl⟩
  · exact ⟨r_Less_7, by kernel_rfl⟩
  · exact ⟨r_Less_8, by kernel_rfl⟩
  · exact ⟨r_Less_9, by kernel_rfl⟩
  · exact ⟨r_Less_10, by kernel_rfl⟩
  · exact ⟨r_Less_11, by kernel_rfl⟩
  · exact ⟨r_Less_12, by kernel_rfl⟩
  · exact ⟨r_Less_13, by kernel_rfl⟩
  · exact ⟨r_Less_14, by kernel_rfl⟩
  · exact ⟨r_Less_15, by kernel_rfl⟩
  · exact ⟨r_Less_16, by kernel_rfl⟩
  ) (paths_fp cov_Less (by kernel_rfl))

end
end Go.X.Y

set_option maxRecDepth 20000
namespace Go.X.Y
open Go.Proofs
noncomputable section
def T_fold : Tmpl := ⟨31, [.one (.agg (us .u32 0 16))], [], 16, 16, true, .one (.agg (us .u32 16 16)), [], []⟩
def p_fold_0 : Path := ⟨(bs 16 0 4294967295), [false], ⟨.one (.agg [.int .u32 (.v 265), .int .u32 (.v 272), .int .u32 (.v 279), .int .u32 (.v 286), .int .u32 (.v 293), .int .u32 (.v 300), .int .u32 (.v 307), .int .u32 (.v 314), .int .u32 (.v 320), .int .u32 (.v 323), .int .u32 (.v 326), .int .u32 (.v 329), .int .u32 (.v 332), .int .u32 (.v 335), .int .u32 (.v 338), .int .u32 (.v 341)]), [[.int .u32 (.v 265), .int .u32 (.v 272), .int .u32 (.v 279), .int .u32 (.v 286), .int .u32 (.v 293), .int .u32 (.v 300), .int .u32 (.v 307), .int .u32 (.v 314), .int .u32 (.v 320), .int .u32 (.v 323), .int .u32 (.v 326), .int .u32 (.v 329), .int .u32 (.v 332), .int .u32 (.v 335), .int .u32 (.v 338), .int .u32 (.v 341)], [.int .u32 (.v 265), .int .u32 (.v 272), .int .u32 (.v 279), .int .u32 (.v 286), .int .u32 (.v 293), .int .u32 (.v 300), .int .u32 (.v 307), .int .u32 (.v 314), .int .u32 (.v 320), .int .u32 (.v 323), .int .u32 (.v 326), .int .u32 (.v 329), .int .u32 (.v 332), .int .u32 (.v 335), .int .u32 (.v 338), .int .u32 (.v 341)], [.int .u32 (.v 18), .int .u32 (.v 21), .int .u32 (.v 24), .int .u32 (.v 27), .int .u32 (.v 30), .int .u32 (.v 33), .int .u32 (.v 36), .int .u32 (.v 39), .int .u32 (.v 40), .int .u32 (.l 0), .int .u32 (.l 0), .int .u32 (.l 0), .int .u32 (.l 0), .int .u32 (.l 0), .int .u32 (.l 0), .int .u32 (.l 0)], [.int .u32 (.v 127), .int .u32 (.v 130), .int .u32 (.v 133), .int .u32 (.v 136), .int .u32 (.v 139), .int .u32 (.v 142), .int .u32 (.v 145), .int .u32 (.v 148), .int .u32 (.v 149), .int .u32 (.l 0), .int .u32 (.l 0), .int .u32 (.l 0), .int .u32 (.l 0), .int .u32 (.l 0), .int .u32 (.l 0), .int .u32 (.l 0)], [.int .u32 (.v 236), .int .u32 (.v 239), .int .u32 (.v 242), .int .u32 (.v 245), .int .u32 (.v 248), .int .u32 (.v 251), .int .u32 (.v 254), .int .u32 (.v 257), .int .u32 (.v 258), .int .u32 (.l 0), .int .u32 (.l 0), .int .u32 (.l 0), .int .u32 (.l 0), .int .u32 (.l 0), .int .u32 (.l 0), .int .u32 (.l 0)]], ⟨g_fold_0, 345, [.cond (.v 344) false, .pre 2 (List.flatten [[(.v 265), (.v 272), (.v 279), (.v 286), (.v 293), (.v 300), (.v 307), (.v 314), (.v 320), (.v 323), (.v 326), (.v 329), (.v 332), (.v 335), (.v 338), (.v 341), (.l 4294967277)], ls 4294967295 6, [(.l 2147483647)], ls 0 8]), .pre 1 []], [], [1, 0, 0, 0, 0, 0, 0, 0, 0, 0, 0, 0, 0, 0, 0, 0, 0, 0, 0, 0, 0, 0, 0, 0, 0, 0, 4, 4, 4, 4, 4, 4, 4, 4, 4, 4, 4, 4, 4, 4, 4, 4, 4, 0, 0, 0, 0, 0, 0, 0, 0, 0, 0, 0, 0, 0, 0, 0, 0, 0, 0, 0, 0, 0, 0, 0, 0, 0, 3, 3, 3, 3, 3, 3, 3, 3, 3, 3, 3, 3, 3, 3, 3, 3, 3, 0, 0, 0, 0, 0, 0, 0, 0, 0, 0, 0, 0, 0, 0, 0, 0, 0, 0, 0, 0, 0, 0, 0, 0, 0, 2, 2, 2, 2, 2, 2, 2, 2, 2, 2, 2, 2, 2, 2, 2, 2, 2]⟩⟩, ⟨outs_fold_0, []⟩, 200⟩
theorem r_fold_0 : runBody Try.prog [T_Minus, T_P, T_Less] [] Try.f31 p_fold_0.fuel T_fold.args T_fold.mem T_fold.nin p_fold_0.orc = some p_fold_0.out := by kernel_rfl
def p_fold_1 : Path := ⟨(bs 16 0 4294967295), [true, false], ⟨.one (.agg (us .u32 345 16)), [(us .u32 345 16), (us .u32 345 16), [.int .u32 (.v 18), .int .u32 (.v 21), .int .u32 (.v 24), .int .u32 (.v 27), .int .u32 (.v 30), .int .u32 (.v 33), .int .u32 (.v 36), .int .u32 (.v 39), .int .u32 (.v 40), .int .u32 (.l 0), .int .u32 (.l 0), .int .u32 (.l 0), .int .u32 (.l 0), .int .u32 (.l 0), .int .u32 (.l 0), .int .u32 (.l 0)], [.int .u32 (.v 127), .int .u32 (.v 130), .int .u32 (.v 133), .int .u32 (.v 136), .int .u32 (.v 139), .int .u32 (.v 142), .int .u32 (.v 145), .int .u32 (.v 148), .int .u32 (.v 149), .int .u32 (.l 0), .int .u32 (.l 0), .int .u32 (.l 0), .int .u32 (.l 0), .int .u32 (.l 0), .int .u32 (.l 0), .int .u32 (.l 0)], [.int .u32 (.v 236), .int .u32 (.v 239), .int .u32 (.v 242), .int .u32 (.v 245), .int .u32 (.v 248), .int .u32 (.v 251), .int .u32 (.v 254), .int .u32 (.v 257), .int .u32 (.v 258), .int .u32 (.l 0), .int .u32 (.l 0), .int .u32 (.l 0), .int .u32 (.l 0), .int .u32 (.l 0), .int .u32 (.l 0), .int .u32 (.l 0)]], ⟨g_fold_1, 363, [.cond (.v 362) false, .pre 2 (List.flatten [vs 345 16, [(.l 4294967277)], ls 4294967295 6, [(.l 2147483647)], ls 0 8]), .pre 1 [], .pre 0 (List.flatten [[(.v 265), (.v 272), (.v 279), (.v 286), (.v 293), (.v 300), (.v 307), (.v 314), (.v 320), (.v 323), (.v 326), (.v 329), (.v 332), (.v 335), (.v 338), (.v 341), (.l 4294967277)], ls 4294967295 6, [(.l 2147483647)], ls 0 8]), .pre 1 [], .cond (.v 344) true, .pre 2 (List.flatten [[(.v 265), (.v 272), (.v 279), (.v 286), (.v 293), (.v 300), (.v 307), (.v 314), (.v 320), (.v 323), (.v 326), (.v 329), (.v 332), (.v 335), (.v 338), (.v 341), (.l 4294967277)], ls 4294967295 6, [(.l 2147483647)], ls 0 8]), .pre 1 []], [], [1, 0, 0, 0, 0, 0, 0, 0, 0, 0, 0, 0, 0, 0, 0, 0, 0, 0, 0, 0, 0, 0, 0, 0, 0, 0, 0, 4, 4, 4, 4, 4, 4, 4, 4, 4, 4, 4, 4, 4, 4, 4, 4, 4, 0, 0, 0, 0, 0, 0, 0, 0, 0, 0, 0, 0, 0, 0, 0, 0, 0, 0, 0, 0, 0, 0, 0, 0, 0, 3, 3, 3, 3, 3, 3, 3, 3, 3, 3, 3, 3, 3, 3, 3, 3, 3, 0, 0, 0, 0, 0, 0, 0, 0, 0, 0, 0, 0, 0, 0, 0, 0, 0, 0, 0, 0, 0, 0, 0, 0, 0, 2, 2, 2, 2, 2, 2, 2, 2, 2, 2, 2, 2, 2, 2, 2, 2, 2]⟩⟩, ⟨outs_fold_1, []⟩, 200⟩
theorem r_fold_1 : runBody Try.prog [T_Minus, T_P, T_Less] [] Try.f31 p_fold_1.fuel T_fold.args T_fold.mem T_fold.nin p_fold_1.orc = some p_fold_1.out := by kernel_rfl
theorem good_fold (W : World0 Try.prog) : Good W T_fold s_fold := paths (ts := [T_Minus, T_P, T_Less]) (l := l_fold) (ps := [p_fold_0, p_fold_1]) (by exact ⟨good_Minus W, good_P W, good_Less W, trivial⟩) (by kernel_rfl) Try.func31 Try.call31 (by kernel_rfl) (by
  intro p hp
  simp only [List.mem_cons, List.not_mem_nil, or_false] at hp
  rcases hp with rfl | rfl
  · exact ⟨r_fold_0, by kernel_rfl⟩
  · exact ⟨r_fold_1, by kernel_rfl⟩
  ) (paths_fp cov_fold (by kernel_rfl))

def T_Field : Tmpl := ⟨9, [.one (.agg (us .u32 0 16))], [], 16, 16, true, .one (.agg (us .u32 16 16)), [], []⟩
def p_Field : Path := ⟨(bs 16 0 4294967295), [], ⟨.one (.agg (us .u32 16 16)), [(us .u32 0 16), (us .u32 16 16)], ⟨g_Field, 32, [.pre 0 (vs 0 16)], [], [1]⟩⟩, ⟨outs_Field, []⟩, 60⟩
theorem r_Field : runBody Try.prog [T_fold] [] Try.f9 p_Field.fuel T_Field.args T_Field.mem T_Field.nin p_Field.orc = some p_Field.out := by kernel_rfl
theorem good_Field (W : World0 Try.prog) : Good W T_Field s_Field := straight (l := l_Field) (p := p_Field) (by exact ⟨good_fold W, trivial⟩) Try.func9 Try.call9 r_Field (by kernel_rfl) rfl

def T_FAdd : Tmpl := ⟨16, [.one (.agg (us .u32 0 16)), .one (.agg (us .u32 16 16))], [], 32, 16, true, .one (.agg (us .u32 32 16)), [], []⟩
def p_FAdd : Path := ⟨(bs 32 0 4294967295), [], ⟨.one (.agg (us .u32 48 16)), [(us .u32 0 16), (us .u32 16 16), (us .u32 48 16)], ⟨g_FAdd, 64, [.pre 1 (vs 32 16), .pre 0 (vs 0 32)], [], [2]⟩⟩, ⟨outs_FAdd, []⟩, 60⟩
theorem r_FAdd : runBody Try.prog [T_Plus, T_fold] [] Try.f16 p_FAdd.fuel T_FAdd.args T_FAdd.mem T_FAdd.nin p_FAdd.orc = some p_FAdd.out := by kernel_rfl
theorem good_FAdd (W : World0 Try.prog) : Good W T_FAdd s_FAdd := straight (l := l_FAdd) (p := p_FAdd) (by exact ⟨good_Plus W, good_fold W, trivial⟩) Try.func16 Try.call16 r_FAdd (by kernel_rfl) rfl

def T_FSub : Tmpl := ⟨17, [.one (.agg (us .u32 0 16)), .one (.agg (us .u32 16 16))], [], 32, 16, true, .one (.agg (us .u32 32 16)), [], []⟩
def p_FSub : Path := ⟨(bs 32 0 4294967295), [], ⟨.one (.agg (us .u32 64 16)), [(us .u32 0 16), (us .u32 16 16), (us .u32 64 16)], ⟨g_FSub, 80, [.pre 3 (vs 48 16), .pre 1 ((vs 32 16) ++ (vs 16 16)), .pre 0 (List.flatten [vs 0 16, [(.l 4294967277)], ls 4294967295 6, [(.l 2147483647)], ls 0 8]), .pre 2 []], [], [2]⟩⟩, ⟨outs_FSub, []⟩, 60⟩
theorem r_FSub : runBody Try.prog [T_Plus, T_Minus, T_P, T_fold] [] Try.f17 p_FSub.fuel T_FSub.args T_FSub.mem T_FSub.nin p_FSub.orc = some p_FSub.out := by kernel_rfl
theorem good_FSub (W : World0 Try.prog) : Good W T_FSub s_FSub := straight (l := l_FSub) (p := p_FSub) (by exact ⟨good_Plus W, good_Minus W, good_P W, good_fold W, trivial⟩) Try.func17 Try.call17 r_FSub (by kernel_rfl) rfl

def T_FMul : Tmpl := ⟨10, [.one (.agg (us .u32 0 16)), .one (.agg (us .u32 16 16))], [], 32, 16, true, .one (.agg (us .u32 32 16)), [], []⟩
def p_FMul : Path := ⟨(bs 32 0 4294967295), [], ⟨.one (.agg (us .u32 48 16)), [(us .u32 0 16), (us .u32 16 16), (us .u32 48 16)], ⟨g_FMul, 64, [.pre 1 (vs 32 16), .pre 0 (vs 0 32)], [], [2]⟩⟩, ⟨outs_FMul, []⟩, 60⟩
theorem r_FMul : runBody Try.prog [T_Times, T_fold] [] Try.f10 p_FMul.fuel T_FMul.args T_FMul.mem T_FMul.nin p_FMul.orc = some p_FMul.out := by kernel_rfl
theorem good_FMul (W : World0 Try.prog) : Good W T_FMul s_FMul := straight (l := l_FMul) (p := p_FMul) (by exact ⟨good_Times W, good_fold W, trivial⟩) Try.func10 Try.call10 r_FMul (by kernel_rfl) rfl

def T_FNeg : Tmpl := ⟨18, [.one (.agg (us .u32 0 16))], [], 16, 16, true, .one (.agg (us .u32 16 16)), [], []⟩
def p_FNeg : Path := ⟨(bs 16 0 4294967295), [], ⟨.one (.agg (us .u32 16 16)), [(us .u32 0 16), (us .u32 16 16)], ⟨g_FNeg, 32, [.pre 0 ((ls 0 16) ++ (vs 0 16))], [], [1]⟩⟩, ⟨outs_FNeg, []⟩, 60⟩
theorem r_FNeg : runBody Try.prog [T_FSub] [] Try.f18 p_FNeg.fuel T_FNeg.args T_FNeg.mem T_FNeg.nin p_FNeg.orc = some p_FNeg.out := by kernel_rfl
theorem good_FNeg (W : World0 Try.prog) : Good W T_FNeg s_FNeg := straight (l := l_FNeg) (p := p_FNeg) (by exact ⟨good_FSub W, trivial⟩) Try.func18 Try.call18 r_FNeg (by kernel_rfl) rfl

def T_Odd : Tmpl := ⟨20, [.one (.agg (us .u32 0 16))], [], 16, 1, true, .one (.lf (.bool (.v 16))), [], []⟩
def p_Odd : Path := ⟨(bs 16 0 4294967295), [], ⟨.one (.lf (.bool (.v 17))), [(us .u32 0 16)], ⟨g_Odd, 18, [], [], []⟩⟩, ⟨outs_Odd, []⟩, 60⟩
theorem r_Odd : runBody Try.prog [] [] Try.f20 p_Odd.fuel T_Odd.args T_Odd.mem T_Odd.nin p_Odd.orc = some p_Odd.out := by kernel_rfl
theorem good_Odd (W : World0 Try.prog) : Good W T_Odd s_Odd := straight (l := l_Odd) (p := p_Odd) (by exact trivial) Try.func20 Try.call20 r_Odd (by kernel_rfl) rfl

def T_same32 : Tmpl := ⟨14, [.one (.lf (.slc 0 0 32 none)), .one (.lf (.slc 1 0 32 none))], [(us .u8 0 32), (us .u8 32 32)], 64, 1, true, .one (.lf (.bool (.v 64))), [none, none], []⟩
def p_same32 : Path := ⟨(bs 64 0 255), [], ⟨.one (.lf (.bool (.v 64))), [(us .u8 0 32), (us .u8 32 32)], ⟨g_same32, 65, [], [], []⟩⟩, ⟨outs_same32, []⟩, 60⟩
theorem r_same32 : runBody Try.prog [] [] Try.f14 p_same32.fuel T_same32.args T_same32.mem T_same32.nin p_same32.orc = some p_same32.out := by kernel_rfl
theorem good_same32 (W : World0 Try.prog) : Good W T_same32 s_same32 := straight (l := l_same32) (p := p_same32) (by exact trivial) Try.func14 Try.call14 r_same32 (by kernel_rfl) rfl

end
end Go.X.Y

set_option maxRecDepth 20000
namespace Go.X.Y
open Go.Proofs
noncomputable section
def T_Pow : Tmpl := ⟨41, [.one (.agg (us .u32 0 16)), .one (.agg (us .u32 16 16))], [], 32, 16, true, .one (.agg (us .u32 32 16)), [], []⟩
def L_Pow : LoopC := ⟨0, 23, 49, 32, 16, [(2, .one (.lf (.ptr 0 0))), (3, .one (.lf (.ptr 1 0))), (4, .one (.lf (.ptr 2 0))), (5, .one (.lf (.ptr 3 0))), (6, .one (.lf (.int .i64 (.v 32)))), (0, .one (.lf (.any))), (1, .one (.lf (.any))), (7, .one (.lf (.any))), (8, .one (.lf (.any))), (9, .one (.lf (.any))), (10, .one (.lf (.any))), (11, .one (.lf (.any))), (12, .one (.lf (.any))), (13, .one (.lf (.any))), (14, .one (.lf (.any))), (15, .one (.lf (.any))), (16, .one (.lf (.any))), (17, .one (.lf (.any))), (18, .one (.lf (.any))), (19, .one (.lf (.any))), (20, .one (.lf (.any))), (21, .one (.lf (.any))), (22, .one (.lf (.any)))], [(us .u32 0 16), (us .u32 16 16), [.int .u32 (.l 0), .int .u32 (.l 0), .int .u32 (.l 0), .int .u32 (.l 0), .int .u32 (.l 0), .int .u32 (.l 0), .int .u32 (.l 0), .int .u32 (.l 0), .int .u32 (.l 0), .int .u32 (.l 0), .int .u32 (.l 0), .int .u32 (.l 0), .int .u32 (.l 0), .int .u32 (.l 0), .int .u32 (.l 0), .int .u32 (.l 0)], (us .u32 33 16)], [(4, .one (.lf (.ptr 2 0))), (5, .one (.lf (.ptr 3 0))), (0, .one (.lf (.any))), (1, .one (.lf (.any))), (2, .one (.lf (.any))), (3, .one (.lf (.any))), (6, .one (.lf (.any))), (7, .one (.lf (.any))), (8, .one (.lf (.any))), (9, .one (.lf (.any))), (10, .one (.lf (.any))), (11, .one (.lf (.any))), (12, .one (.lf (.any))), (13, .one (.lf (.any))), (14, .one (.lf (.any))), (15, .one (.lf (.any))), (16, .one (.lf (.any))), (17, .one (.lf (.any))), (18, .one (.lf (.any))), (19, .one (.lf (.any))), (20, .one (.lf (.any))), (21, .one (.lf (.any))), (22, .one (.lf (.any)))], [(us .u32 0 16), (us .u32 16 16), [.int .u32 (.l 0), .int .u32 (.l 0), .int .u32 (.l 0), .int .u32 (.l 0), .int .u32 (.l 0), .int .u32 (.l 0), .int .u32 (.l 0), .int .u32 (.l 0), .int .u32 (.l 0), .int .u32 (.l 0), .int .u32 (.l 0), .int .u32 (.l 0), .int .u32 (.l 0), .int .u32 (.l 0), .int .u32 (.l 0), .int .u32 (.l 0)], (us .u32 32 16)], [0, 1, 2, 3], 3⟩
def lp_Pow_0 : LPath := ⟨((bs 32 0 4294967295) ++ [((-1), (-1))] ++ (bs 16 0 4294967295)), [false], 60, [(9, .one (.lf (.bool (.l 0)))), (9, .one (.lf (.bool (.v 49)))), (8, .one (.lf (.int .i64 (.v 32)))), (2, .one (.lf (.ptr 0 0))), (3, .one (.lf (.ptr 1 0))), (4, .one (.lf (.ptr 2 0))), (5, .one (.lf (.ptr 3 0))), (6, .one (.lf (.int .i64 (.v 32)))), (0, .one (.lf (.any))), (1, .one (.lf (.any))), (7, .one (.lf (.any))), (8, .one (.lf (.any))), (9, .one (.lf (.any))), (10, .one (.lf (.any))), (11, .one (.lf (.any))), (12, .one (.lf (.any))), (13, .one (.lf (.any))), (14, .one (.lf (.any))), (15, .one (.lf (.any))), (16, .one (.lf (.any))), (17, .one (.lf (.any))), (18, .one (.lf (.any))), (19, .one (.lf (.any))), (20, .one (.lf (.any))), (21, .one (.lf (.any))), (22, .one (.lf (.any)))], [(us .u32 0 16), (us .u32 16 16), [.int .u32 (.l 0), .int .u32 (.l 0), .int .u32 (.l 0), .int .u32 (.l 0), .int .u32 (.l 0), .int .u32 (.l 0), .int .u32 (.l 0), .int .u32 (.l 0), .int .u32 (.l 0), .int .u32 (.l 0), .int .u32 (.l 0), .int .u32 (.l 0), .int .u32 (.l 0), .int .u32 (.l 0), .int .u32 (.l 0), .int .u32 (.l 0)], (us .u32 33 16)], ⟨g_powl_0, 50, [.cond (.v 49) false], [], [0, 1, 2, 3]⟩, true, outs_powl_0⟩
theorem lr_Pow_0 : runCode Try.prog [T_Small, T_Bit, T_FMul] [] L_Pow.nt lp_Pow_0.fuel (loopBody Try.f41 L_Pow.id) L_Pow.Tp L_Pow.Mp ⟨[], L_Pow.nin, [], lp_Pow_0.orc, L_Pow.wr⟩ = some (lEx L_Pow.id lp_Pow_0.stop, lp_Pow_0.T, lp_Pow_0.M, lp_Pow_0.g) := by kernel_rfl
def lp_Pow_1 : LPath := ⟨((bs 32 0 4294967295) ++ [(0, 255)] ++ (bs 16 0 4294967295)), [true, true], 60, [(6, .one (.lf (.int .i64 (.v 84)))), (11, .one (.lf (.int .i64 (.v 84)))), (10, .one (.lf (.int .i64 (.v 32)))), (21, .one (.agg (us .u32 68 16))), (20, .one (.agg (us .u32 0 16))), (19, .one (.agg (us .u32 50 16))), (18, .one (.lf (.bool (.l 1)))), (18, .one (.lf (.bool (.v 67)))), (17, .one (.lf (.int .i64 (.v 66)))), (16, .one (.lf (.int .i64 (.v 32)))), (15, .one (.agg (us .u32 16 16))), (14, .one (.agg (us .u32 50 16))), (13, .one (.agg (us .u32 33 16))), (12, .one (.agg (us .u32 33 16))), (9, .one (.lf (.bool (.l 1)))), (9, .one (.lf (.bool (.v 49)))), (8, .one (.lf (.int .i64 (.v 32)))), (2, .one (.lf (.ptr 0 0))), (3, .one (.lf (.ptr 1 0))), (4, .one (.lf (.ptr 2 0))), (5, .one (.lf (.ptr 3 0))), (6, .one (.lf (.int .i64 (.v 32)))), (0, .one (.lf (.any))), (1, .one (.lf (.any))), (7, .one (.lf (.any))), (8, .one (.lf (.any))), (9, .one (.lf (.any))), (10, .one (.lf (.any))), (11, .one (.lf (.any))), (12, .one (.lf (.any))), (13, .one (.lf (.any))), (14, .one (.lf (.any))), (15, .one (.lf (.any))), (16, .one (.lf (.any))), (17, .one (.lf (.any))), (18, .one (.lf (.any))), (19, .one (.lf (.any))), (20, .one (.lf (.any))), (21, .one (.lf (.any))), (22, .one (.lf (.any)))], [(us .u32 0 16), (us .u32 16 16), [.int .u32 (.l 0), .int .u32 (.l 0), .int .u32 (.l 0), .int .u32 (.l 0), .int .u32 (.l 0), .int .u32 (.l 0), .int .u32 (.l 0), .int .u32 (.l 0), .int .u32 (.l 0), .int .u32 (.l 0), .int .u32 (.l 0), .int .u32 (.l 0), .int .u32 (.l 0), .int .u32 (.l 0), .int .u32 (.l 0), .int .u32 (.l 0)], (us .u32 68 16)], ⟨g_powl_1, 85, [.pre 2 ((vs 50 16) ++ (vs 0 16)), .cond (.v 67) true, .pre 1 (vs 16 17), .pre 2 ((vs 33 16) ++ (vs 33 16)), .cond (.v 49) true], [], [3, 3, 0, 1, 2, 3]⟩, false, outs_powl_1⟩
theorem lr_Pow_1 : runCode Try.prog [T_Small, T_Bit, T_FMul] [] L_Pow.nt lp_Pow_1.fuel (loopBody Try.f41 L_Pow.id) L_Pow.Tp L_Pow.Mp ⟨[], L_Pow.nin, [], lp_Pow_1.orc, L_Pow.wr⟩ = some (lEx L_Pow.id lp_Pow_1.stop, lp_Pow_1.T, lp_Pow_1.M, lp_Pow_1.g) := by kernel_rfl
def lp_Pow_2 : LPath := ⟨((bs 32 0 4294967295) ++ [(0, 255)] ++ (bs 16 0 4294967295)), [true, false], 60, [(6, .one (.lf (.int .i64 (.v 68)))), (11, .one (.lf (.int .i64 (.v 68)))), (10, .one (.lf (.int .i64 (.v 32)))), (18, .one (.lf (.bool (.l 0)))), (18, .one (.lf (.bool (.v 67)))), (17, .one (.lf (.int .i64 (.v 66)))), (16, .one (.lf (.int .i64 (.v 32)))), (15, .one (.agg (us .u32 16 16))), (14, .one (.agg (us .u32 50 16))), (13, .one (.agg (us .u32 33 16))), (12, .one (.agg (us .u32 33 16))), (9, .one (.lf (.bool (.l 1)))), (9, .one (.lf (.bool (.v 49)))), (8, .one (.lf (.int .i64 (.v 32)))), (2, .one (.lf (.ptr 0 0))), (3, .one (.lf (.ptr 1 0))), (4, .one (.lf (.ptr 2 0))), (5, .one (.lf (.ptr 3 0))), (6, .one (.lf (.int .i64 (.v 32)))), (0, .one (.lf (.any))), (1, .one (.lf (.any))), (7, .one (.lf (.any))), (8, .one (.lf (.any))), (9, .one (.lf (.any))), (10, .one (.lf (.any))), (11, .one (.lf (.any))), (12, .one (.lf (.any))), (13, .one (.lf (.any))), (14, .one (.lf (.any))), (15, .one (.lf (.any))), (16, .one (.lf (.any))), (17, .one (.lf (.any))), (18, .one (.lf (.any))), (19, .one (.lf (.any))), (20, .one (.lf (.any))), (21, .one (.lf (.any))), (22, .one (.lf (.any)))], [(us .u32 0 16), (us .u32 16 16), [.int .u32 (.l 0), .int .u32 (.l 0), .int .u32 (.l 0), .int .u32 (.l 0), .int .u32 (.l 0), .int .u32 (.l 0), .int .u32 (.l 0), .int .u32 (.l 0), .int .u32 (.l 0), .int .u32 (.l 0), .int .u32 (.l 0), .int .u32 (.l 0), .int .u32 (.l 0), .int .u32 (.l 0), .int .u32 (.l 0), .int .u32 (.l 0)], (us .u32 50 16)], ⟨g_powl_2, 69, [.cond (.v 67) false, .pre 1 (vs 16 17), .pre 2 ((vs 33 16) ++ (vs 33 16)), .cond (.v 49) true], [], [3, 0, 1, 2, 3]⟩, false, outs_powl_2⟩
theorem lr_Pow_2 : runCode Try.prog [T_Small, T_Bit, T_FMul] [] L_Pow.nt lp_Pow_2.fuel (loopBody Try.f41 L_Pow.id) L_Pow.Tp L_Pow.Mp ⟨[], L_Pow.nin, [], lp_Pow_2.orc, L_Pow.wr⟩ = some (lEx L_Pow.id lp_Pow_2.stop, lp_Pow_2.T, lp_Pow_2.M, lp_Pow_2.g) := by kernel_rfl
def p_Pow : Path := ⟨(bs 32 0 4294967295), [], ⟨.one (.agg (us .u32 33 16)), [(us .u32 0 16), (us .u32 16 16), (us .u32 33 16), (us .u32 33 16)], ⟨g_Pow, 49, [.pre 3 ((vs 0 32) ++ [(.l 255), (.v 32)] ++ (ls 0 15)), .pre 0 [(.l 1)]], [], [2, 0, 1, 2, 3, 3]⟩⟩, ⟨outs_Pow, []⟩, 60⟩
theorem r_Pow : runBody Try.prog [T_Small, T_Bit, T_FMul] [⟨0, loopT L_Pow⟩] Try.f41 p_Pow.fuel T_Pow.args T_Pow.mem T_Pow.nin p_Pow.orc = some p_Pow.out := by kernel_rfl
theorem good_Pow (W : World0 Try.prog) : Good W T_Pow s_Pow := straightL (l := l_Pow) (p := p_Pow) (L := L_Pow) (sL := s_powl) (lps := [lp_Pow_0, lp_Pow_1, lp_Pow_2]) (by exact ⟨good_Small W, good_Bit W, good_FMul W, trivial⟩) Try.func41 Try.call41 r_Pow (by kernel_rfl) (by
  intro p hp
  simp only [List.mem_cons, List.not_mem_nil, or_false] at hp
  rcases hp with rfl | rfl | rfl
  · exact ⟨lr_Pow_0, by kernel_rfl⟩
  · exact ⟨lr_Pow_1, by kernel_rfl⟩
  · exact ⟨lr_Pow_2, by kernel_rfl⟩
  ) (by kernel_rfl) lcov_powl rfl

def T_Inv : Tmpl := ⟨19, [.one (.agg (us .u32 0 16))], [], 16, 16, true, .one (.agg (us .u32 16 16)), [], []⟩
def p_Inv : Path := ⟨(bs 16 0 4294967295), [], ⟨.one (.agg (us .u32 33 16)), [(us .u32 0 16), (us .u32 33 16)], ⟨g_Inv, 49, [.pre 3 ((vs 0 16) ++ (vs 17 16)), .pre 0 (List.flatten [[(.l 4294967277)], ls 4294967295 6, [(.l 2147483647)], ls 0 8, [(.v 16)], ls 0 15]), .pre 1 [(.l 2)], .pre 2 []], [], [1]⟩⟩, ⟨outs_Inv, []⟩, 60⟩
theorem r_Inv : runBody Try.prog [T_Minus, T_Small, T_P, T_Pow] [] Try.f19 p_Inv.fuel T_Inv.args T_Inv.mem T_Inv.nin p_Inv.orc = some p_Inv.out := by kernel_rfl
theorem good_Inv (W : World0 Try.prog) : Good W T_Inv s_Inv := straight (l := l_Inv) (p := p_Inv) (by exact ⟨good_Minus W, good_Small W, good_P W, good_Pow W, trivial⟩) Try.func19 Try.call19 r_Inv (by kernel_rfl) rfl

def T_mone : Tmpl := ⟨36, [], [], 0, 16, true, .one (.agg (us .u32 0 16)), [], []⟩
def p_mone : Path := ⟨[], [], ⟨.one (.agg (us .u32 110 16)), [(us .u32 110 16), [.int .u32 (.v 65), .int .u32 (.v 68), .int .u32 (.v 71), .int .u32 (.v 74), .int .u32 (.v 77), .int .u32 (.v 80), .int .u32 (.v 83), .int .u32 (.v 86), .int .u32 (.v 89), .int .u32 (.v 92), .int .u32 (.v 95), .int .u32 (.v 98), .int .u32 (.v 101), .int .u32 (.v 104), .int .u32 (.v 107), .int .u32 (.v 108)]], ⟨g_mone, 126, [.pre 3 ([(.v 109)] ++ (ls 0 15) ++ [(.v 65), (.v 68), (.v 71), (.v 74), (.v 77), (.v 80), (.v 83), (.v 86), (.v 89), (.v 92), (.v 95), (.v 98), (.v 101), (.v 104), (.v 107), (.v 108)]), .pre 1 [(.l 2)], .pre 0 (List.flatten [[(.l 4294967277)], ls 4294967295 6, [(.l 2147483647)], ls 0 8, [(.v 0)], ls 0 15]), .pre 1 [(.l 1)], .pre 2 []], [], [0, 1, 1, 1, 1, 1, 1, 1, 1, 1, 1, 1, 1, 1, 1, 1, 1, 1, 1, 1, 1, 1, 1, 1, 1, 1, 1, 1, 1, 1, 1, 1, 1, 1, 1, 1, 1, 1, 1, 1, 1, 1, 1, 1, 1, 1, 1, 1, 1, 1, 1, 1, 1, 1, 1, 1, 1, 1, 1, 1, 1, 1, 1, 1]⟩⟩, ⟨outs_mone, []⟩, 200⟩
theorem r_mone : runBody Try.prog [T_Minus, T_Small, T_P, T_Pow] [] Try.f36 p_mone.fuel T_mone.args T_mone.mem T_mone.nin p_mone.orc = some p_mone.out := by kernel_rfl
theorem good_mone (W : World0 Try.prog) : Good W T_mone s_mone := straight (l := l_mone) (p := p_mone) (by exact ⟨good_Minus W, good_Small W, good_P W, good_Pow W, trivial⟩) Try.func36 Try.call36 r_mone (by kernel_rfl) rfl

def T_root : Tmpl := ⟨40, [.one (.agg (us .u32 0 16)), .one (.lf (.ptr 0 0)), .one (.lf (.ptr 1 0))], [(us .u32 16 16), (us .u32 32 16)], 48, 17, true, .tup [.agg (us .u32 48 16), .lf (.bool (.v 64))], [none, none], []⟩
def p_root_0 : Path := ⟨(bs 48 0 4294967295), [false, false], ⟨.tup [.agg (us .u32 48 16), .lf (.bool (.v 99))], [(us .u32 16 16), (us .u32 32 16), (us .u32 0 16), (us .u32 48 16), (us .u32 48 16)], ⟨g_root_0, 100, [.pre 0 ((vs 48 16) ++ (vs 48 16)), .cond (.v 82) false, .pre 2 (vs 48 16), .cond (.v 81) false, .pre 0 ((vs 48 16) ++ (vs 48 16)), .pre 3 (vs 0 32)], [], [3, 4]⟩⟩, ⟨outs_root_0, []⟩, 60⟩
theorem r_root_0 : runBody Try.prog [T_FMul, T_FNeg, T_Odd, T_Pow] [] Try.f40 p_root_0.fuel T_root.args T_root.mem T_root.nin p_root_0.orc = some p_root_0.out := by kernel_rfl
def p_root_1 : Path := ⟨(bs 48 0 4294967295), [false, true], ⟨.tup [.agg (us .u32 83 16), .lf (.bool (.v 115))], [(us .u32 16 16), (us .u32 32 16), (us .u32 0 16), (us .u32 83 16), (us .u32 83 16)], ⟨g_root_1, 116, [.pre 0 ((vs 83 16) ++ (vs 83 16)), .pre 1 (vs 48 16), .cond (.v 82) true, .pre 2 (vs 48 16), .cond (.v 81) false, .pre 0 ((vs 48 16) ++ (vs 48 16)), .pre 3 (vs 0 32)], [], [3, 4, 4]⟩⟩, ⟨outs_root_1, []⟩, 60⟩
theorem r_root_1 : runBody Try.prog [T_FMul, T_FNeg, T_Odd, T_Pow] [] Try.f40 p_root_1.fuel T_root.args T_root.mem T_root.nin p_root_1.orc = some p_root_1.out := by kernel_rfl
def p_root_2 : Path := ⟨(bs 48 0 4294967295), [true, false], ⟨.tup [.agg (us .u32 82 16), .lf (.bool (.v 115))], [(us .u32 16 16), (us .u32 32 16), (us .u32 0 16), (us .u32 82 16), (us .u32 82 16)], ⟨g_root_2, 116, [.pre 0 ((vs 82 16) ++ (vs 82 16)), .cond (.v 98) false, .pre 2 (vs 82 16), .pre 0 ((vs 48 16) ++ (vs 32 16)), .cond (.v 81) true, .pre 0 ((vs 48 16) ++ (vs 48 16)), .pre 3 (vs 0 32)], [], [3, 4, 4]⟩⟩, ⟨outs_root_2, []⟩, 60⟩
theorem r_root_2 : runBody Try.prog [T_FMul, T_FNeg, T_Odd, T_Pow] [] Try.f40 p_root_2.fuel T_root.args T_root.mem T_root.nin p_root_2.orc = some p_root_2.out := by kernel_rfl
def p_root_3 : Path := ⟨(bs 48 0 4294967295), [true, true], ⟨.tup [.agg (us .u32 99 16), .lf (.bool (.v 131))], [(us .u32 16 16), (us .u32 32 16), (us .u32 0 16), (us .u32 99 16), (us .u32 99 16)], ⟨g_root_3, 132, [.pre 0 ((vs 99 16) ++ (vs 99 16)), .pre 1 (vs 82 16), .cond (.v 98) true, .pre 2 (vs 82 16), .pre 0 ((vs 48 16) ++ (vs 32 16)), .cond (.v 81) true, .pre 0 ((vs 48 16) ++ (vs 48 16)), .pre 3 (vs 0 32)], [], [3, 4, 4, 4]⟩⟩, ⟨outs_root_3, []⟩, 60⟩
theorem r_root_3 : runBody Try.prog [T_FMul, T_FNeg, T_Odd, T_Pow] [] Try.f40 p_root_3.fuel T_root.args T_root.mem T_root.nin p_root_3.orc = some p_root_3.out := by kernel_rfl
theorem good_root (W : World0 Try.prog) : Good W T_root s_root := paths (ts := [T_FMul, T_FNeg, T_Odd, T_Pow]) (l := l_root) (ps := [p_root_0, p_root_1, p_root_2, p_root_3]) (by exact ⟨good_FMul W, good_FNeg W, good_Odd W, good_Pow W, trivial⟩) (by kernel_rfl) Try.func40 Try.call40 (by kernel_rfl) (by
  intro p hp
  simp only [List.mem_cons, List.not_mem_nil, or_false] at hp
  rcases hp with rfl | rfl | rfl | rfl
  · exact ⟨r_root_0, by kernel_rfl⟩
  · exact ⟨r_root_1, by kernel_rfl⟩
  · exact ⟨r_root_2, by kernel_rfl⟩
  · exact ⟨r_root_3, by kernel_rfl⟩
  ) (paths_fp cov_root (by kernel_rfl))

end
end Go.X.Y

set_option maxRecDepth 20000
namespace Go.X.Y
open Go.Proofs
noncomputable section
def T_Ratio : Tmpl := ⟨13, [.one (.agg (us .u32 0 16)), .one (.agg (us .u32 16 16))], [], 32, 17, true, .tup [.agg (us .u32 32 16), .lf (.bool (.v 48))], [], []⟩
def p_Ratio_0 : Path := ⟨(bs 32 0 4294967295), [false, true], ⟨.tup [.agg [.int .u32 (.l 0), .int .u32 (.l 0), .int .u32 (.l 0), .int .u32 (.l 0), .int .u32 (.l 0), .int .u32 (.l 0), .int .u32 (.l 0), .int .u32 (.l 0), .int .u32 (.l 0), .int .u32 (.l 0), .int .u32 (.l 0), .int .u32 (.l 0), .int .u32 (.l 0), .int .u32 (.l 0), .int .u32 (.l 0), .int .u32 (.l 0)], .lf (.bool (.l 1))], [(us .u32 0 16), (us .u32 16 16), [.int .u32 (.l 0), .int .u32 (.l 0), .int .u32 (.l 0), .int .u32 (.l 0), .int .u32 (.l 0), .int .u32 (.l 0), .int .u32 (.l 0), .int .u32 (.l 0), .int .u32 (.l 0), .int .u32 (.l 0), .int .u32 (.l 0), .int .u32 (.l 0), .int .u32 (.l 0), .int .u32 (.l 0), .int .u32 (.l 0), .int .u32 (.l 0)], (us .u32 48 16), (us .u32 64 16), [.int .u32 (.v 192), .int .u32 (.v 195), .int .u32 (.v 198), .int .u32 (.v 201), .int .u32 (.v 204), .int .u32 (.v 207), .int .u32 (.v 210), .int .u32 (.v 213), .int .u32 (.v 216), .int .u32 (.v 219), .int .u32 (.v 222), .int .u32 (.v 225), .int .u32 (.v 228), .int .u32 (.v 231), .int .u32 (.v 234), .int .u32 (.v 235)]], ⟨g_Ratio_0, 237, [.cond (.v 236) true, .pre 0 (List.flatten [[(.l 4294967277)], ls 4294967295 6, [(.l 2147483647)], ls 0 8, [(.v 81)], ls 0 15]), .pre 1 [(.l 3)], .pre 2 [], .cond (.v 80) false, .pre 5 (vs 64 16), .pre 7 [], .pre 3 ((vs 0 16) ++ (vs 32 16)), .pre 6 (vs 16 16)], [], [2, 5, 5, 5, 5, 5, 5, 5, 5, 5, 5, 5, 5, 5, 5, 5, 5, 5, 5, 5, 5, 5, 5, 5, 5, 5, 5, 5, 5, 5, 5, 5, 5, 5, 5, 5, 5, 5, 5, 5, 5, 5, 5, 5, 5, 5, 5, 5, 5, 5, 5, 5, 5, 5, 5, 5, 5, 5, 5, 5, 5, 5, 5, 5, 5, 5, 5, 5, 5, 5, 5, 5, 5, 5, 5, 5, 5, 5, 5, 5, 5, 5, 5, 5, 5, 5, 5, 5, 5, 5, 5, 5, 5, 5, 5, 4, 3]⟩⟩, ⟨outs_Ratio_0, []⟩, 200⟩
theorem r_Ratio_0 : runBody Try.prog [T_Plus, T_Small, T_P, T_FMul, T_FNeg, T_Odd, T_Inv, T_mone, T_root] [] Try.f13 p_Ratio_0.fuel T_Ratio.args T_Ratio.mem T_Ratio.nin p_Ratio_0.orc = some p_Ratio_0.out := by kernel_rfl
def p_Ratio_1 : Path := ⟨(bs 32 0 4294967295), [false, false, true], ⟨.tup [.agg [.int .u32 (.l 0), .int .u32 (.l 0), .int .u32 (.l 0), .int .u32 (.l 0), .int .u32 (.l 0), .int .u32 (.l 0), .int .u32 (.l 0), .int .u32 (.l 0), .int .u32 (.l 0), .int .u32 (.l 0), .int .u32 (.l 0), .int .u32 (.l 0), .int .u32 (.l 0), .int .u32 (.l 0), .int .u32 (.l 0), .int .u32 (.l 0)], .lf (.bool (.l 0))], [(us .u32 0 16), (us .u32 16 16), [.int .u32 (.l 0), .int .u32 (.l 0), .int .u32 (.l 0), .int .u32 (.l 0), .int .u32 (.l 0), .int .u32 (.l 0), .int .u32 (.l 0), .int .u32 (.l 0), .int .u32 (.l 0), .int .u32 (.l 0), .int .u32 (.l 0), .int .u32 (.l 0), .int .u32 (.l 0), .int .u32 (.l 0), .int .u32 (.l 0), .int .u32 (.l 0)], (us .u32 48 16), (us .u32 64 16), [.int .u32 (.v 192), .int .u32 (.v 195), .int .u32 (.v 198), .int .u32 (.v 201), .int .u32 (.v 204), .int .u32 (.v 207), .int .u32 (.v 210), .int .u32 (.v 213), .int .u32 (.v 216), .int .u32 (.v 219), .int .u32 (.v 222), .int .u32 (.v 225), .int .u32 (.v 228), .int .u32 (.v 231), .int .u32 (.v 234), .int .u32 (.v 235)]], ⟨g_Ratio_1, 238, [.cond (.v 237) true, .cond (.v 236) false, .pre 0 (List.flatten [[(.l 4294967277)], ls 4294967295 6, [(.l 2147483647)], ls 0 8, [(.v 81)], ls 0 15]), .pre 1 [(.l 3)], .pre 2 [], .cond (.v 80) false, .pre 5 (vs 64 16), .pre 7 [], .pre 3 ((vs 0 16) ++ (vs 32 16)), .pre 6 (vs 16 16)], [], [2, 5, 5, 5, 5, 5, 5, 5, 5, 5, 5, 5, 5, 5, 5, 5, 5, 5, 5, 5, 5, 5, 5, 5, 5, 5, 5, 5, 5, 5, 5, 5, 5, 5, 5, 5, 5, 5, 5, 5, 5, 5, 5, 5, 5, 5, 5, 5, 5, 5, 5, 5, 5, 5, 5, 5, 5, 5, 5, 5, 5, 5, 5, 5, 5, 5, 5, 5, 5, 5, 5, 5, 5, 5, 5, 5, 5, 5, 5, 5, 5, 5, 5, 5, 5, 5, 5, 5, 5, 5, 5, 5, 5, 5, 5, 4, 3]⟩⟩, ⟨outs_Ratio_1, []⟩, 200⟩
theorem r_Ratio_1 : runBody Try.prog [T_Plus, T_Small, T_P, T_FMul, T_FNeg, T_Odd, T_Inv, T_mone, T_root] [] Try.f13 p_Ratio_1.fuel T_Ratio.args T_Ratio.mem T_Ratio.nin p_Ratio_1.orc = some p_Ratio_1.out := by kernel_rfl
def p_Ratio_2 : Path := ⟨(bs 32 0 4294967295), [false, false, false, true], ⟨.tup [.agg (us .u32 238 16), .lf (.bool (.l 1))], [(us .u32 0 16), (us .u32 16 16), (us .u32 238 16), (us .u32 48 16), (us .u32 64 16), [.int .u32 (.v 192), .int .u32 (.v 195), .int .u32 (.v 198), .int .u32 (.v 201), .int .u32 (.v 204), .int .u32 (.v 207), .int .u32 (.v 210), .int .u32 (.v 213), .int .u32 (.v 216), .int .u32 (.v 219), .int .u32 (.v 222), .int .u32 (.v 225), .int .u32 (.v 228), .int .u32 (.v 231), .int .u32 (.v 234), .int .u32 (.v 235)], (us .u32 238 16)], ⟨g_Ratio_2, 255, [.cond (.v 254) true, .pre 8 ((vs 48 16) ++ [(.v 192), (.v 195), (.v 198), (.v 201), (.v 204), (.v 207), (.v 210), (.v 213), (.v 216), (.v 219), (.v 222), (.v 225), (.v 228), (.v 231), (.v 234), (.v 235)] ++ (vs 64 16)), .cond (.v 237) false, .cond (.v 236) false, .pre 0 (List.flatten [[(.l 4294967277)], ls 4294967295 6, [(.l 2147483647)], ls 0 8, [(.v 81)], ls 0 15]), .pre 1 [(.l 3)], .pre 2 [], .cond (.v 80) false, .pre 5 (vs 64 16), .pre 7 [], .pre 3 ((vs 0 16) ++ (vs 32 16)), .pre 6 (vs 16 16)], [], [2, 6, 5, 5, 5, 5, 5, 5, 5, 5, 5, 5, 5, 5, 5, 5, 5, 5, 5, 5, 5, 5, 5, 5, 5, 5, 5, 5, 5, 5, 5, 5, 5, 5, 5, 5, 5, 5, 5, 5, 5, 5, 5, 5, 5, 5, 5, 5, 5, 5, 5, 5, 5, 5, 5, 5, 5, 5, 5, 5, 5, 5, 5, 5, 5, 5, 5, 5, 5, 5, 5, 5, 5, 5, 5, 5, 5, 5, 5, 5, 5, 5, 5, 5, 5, 5, 5, 5, 5, 5, 5, 5, 5, 5, 5, 5, 4, 3]⟩⟩, ⟨outs_Ratio_2, []⟩, 200⟩
theorem r_Ratio_2 : runBody Try.prog [T_Plus, T_Small, T_P, T_FMul, T_FNeg, T_Odd, T_Inv, T_mone, T_root] [] Try.f13 p_Ratio_2.fuel T_Ratio.args T_Ratio.mem T_Ratio.nin p_Ratio_2.orc = some p_Ratio_2.out := by kernel_rfl
def p_Ratio_3 : Path := ⟨(bs 32 0 4294967295), [false, false, false, false], ⟨.tup [.agg (us .u32 271 16), .lf (.bool (.l 0))], [(us .u32 0 16), (us .u32 16 16), (us .u32 271 16), (us .u32 48 16), (us .u32 64 16), [.int .u32 (.v 192), .int .u32 (.v 195), .int .u32 (.v 198), .int .u32 (.v 201), .int .u32 (.v 204), .int .u32 (.v 207), .int .u32 (.v 210), .int .u32 (.v 213), .int .u32 (.v 216), .int .u32 (.v 219), .int .u32 (.v 222), .int .u32 (.v 225), .int .u32 (.v 228), .int .u32 (.v 231), .int .u32 (.v 234), .int .u32 (.v 235)], (us .u32 238 16), (us .u32 271 16)], ⟨g_Ratio_3, 288, [.pre 8 ((vs 255 16) ++ [(.v 192), (.v 195), (.v 198), (.v 201), (.v 204), (.v 207), (.v 210), (.v 213), (.v 216), (.v 219), (.v 222), (.v 225), (.v 228), (.v 231), (.v 234), (.v 235)] ++ (vs 64 16)), .pre 3 (vs 48 32), .cond (.v 254) false, .pre 8 ((vs 48 16) ++ [(.v 192), (.v 195), (.v 198), (.v 201), (.v 204), (.v 207), (.v 210), (.v 213), (.v 216), (.v 219), (.v 222), (.v 225), (.v 228), (.v 231), (.v 234), (.v 235)] ++ (vs 64 16)), .cond (.v 237) false, .cond (.v 236) false, .pre 0 (List.flatten [[(.l 4294967277)], ls 4294967295 6, [(.l 2147483647)], ls 0 8, [(.v 81)], ls 0 15]), .pre 1 [(.l 3)], .pre 2 [], .cond (.v 80) false, .pre 5 (vs 64 16), .pre 7 [], .pre 3 ((vs 0 16) ++ (vs 32 16)), .pre 6 (vs 16 16)], [], [2, 7, 6, 5, 5, 5, 5, 5, 5, 5, 5, 5, 5, 5, 5, 5, 5, 5, 5, 5, 5, 5, 5, 5, 5, 5, 5, 5, 5, 5, 5, 5, 5, 5, 5, 5, 5, 5, 5, 5, 5, 5, 5, 5, 5, 5, 5, 5, 5, 5, 5, 5, 5, 5, 5, 5, 5, 5, 5, 5, 5, 5, 5, 5, 5, 5, 5, 5, 5, 5, 5, 5, 5, 5, 5, 5, 5, 5, 5, 5, 5, 5, 5, 5, 5, 5, 5, 5, 5, 5, 5, 5, 5, 5, 5, 5, 5, 4, 3]⟩⟩, ⟨outs_Ratio_3, []⟩, 200⟩
theorem r_Ratio_3 : runBody Try.prog [T_Plus, T_Small, T_P, T_FMul, T_FNeg, T_Odd, T_Inv, T_mone, T_root] [] Try.f13 p_Ratio_3.fuel T_Ratio.args T_Ratio.mem T_Ratio.nin p_Ratio_3.orc = some p_Ratio_3.out := by kernel_rfl
theorem good_Ratio (W : World0 Try.prog) : Good W T_Ratio s_Ratio := paths (ts := [T_Plus, T_Small, T_P, T_FMul, T_FNeg, T_Odd, T_Inv, T_mone, T_root]) (l := l_Ratio) (ps := [p_Ratio_0, p_Ratio_1, p_Ratio_2, p_Ratio_3]) (by exact ⟨good_Plus W, good_Small W, good_P W, good_FMul W, good_FNeg W, good_Odd W, good_Inv W, good_mone W, good_root W, trivial⟩) (by kernel_rfl) Try.func13 Try.call13 (by kernel_rfl) (by
  intro p hp
  simp only [List.mem_cons, List.not_mem_nil, or_false] at hp
  rcases hp with rfl | rfl | rfl | rfl
  · exact ⟨r_Ratio_0, by kernel_rfl⟩
  · exact ⟨r_Ratio_1, by kernel_rfl⟩
  · exact ⟨r_Ratio_2, by kernel_rfl⟩
  · exact ⟨r_Ratio_3, by kernel_rfl⟩
  ) (paths_fp cov_Ratio (by kernel_rfl))

end
end Go.X.Y
