/-
  A part of the proof of Ytkjhclknbkleoaa: texts Rk. No conditions.
-/
import Derived.Test.YtkjhclknbkleoaaQ11
import Derived.KernelRfl
import Derived.Test.YtkjhclknbkleoaaProg
set_option maxRecDepth 20000
namespace Go.X.Y
open Go.Proofs
noncomputable section
def T_SqrtRatio : Tmpl := ⟨33, [.one (.lf (.ptr 2 0)), .one (.lf (.ptr 0 0)), .one (.lf (.ptr 1 0))], [(us .u64 0 5), (us .u64 5 5), [.any, .any, .any, .any, .any]], 10, 6, true, .tup [.lf (.ptr 2 0), .lf (.int .i64 (.v 10))], [none, none, some (us .u64 11 5)], []⟩
def p_SqrtRatio : Path := ⟨(bs 10 0 4503599627370458), [], ⟨.tup [.lf (.ptr 2 0), .lf (.int .i64 (.v 84))], [(us .u64 0 5), (us .u64 5 5), (us .u64 79 5), (us .u64 62 5), (us .u64 10 5), (us .u64 20 5), (us .u64 30 5), (us .u64 74 5), (us .u64 50 5), (us .u64 55 5), [.int .u64 (.l 1718705420411056), .int .u64 (.l 234908883556509), .int .u64 (.l 2233514472574048), .int .u64 (.l 2117202627021982), .int .u64 (.l 765476049583133)], (us .u64 68 5), [.int .u64 (.l 1718705420411056), .int .u64 (.l 234908883556509), .int .u64 (.l 2233514472574048), .int .u64 (.l 2117202627021982), .int .u64 (.l 765476049583133)]], ⟨g_SqrtRatio, 85, [.pre 8 (vs 74 5), .pre 7 ((vs 68 5) ++ (vs 40 5) ++ [(.v 73)]), .pre 0 ((vs 40 5) ++ [(.l 1718705420411056), (.l 234908883556509), (.l 2233514472574048), (.l 2117202627021982), (.l 765476049583133)]), .pre 9 [], .pre 11 ((vs 50 5) ++ (vs 62 5)), .pre 0 ((vs 55 5) ++ [(.l 1718705420411056), (.l 234908883556509), (.l 2233514472574048), (.l 2117202627021982), (.l 765476049583133)]), .pre 9 [], .pre 11 (vs 50 10), .pre 11 ((vs 50 5) ++ (vs 0 5)), .pre 5 (vs 0 5), .pre 0 ((vs 5 5) ++ (vs 45 5)), .pre 3 (vs 40 5), .pre 0 ((vs 20 5) ++ (vs 35 5)), .pre 10 (vs 30 5), .pre 0 (vs 20 10), .pre 3 (vs 10 5), .pre 0 ((vs 0 5) ++ (vs 15 5)), .pre 0 ((vs 10 5) ++ (vs 5 5)), .pre 3 (vs 5 5)], [], [2, 7, 11, 3, 9, 8, 3, 7, 3, 6, 3, 5, 3, 4]⟩⟩, ⟨outs_SqrtRatio, []⟩, 60⟩
theorem r_SqrtRatio : runBody Try.prog [T_Mul, T_Mulx, T_Muly, T_Sq, T_Sqx, T_Neg, T_Sel, T_Sely, T_Abs, T_sqrtM1, T_Pow22523, T_Equal] [] Try.f33 p_SqrtRatio.fuel T_SqrtRatio.args T_SqrtRatio.mem T_SqrtRatio.nin p_SqrtRatio.orc = some p_SqrtRatio.out := by kernel_rfl
theorem good_SqrtRatio (W : World0 Try.prog) : Good W T_SqrtRatio s_SqrtRatio := straight (l := l_SqrtRatio) (p := p_SqrtRatio) (by exact ⟨good_Mul W, good_Mulx W, good_Muly W, good_Sq W, good_Sqx W, good_Neg W, good_Sel W, good_Sely W, good_Abs W, good_sqrtM1 W, good_Pow22523 W, good_Equal W, trivial⟩) Try.func33 Try.call33 r_SqrtRatio (by kernel_rfl) rfl

def T_iRatio : Tmpl := ⟨11, [.one (.lf (.slc 0 0 32 none)), .one (.lf (.slc 1 0 32 none))], [(us .u8 0 32), (us .u8 32 32)], 64, 33, true, .tup [.lf (.slc 2 0 32 (some 32)), .lf (.bool (.v 64))], [none, none], [(us .u8 65 32)]⟩
def p_iRatio : Path := ⟨(bs 64 0 255), [], ⟨.tup [.lf (.slc 5 0 32 (some 32)), .lf (.bool (.v 112))], [(us .u8 0 32), (us .u8 32 32), (us .u64 75 5), (us .u64 64 5), (us .u64 69 5), (us .u8 80 32)], ⟨g_iRatio, 113, [.pre 0 (vs 75 5), .pre 2 (vs 64 10), .pre 1 (vs 32 32), .pre 1 (vs 0 32)], [], [2]⟩⟩, ⟨outs_iRatio, [5]⟩, 60⟩
theorem r_iRatio : runBody Try.prog [T_Bytes, T_element, T_SqrtRatio] [] Try.f11 p_iRatio.fuel T_iRatio.args T_iRatio.mem T_iRatio.nin p_iRatio.orc = some p_iRatio.out := by kernel_rfl
theorem good_iRatio (W : World0 Try.prog) : Good W T_iRatio s_iRatio := straight (l := l_iRatio) (p := p_iRatio) (by exact ⟨good_Bytes W, good_element W, good_SqrtRatio W, trivial⟩) Try.func11 Try.call11 r_iRatio (by kernel_rfl) rfl

end
end Go.X.Y
