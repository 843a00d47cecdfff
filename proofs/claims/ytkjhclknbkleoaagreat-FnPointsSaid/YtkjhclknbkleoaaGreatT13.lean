/-
  A part of the proof of YtkjhclknbkleoaaGreat: texts ZJ. No conditions.
-/
import Derived.Test.YtkjhclknbkleoaaGreatT12
import Derived.KernelRfl
import Derived.Test.YtkjhclknbkleoaaGreatProg
set_option maxRecDepth 20000
namespace Go.X.Z
open Go.Proofs
noncomputable section
def T_SqrtRatio : Tmpl := ⟨69, [.one (.lf (.ptr 2 0)), .one (.lf (.ptr 0 0)), .one (.lf (.ptr 1 0))], [(us .u64 0 5), (us .u64 5 5), (anys 5)], 10, 6, true, .tup [.lf (.ptr 2 0), .lf (.int .i64 (.v 10))], [none, none, some (us .u64 11 5)], []⟩
def p_SqrtRatio : Path := ⟨(bs 10 0 4503599627370458), [], ⟨.tup [.lf (.ptr 2 0), .lf (.int .i64 (.v 84))], [(us .u64 0 5), (us .u64 5 5), (us .u64 79 5), (us .u64 62 5), (us .u64 10 5), (us .u64 20 5), (us .u64 30 5), (us .u64 74 5), (us .u64 50 5), (us .u64 55 5), [.int .u64 (.l 1718705420411056), .int .u64 (.l 234908883556509), .int .u64 (.l 2233514472574048), .int .u64 (.l 2117202627021982), .int .u64 (.l 765476049583133)], (us .u64 68 5), [.int .u64 (.l 1718705420411056), .int .u64 (.l 234908883556509), .int .u64 (.l 2233514472574048), .int .u64 (.l 2117202627021982), .int .u64 (.l 765476049583133)]], ⟨g_SqrtRatio, 85, [.pre 8 (vs 74 5), .pre 7 ((vs 68 5) ++ (vs 40 5) ++ [(.v 73)]), .pre 0 ((vs 40 5) ++ [(.l 1718705420411056), (.l 234908883556509), (.l 2233514472574048), (.l 2117202627021982), (.l 765476049583133)]), .pre 9 [], .pre 11 ((vs 50 5) ++ (vs 62 5)), .pre 0 ((vs 55 5) ++ [(.l 1718705420411056), (.l 234908883556509), (.l 2233514472574048), (.l 2117202627021982), (.l 765476049583133)]), .pre 9 [], .pre 11 (vs 50 10), .pre 11 ((vs 50 5) ++ (vs 0 5)), .pre 5 (vs 0 5), .pre 0 ((vs 5 5) ++ (vs 45 5)), .pre 3 (vs 40 5), .pre 0 ((vs 20 5) ++ (vs 35 5)), .pre 10 (vs 30 5), .pre 0 (vs 20 10), .pre 3 (vs 10 5), .pre 0 ((vs 0 5) ++ (vs 15 5)), .pre 0 ((vs 10 5) ++ (vs 5 5)), .pre 3 (vs 5 5)], [], [2, 7, 11, 3, 9, 8, 3, 7, 3, 6, 3, 5, 3, 4]⟩⟩, ⟨outs_SqrtRatio, []⟩, 60⟩
theorem r_SqrtRatio : runBody Tryz.prog [T_Mul, T_Mulx, T_Muly, T_Sq, T_Sqx, T_Neg, T_Sel, T_Sely, T_Abs, T_sqrtM1, T_Pow22523, T_Equal] [] Tryz.f69 p_SqrtRatio.fuel T_SqrtRatio.args T_SqrtRatio.mem T_SqrtRatio.nin p_SqrtRatio.orc = some p_SqrtRatio.out := by kernel_rfl
theorem good_SqrtRatio (W : World0 Tryz.prog) : Good W T_SqrtRatio s_SqrtRatio := straight (l := l_SqrtRatio) (p := p_SqrtRatio) (by exact ⟨good_Mul W, good_Mulx W, good_Muly W, good_Sq W, good_Sqx W, good_Neg W, good_Sel W, good_Sely W, good_Abs W, good_sqrtM1 W, good_Pow22523 W, good_Equal W, trivial⟩) Tryz.func69 Tryz.call69 r_SqrtRatio (by kernel_rfl) rfl

end
end Go.X.Z
