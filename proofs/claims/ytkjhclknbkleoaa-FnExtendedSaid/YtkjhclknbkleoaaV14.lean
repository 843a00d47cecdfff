/-
  A part of the proof of Ytkjhclknbkleoaa: texts Rn, Rg, Rh, Ri, Rj, M20, M21, G9, M22, M23, M24, Ro, X31, X32, M25, G10. No conditions.
-/
import Derived.Test.YtkjhclknbkleoaaV13
import Derived.KernelRfl
import Derived.Test.YtkjhclknbkleoaaProg
set_option maxRecDepth 20000
namespace Go.X.Y
open Go.Proofs
noncomputable section
end
end Go.X.Y

set_option maxRecDepth 20000
namespace Go.X.Y
open Go.Proofs
noncomputable section
def T_Less : Tmpl := ⟨66, [.one (.agg (us .u32 0 16)), .one (.agg (us .u32 16 16))], [], 32, 1, true, .one (.lf (.bool (.v 32))), [], []⟩
def p_Less_0 : Path := ⟨(bs 32 0 4294967295), [true], ⟨.one (.lf (.bool (.v 33))), [(us .u32 0 16), (us .u32 16 16)], ⟨g_Less_0, 34, [.cond (.v 32) true], [], []⟩⟩, ⟨outs_Less_0, []⟩, 200⟩
theorem r_Less_0 : runBody Try.prog [] [] Try.f66 p_Less_0.fuel T_Less.args T_Less.mem T_Less.nin p_Less_0.orc = some p_Less_0.out := by kernel_rfl
def p_Less_1 : Path := ⟨(bs 32 0 4294967295), [false, true], ⟨.one (.lf (.bool (.v 34))), [(us .u32 0 16), (us .u32 16 16)], ⟨g_Less_1, 35, [.cond (.v 33) true, .cond (.v 32) false], [], []⟩⟩, ⟨outs_Less_1, []⟩, 200⟩
theorem r_Less_1 : runBody Try.prog [] [] Try.f66 p_Less_1.fuel T_Less.args T_Less.mem T_Less.nin p_Less_1.orc = some p_Less_1.out := by kernel_rfl
def p_Less_2 : Path := ⟨(bs 32 0 4294967295), [false, false, true], ⟨.one (.lf (.bool (.v 35))), [(us .u32 0 16), (us .u32 16 16)], ⟨g_Less_2, 36, [.cond (.v 34) true, .cond (.v 33) false, .cond (.v 32) false], [], []⟩⟩, ⟨outs_Less_2, []⟩, 200⟩
theorem r_Less_2 : runBody Try.prog [] [] Try.f66 p_Less_2.fuel T_Less.args T_Less.mem T_Less.nin p_Less_2.orc = some p_Less_2.out := by kernel_rfl
def p_Less_3 : Path := ⟨(bs 32 0 4294967295), [false, false, false, true], ⟨.one (.lf (.bool (.v 36))), [(us .u32 0 16), (us .u32 16 16)], ⟨g_Less_3, 37, [.cond (.v 35) true, .cond (.v 34) false, .cond (.v 33) false, .cond (.v 32) false], [], []⟩⟩, ⟨outs_Less_3, []⟩, 200⟩
theorem r_Less_3 : runBody Try.prog [] [] Try.f66 p_Less_3.fuel T_Less.args T_Less.mem T_Less.nin p_Less_3.orc = some p_Less_3.out := by kernel_rfl
def p_Less_4 : Path := ⟨(bs 32 0 4294967295), [false, false, false, false, true], ⟨.one (.lf (.bool (.v 37))), [(us .u32 0 16), (us .u32 16 16)], ⟨g_Less_4, 38, [.cond (.v 36) true, .cond (.v 35) false, .cond (.v 34) false, .cond (.v 33) false, .cond (.v 32) false], [], []⟩⟩, ⟨outs_Less_4, []⟩, 200⟩
theorem r_Less_4 : runBody Try.prog [] [] Try.f66 p_Less_4.fuel T_Less.args T_Less.mem T_Less.nin p_Less_4.orc = some p_Less_4.out := by kernel_rfl
def p_Less_5 : Path := ⟨(bs 32 0 4294967295), [false, false, false, false, false, true], ⟨.one (.lf (.bool (.v 38))), [(us .u32 0 16), (us .u32 16 16)], ⟨g_Less_5, 39, [.cond (.v 37) true, .cond (.v 36) false, .cond (.v 35) false, .cond (.v 34) false, .cond (.v 33) false, .cond (.v 32) false], [], []⟩⟩, ⟨outs_Less_5, []⟩, 200⟩
theorem r_Less_5 : runBody Try.prog [] [] Try.f66 p_Less_5.fuel T_Less.args T_Less.mem T_Less.nin p_Less_5.orc = some p_Less_5.out := by kernel_rfl
def p_Less_6 : Path := ⟨(bs 32 0 4294967295), [false, false, false, false, false, false, true], ⟨.one (.lf (.bool (.v 39))), [(us .u32 0 16), (us .u32 16 16)], ⟨g_Less_6, 40, [.cond (.v 38) true, .cond (.v 37) false, .cond (.v 36) false, .cond (.v 35) false, .cond (.v 34) false, .cond (.v 33) false, .cond (.v 32) false], [], []⟩⟩, ⟨outs_Less_6, []⟩, 200⟩
theorem r_Less_6 : runBody Try.prog [] [] Try.f66 p_Less_6.fuel T_Less.args T_Less.mem T_Less.nin p_Less_6.orc = some p_Less_6.out := by kernel_rfl
def p_Less_7 : Path := ⟨(bs 32 0 4294967295), [false, false, false, false, false, false, false, true], ⟨.one (.lf (.bool (.v 40))), [(us .u32 0 16), (us .u32 16 16)], ⟨g_Less_7, 41, [.cond (.v 39) true, .cond (.v 38) false, .cond (.v 37) false, .cond (.v 36) false, .cond (.v 35) false, .cond (.v 34) false, .cond (.v 33) false, .cond (.v 32) false], [], []⟩⟩, ⟨outs_Less_7, []⟩, 200⟩
theorem r_Less_7 : runBody Try.prog [] [] Try.f66 p_Less_7.fuel T_Less.args T_Less.mem T_Less.nin p_Less_7.orc = some p_Less_7.out := by kernel_rfl
def p_Less_8 : Path := ⟨(bs 32 0 4294967295), [false, false, false, false, false, false, false, false, true], ⟨.one (.lf (.bool (.v 41))), [(us .u32 0 16), (us .u32 16 16)], ⟨g_Less_8, 42, [.cond (.v 40) true, .cond (.v 39) false, .cond (.v 38) false, .cond (.v 37) false, .cond (.v 36) false, .cond (.v 35) false, .cond (.v 34) false, .cond (.v 33) false, .cond (.v 32) false], [], []⟩⟩, ⟨outs_Less_8, []⟩, 200⟩
theorem r_Less_8 : runBody Try.prog [] [] Try.f66 p_Less_8.fuel T_Less.args T_Less.mem T_Less.nin p_Less_8.orc = some p_Less_8.out := by kernel_rfl
def p_Less_9 : Path := ⟨(bs 32 0 4294967295), [false, false, false, false, false, false, false, false, false, true], ⟨.one (.lf (.bool (.v 42))), [(us .u32 0 16), (us .u32 16 16)], ⟨g_Less_9, 43, [.cond (.v 41) true, .cond (.v 40) false, .cond (.v 39) false, .cond (.v 38) false, .cond (.v 37) false, .cond (.v 36) false, .cond (.v 35) false, .cond (.v 34) false, .cond (.v 33) false, .cond (.v 32) false], [], []⟩⟩, ⟨outs_Less_9, []⟩, 200⟩
theorem r_Less_9 : runBody Try.prog [] [] Try.f66 p_Less_9.fuel T_Less.args T_Less.mem T_Less.nin p_Less_9.orc = some p_Less_9.out := by kernel_rfl
def p_Less_10 : Path := ⟨(bs 32 0 4294967295), [false, false, false, false, false, false, false, false, false, false, true], ⟨.one (.lf (.bool (.v 43))), [(us .u32 0 16), (us .u32 16 16)], ⟨g_Less_10, 44, [.cond (.v 42) true, .cond (.v 41) false, .cond (.v 40) false, .cond (.v 39) false, .cond (.v 38) false, .cond (.v 37) false, .cond (.v 36) false, .cond (.v 35) false, .cond (.v 34) false, .cond (.v 33) false, .cond (.v 32) false], [], []⟩⟩, ⟨outs_Less_10, []⟩, 200⟩
theorem r_Less_10 : runBody Try.prog [] [] Try.f66 p_Less_10.fuel T_Less.args T_Less.mem T_Less.nin p_Less_10.orc = some p_Less_10.out := by kernel_rfl
def p_Less_11 : Path := ⟨(bs 32 0 4294967295), [false, false, false, false, false, false, false, false, false, false, false, true], ⟨.one (.lf (.bool (.v 44))), [(us .u32 0 16), (us .u32 16 16)], ⟨g_Less_11, 45, [.cond (.v 43) true, .cond (.v 42) false, .cond (.v 41) false, .cond (.v 40) false, .cond (.v 39) false, .cond (.v 38) false, .cond (.v 37) false, .cond (.v 36) false, .cond (.v 35) false, .cond (.v 34) false, .cond (.v 33) false, .cond (.v 32) false], [], []⟩⟩, ⟨outs_Less_11, []⟩, 200⟩
theorem r_Less_11 : runBody Try.prog [] [] Try.f66 p_Less_11.fuel T_Less.args T_Less.mem T_Less.nin p_Less_11.orc = some p_Less_11.out := by kernel_rfl
def p_Less_12 : Path := ⟨(bs 32 0 4294967295), [false, false, false, false, false, false, false, false, false, false, false, false, true], ⟨.one (.lf (.bool (.v 45))), [(us .u32 0 16), (us .u32 16 16)], ⟨g_Less_12, 46, [.cond (.v 44) true, .cond (.v 43) false, .cond (.v 42) false, .cond (.v 41) false, .cond (.v 40) false, .cond (.v 39) false, .cond (.v 38) false, .cond (.v 37) false, .cond (.v 36) false, .cond (.v 35) false, .cond (.v 34) false, .cond (.v 33) false, .cond (.v 32) false], [], []⟩⟩, ⟨outs_Less_12, []⟩, 200⟩
theorem r_Less_12 : runBody Try.prog [] [] Try.f66 p_Less_12.fuel T_Less.args T_Less.mem T_Less.nin p_Less_12.orc = some p_Less_12.out := by kernel_rfl
def p_Less_13 : Path := ⟨(bs 32 0 4294967295), [false, false, false, false, false, false, false, false, false, false, false, false, false, true], ⟨.one (.lf (.bool (.v 46))), [(us .u32 0 16), (us .u32 16 16)], ⟨g_Less_13, 47, [.cond (.v 45) true, .cond (.v 44) false, .cond (.v 43) false, .cond (.v 42) false, .cond (.v 41) false, .cond (.v 40) false, .cond (.v 39) false, .cond (.v 38) false, .cond (.v 37) false, .cond (.v 36) false, .cond (.v 35) false, .cond (.v 34) false, .cond (.v 33) false, .cond (.v 32) false], [], []⟩⟩, ⟨outs_Less_13, []⟩, 200⟩
theorem r_Less_13 : runBody Try.prog [] [] Try.f66 p_Less_13.fuel T_Less.args T_Less.mem T_Less.nin p_Less_13.orc = some p_Less_13.out := by kernel_rfl
def p_Less_14 : Path := ⟨(bs 32 0 4294967295), [false, false, false, false, false, false, false, false, false, false, false, false, false, false, true], ⟨.one (.lf (.bool (.v 47))), [(us .u32 0 16), (us .u32 16 16)], ⟨g_Less_14, 48, [.cond (.v 46) true, .cond (.v 45) false, .cond (.v 44) false, .cond (.v 43) false, .cond (.v 42) false, .cond (.v 41) false, .cond (.v 40) false, .cond (.v 39) false, .cond (.v 38) false, .cond (.v 37) false, .cond (.v 36) false, .cond (.v 35) false, .cond (.v 34) false, .cond (.v 33) false, .cond (.v 32) false], [], []⟩⟩, ⟨outs_Less_14, []⟩, 200⟩
theorem r_Less_14 : runBody Try.prog [] [] Try.f66 p_Less_14.fuel T_Less.args T_Less.mem T_Less.nin p_Less_14.orc = some p_Less_14.out := by kernel_rfl
def p_Less_15 : Path := ⟨(bs 32 0 4294967295), [false, false, false, false, false, false, false, false, false, false, false, false, false, false, false, true], ⟨.one (.lf (.bool (.v 48))), [(us .u32 0 16), (us .u32 16 16)], ⟨g_Less_15, 49, [.cond (.v 47) true, .cond (.v 46) false, .cond (.v 45) false, .cond (.v 44) false, .cond (.v 43) false, .cond (.v 42) false, .cond (.v 41) false, .cond (.v 40) false, .cond (.v 39) false, .cond (.v 38) false, .cond (.v 37) false, .cond (.v 36) false, .cond (.v 35) false, .cond (.v 34) false, .cond (.v 33) false, .cond (.v 32) false], [], []⟩⟩, ⟨outs_Less_15, []⟩, 200⟩
theorem r_Less_15 : runBody Try.prog [] [] Try.f66 p_Less_15.fuel T_Less.args T_Less.mem T_Less.nin p_Less_15.orc = some p_Less_15.out := by kernel_rfl
def p_Less_16 : Path := ⟨(bs 32 0 4294967295), [false, false, false, false, false, false, false, false, false, false, false, false, false, false, false, false], ⟨.one (.lf (.bool (.l 0))), [(us .u32 0 16), (us .u32 16 16)], ⟨g_Less_16, 48, [.cond (.v 47) false, .cond (.v 46) false, .cond (.v 45) false, .cond (.v 44) false, .cond (.v 43) false, .cond (.v 42) false, .cond (.v 41) false, .cond (.v 40) false, .cond (.v 39) false, .cond (.v 38) false, .cond (.v 37) false, .cond (.v 36) false, .cond (.v 35) false, .cond (.v 34) false, .cond (.v 33) false, .cond (.v 32) false], [], []⟩⟩, ⟨outs_Less_16, []⟩, 200⟩
theorem r_Less_16 : runBody Try.prog [] [] Try.f66 p_Less_16.fuel T_Less.args T_Less.mem T_Less.nin p_Less_16.orc = some p_Less_16.out := by kernel_rfl
theorem good_Less (W : World0 Try.prog) : Good W T_Less s_Less := paths (ts := []) (l := l_Less) (ps := [p_Less_0, p_Less_1, p_Less_2, p_Less_3, p_Less_4, p_Less_5, p_Less_6, p_Less_7, p_Less_8, p_Less_9, p_Less_10, p_Less_11, p_Less_12, p_Less_13, p_Less_14, p_Less_15, p_Less_16]) (by exact trivial) (by kernel_rfl) Try.func66 Try.call66 (by kernel_rfl) (by
  intro p hp
  simp only [List.mem_cons, List.not_mem_nil, or_false] at hp
  rcases hp with rfl | rfl | rfl | rfl | rfl | rfl | rfl | rfl | rfl | rfl | rfl | rfl | rfl | rfl | rfl | rfl | rfl
  · exact ⟨r_Less_0, by kernel_rfl⟩
  · exact ⟨r_Less_1, by kernel_rfl⟩
  · exact ⟨r_Less_2, by kernel_rfl⟩
  · exact ⟨r_Less_3, by kernel_rfl⟩
  · exact ⟨r_Less_4, by kernel_rfl⟩
  · exact ⟨r_Less_5, by kernel_rfl⟩
  · exact ⟨r_Less_6, by kernel_rfl⟩
  · exact ⟨r_Less_7, by kernel_rfl⟩
  · exact ⟨r_Less_8, by kernel_rfl⟩
  · exact ⟨r_Less_9, by kernel_rfl⟩
  · exact ⟨r_Less_10, by kernel_rfl⟩
  · exact ⟨r_Less_11, by kernel_rfl⟩
  · exact ⟨r_Less_12, by kernel_rfl⟩
  · exact ⟨r_Less_13, by kernel_rfl⟩
  · exact ⟨r_Less_14, by kernel_rfl⟩
  · exact ⟨r_Less_15, by kernel_rfl⟩
  · exact ⟨r_Less_16, by kernel_rfl⟩
  ) (paths_fp cov_Less (by kernel_rfl))

end
end Go.X.Y

set_option maxRecDepth 20000
namespace Go.X.Y
open Go.Proofs
noncomputable section
def T_fold : Tmpl := ⟨31, [.one (.agg (us .u32 0 16))], [], 16, 16, true, .one (.agg (us .u32 16 16)), [], []⟩
def p_fold_0 : Path := ⟨(bs 16 0 4294967295), [false], ⟨.one (.agg [.int .u32 (.v 265), .int .u32 (.v 272), .int .u32 (.v 279), .int .u32 (.v 286), .int .u32 (.v 293), .int .u32 (.v 300), .int .u32 (.v 307), .int .u32 (.v 314), .int .u32 (.v 320), .int .u32 (.v 323), .int .u32 (.v 326), .int .u32 (.v 329), .int .u32 (.v 332), .int .u32 (.v 335), .int .u32 (.v 338), .int .u32 (.v 341)]), [[.int .u32 (.v 265), .int .u32 (.v 272), .int .u32 (.v 279), .int .u32 (.v 286), .int .u32 (.v 293), .int .u32 (.v 300), .int .u32 (.v 307), .int .u32 (.v 314), .int .u32 (.v 320), .int .u32 (.v 323), .int .u32 (.v 326), .int .u32 (.v 329), .int .u32 (.v 332), .int .u32 (.v 335), .int .u32 (.v 338), .int .u32 (.v 341)], [.int .u32 (.v 265), .int .u32 (.v 272), .int .u32 (.v 279), .int .u32 (.v 286), .int .u32 (.v 293), .int .u32 (.v 300), .int .u32 (.v 307), .int .u32 (.v 314), .int .u32 (.v 320), .int .u32 (.v 323), .int .u32 (.v 326), .int .u32 (.v 329), .int .u32 (.v 332), .int .u32 (.v 335), .int .u32 (.v 338), .int .u32 (.v 341)], ([.int .u32 (.v 18), .int .u32 (.v 21), .int .u32 (.v 24), .int .u32 (.v 27), .int .u32 (.v 30), .int .u32 (.v 33), .int .u32 (.v 36), .int .u32 (.v 39), .int .u32 (.v 40)] ++ (lits .u32 0 7)), ([.int .u32 (.v 127), .int .u32 (.v 130), .int .u32 (.v 133), .int .u32 (.v 136), .int .u32 (.v 139), .int .u32 (.v 142), .int .u32 (.v 145), .int .u32 (.v 148), .int .u32 (.v 149)] ++ (lits .u32 0 7)), ([.int .u32 (.v 236), .int .u32 (.v 239), .int .u32 (.v 242), .int .u32 (.v 245), .int .u32 (.v 248), .int .u32 (.v 251), .int .u32 (.v 254), .int .u32 (.v 257), .int .u32 (.v 258)] ++ (lits .u32 0 7))], ⟨g_fold_0, 345, [.cond (.v 344) false, .pre 2 (List.flatten [[(.v 265), (.v 272), (.v 279), (.v 286), (.v 293), (.v 300), (.v 307), (.v 314), (.v 320), (.v 323), (.v 326), (.v 329), (.v 332), (.v 335), (.v 338), (.v 341), (.l 4294967277)], ls 4294967295 6, [(.l 2147483647)], ls 0 8]), .pre 1 []], [], [1, 0, 0, 0, 0, 0, 0, 0, 0, 0, 0, 0, 0, 0, 0, 0, 0, 0, 0, 0, 0, 0, 0, 0, 0, 0, 4, 4, 4, 4, 4, 4, 4, 4, 4, 4, 4, 4, 4, 4, 4, 4, 4, 0, 0, 0, 0, 0, 0, 0, 0, 0, 0, 0, 0, 0, 0, 0, 0, 0, 0, 0, 0, 0, 0, 0, 0, 0, 3, 3, 3, 3, 3, 3, 3, 3, 3, 3, 3, 3, 3, 3, 3, 3, 3, 0, 0, 0, 0, 0, 0, 0, 0, 0, 0, 0, 0, 0, 0, 0, 0, 0, 0, 0, 0, 0, 0, 0, 0, 0, 2, 2, 2, 2, 2, 2, 2, 2, 2, 2, 2, 2, 2, 2, 2, 2, 2]⟩⟩, ⟨outs_fold_0, []⟩, 200⟩
theorem r_fold_0 : runBody Try.prog [T_Minus, T_P, T_Less] [] Try.f31 p_fold_0.fuel T_fold.args T_fold.mem T_fold.nin p_fold_0.orc = some p_fold_0.out := by kernel_rfl
def p_fold_1 : Path := ⟨(bs 16 0 4294967295), [true, false], ⟨.one (.agg (us .u32 345 16)), [(us .u32 345 16), (us .u32 345 16), ([.int .u32 (.v 18), .int .u32 (.v 21), .int .u32 (.v 24), .int .u32 (.v 27), .int .u32 (.v 30), .int .u32 (.v 33), .int .u32 (.v 36), .int .u32 (.v 39), .int .u32 (.v 40)] ++ (lits .u32 0 7)), ([.int .u32 (.v 127), .int .u32 (.v 130), .int .u32 (.v 133), .int .u32 (.v 136), .int .u32 (.v 139), .int .u32 (.v 142), .int .u32 (.v 145), .int .u32 (.v 148), .int .u32 (.v 149)] ++ (lits .u32 0 7)), ([.int .u32 (.v 236), .int .u32 (.v 239), .int .u32 (.v 242), .int .u32 (.v 245), .int .u32 (.v 248), .int .u32 (.v 251), .int .u32 (.v 254), .int .u32 (.v 257), .int .u32 (.v 258)] ++ (lits .u32 0 7))], ⟨g_fold_1, 363, [.cond (.v 362) false, .pre 2 (List.flatten [vs 345 16, [(.l 4294967277)], ls 4294967295 6, [(.l 2147483647)], ls 0 8]), .pre 1 [], .pre 0 (List.flatten [[(.v 265), (.v 272), (.v 279), (.v 286), (.v 293), (.v 300), (.v 307), (.v 314), (.v 320), (.v 323), (.v 326), (.v 329), (.v 332), (.v 335), (.v 338), (.v 341), (.l 4294967277)], ls 4294967295 6, [(.l 2147483647)], ls 0 8]), .pre 1 [], .cond (.v 344) true, .pre 2 (List.flatten [[(.v 265), (.v 272), (.v 279), (.v 286), (.v 293), (.v 300), (.v 307), (.v 314), (.v 320), (.v 323), (.v 326), (.v 329), (.v 332), (.v 335), (.v 338), (.v 341), (.l 4294967277)], ls 4294967295 6, [(.l 2147483647)], ls 0 8]), .pre 1 []], [], [1, 0, 0, 0, 0, 0, 0, 0, 0, 0, 0, 0, 0, 0, 0, 0, 0, 0, 0, 0, 0, 0, 0, 0, 0, 0, 0, 4, 4, 4, 4, 4, 4, 4, 4, 4, 4, 4, 4, 4, 4, 4, 4, 4, 0, 0, 0, 0, 0, 0, 0, 0, 0, 0, 0, 0, 0, 0, 0, 0, 0, 0, 0, 0, 0, 0, 0, 0, 0, 3, 3, 3, 3, 3, 3, 3, 3, 3, 3, 3, 3, 3, 3, 3, 3, 3, 0, 0, 0, 0, 0, 0, 0, 0, 0, 0, 0, 0, 0, 0, 0, 0, 0, 0, 0, 0, 0, 0, 0, 0, 0, 2, 2, 2, 2, 2, 2, 2, 2, 2, 2, 2, 2, 2, 2, 2, 2, 2]⟩⟩, ⟨outs_fold_1, []⟩, 200⟩
theorem r_fold_1 : runBody Try.prog [T_Minus, T_P, T_Less] [] Try.f31 p_fold_1.fuel T_fold.args T_fold.mem T_fold.nin p_fold_1.orc = some p_fold_1.out := by kernel_rfl
theorem good_fold (W : World0 Try.prog) : Good W T_fold s_fold := paths (ts := [T_Minus, T_P, T_Less]) (l := l_fold) (ps := [p_fold_0, p_fold_1]) (by exact ⟨good_Minus W, good_P W, good_Less W, trivial⟩) (by kernel_rfl) Try.func31 Try.call31 (by kernel_rfl) (by
  intro p hp
  simp only [List.mem_cons, List.not_mem_nil, or_false] at hp
  rcases hp with rfl | rfl
  · exact ⟨r_fold_0, by kernel_rfl⟩
  · exact ⟨r_fold_1, by kernel_rfl⟩
  ) (paths_fp cov_fold (by kernel_rfl))

def T_Field : Tmpl := ⟨9, [.one (.agg (us .u32 0 16))], [], 16, 16, true, .one (.agg (us .u32 16 16)), [], []⟩
def p_Field : Path := ⟨(bs 16 0 4294967295), [], ⟨.one (.agg (us .u32 16 16)), [(us .u32 0 16), (us .u32 16 16)], ⟨g_Field, 32, [.pre 0 (vs 0 16)], [], [1]⟩⟩, ⟨outs_Field, []⟩, 60⟩
theorem r_Field : runBody Try.prog [T_fold] [] Try.f9 p_Field.fuel T_Field.args T_Field.mem T_Field.nin p_Field.orc = some p_Field.out := by kernel_rfl
theorem good_Field (W : World0 Try.prog) : Good W T_Field s_Field := straight (l := l_Field) (p := p_Field) (by exact ⟨good_fold W, trivial⟩) Try.func9 Try.call9 r_Field (by kernel_rfl) rfl

def T_FAdd : Tmpl := ⟨16, [.one (.agg (us .u32 0 16)), .one (.agg (us .u32 16 16))], [], 32, 16, true, .one (.agg (us .u32 32 16)), [], []⟩
def p_FAdd : Path := ⟨(bs 32 0 4294967295), [], ⟨.one (.agg (us .u32 48 16)), [(us .u32 0 16), (us .u32 16 16), (us .u32 48 16)], ⟨g_FAdd, 64, [.pre 1 (vs 32 16), .pre 0 (vs 0 32)], [], [2]⟩⟩, ⟨outs_FAdd, []⟩, 60⟩
theorem r_FAdd : runBody Try.prog [T_Plus, T_fold] [] Try.f16 p_FAdd.fuel T_FAdd.args T_FAdd.mem T_FAdd.nin p_FAdd.orc = some p_FAdd.out := by kernel_rfl
theorem good_FAdd (W : World0 Try.prog) : Good W T_FAdd s_FAdd := straight (l := l_FAdd) (p := p_FAdd) (by exact ⟨good_Plus W, good_fold W, trivial⟩) Try.func16 Try.call16 r_FAdd (by kernel_rfl) rfl

def T_FSub : Tmpl := ⟨17, [.one (.agg (us .u32 0 16)), .one (.agg (us .u32 16 16))], [], 32, 16, true, .one (.agg (us .u32 32 16)), [], []⟩
def p_FSub : Path := ⟨(bs 32 0 4294967295), [], ⟨.one (.agg (us .u32 64 16)), [(us .u32 0 16), (us .u32 16 16), (us .u32 64 16)], ⟨g_FSub, 80, [.pre 3 (vs 48 16), .pre 1 ((vs 32 16) ++ (vs 16 16)), .pre 0 (List.flatten [vs 0 16, [(.l 4294967277)], ls 4294967295 6, [(.l 2147483647)], ls 0 8]), .pre 2 []], [], [2]⟩⟩, ⟨outs_FSub, []⟩, 60⟩
theorem r_FSub : runBody Try.prog [T_Plus, T_Minus, T_P, T_fold] [] Try.f17 p_FSub.fuel T_FSub.args T_FSub.mem T_FSub.nin p_FSub.orc = some p_FSub.out := by kernel_rfl
theorem good_FSub (W : World0 Try.prog) : Good W T_FSub s_FSub := straight (l := l_FSub) (p := p_FSub) (by exact ⟨good_Plus W, good_Minus W, good_P W, good_fold W, trivial⟩) Try.func17 Try.call17 r_FSub (by kernel_rfl) rfl

def T_FMul : Tmpl := ⟨10, [.one (.agg (us .u32 0 16)), .one (.agg (us .u32 16 16))], [], 32, 16, true, .one (.agg (us .u32 32 16)), [], []⟩
def p_FMul : Path := ⟨(bs 32 0 4294967295), [], ⟨.one (.agg (us .u32 48 16)), [(us .u32 0 16), (us .u32 16 16), (us .u32 48 16)], ⟨g_FMul, 64, [.pre 1 (vs 32 16), .pre 0 (vs 0 32)], [], [2]⟩⟩, ⟨outs_FMul, []⟩, 60⟩
theorem r_FMul : runBody Try.prog [T_Times, T_fold] [] Try.f10 p_FMul.fuel T_FMul.args T_FMul.mem T_FMul.nin p_FMul.orc = some p_FMul.out := by kernel_rfl
theorem good_FMul (W : World0 Try.prog) : Good W T_FMul s_FMul := straight (l := l_FMul) (p := p_FMul) (by exact ⟨good_Times W, good_fold W, trivial⟩) Try.func10 Try.call10 r_FMul (by kernel_rfl) rfl

def T_FNeg : Tmpl := ⟨18, [.one (.agg (us .u32 0 16))], [], 16, 16, true, .one (.agg (us .u32 16 16)), [], []⟩
def p_FNeg : Path := ⟨(bs 16 0 4294967295), [], ⟨.one (.agg (us .u32 16 16)), [(us .u32 0 16), (us .u32 16 16)], ⟨g_FNeg, 32, [.pre 0 ((ls 0 16) ++ (vs 0 16))], [], [1]⟩⟩, ⟨outs_FNeg, []⟩, 60⟩
theorem r_FNeg : runBody Try.prog [T_FSub] [] Try.f18 p_FNeg.fuel T_FNeg.args T_FNeg.mem T_FNeg.nin p_FNeg.orc = some p_FNeg.out := by kernel_rfl
theorem good_FNeg (W : World0 Try.prog) : Good W T_FNeg s_FNeg := straight (l := l_FNeg) (p := p_FNeg) (by exact ⟨good_FSub W, trivial⟩) Try.func18 Try.call18 r_FNeg (by kernel_rfl) rfl

def T_Odd : Tmpl := ⟨20, [.one (.agg (us .u32 0 16))], [], 16, 1, true, .one (.lf (.bool (.v 16))), [], []⟩
def p_Odd : Path := ⟨(bs 16 0 4294967295), [], ⟨.one (.lf (.bool (.v 17))), [(us .u32 0 16)], ⟨g_Odd, 18, [], [], []⟩⟩, ⟨outs_Odd, []⟩, 60⟩
theorem r_Odd : runBody Try.prog [] [] Try.f20 p_Odd.fuel T_Odd.args T_Odd.mem T_Odd.nin p_Odd.orc = some p_Odd.out := by kernel_rfl
theorem good_Odd (W : World0 Try.prog) : Good W T_Odd s_Odd := straight (l := l_Odd) (p := p_Odd) (by exact trivial) Try.func20 Try.call20 r_Odd (by kernel_rfl) rfl

def T_same32 : Tmpl := ⟨14, [.one (.lf (.slc 0 0 32 none)), .one (.lf (.slc 1 0 32 none))], [(us .u8 0 32), (us .u8 32 32)], 64, 1, true, .one (.lf (.bool (.v 64))), [none, none], []⟩
def p_same32 : Path := ⟨(bs 64 0 255), [], ⟨.one (.lf (.bool (.v 64))), [(us .u8 0 32), (us .u8 32 32)], ⟨g_same32, 65, [], [], []⟩⟩, ⟨outs_same32, []⟩, 60⟩
theorem r_same32 : runBody Try.prog [] [] Try.f14 p_same32.fuel T_same32.args T_same32.mem T_same32.nin p_same32.orc = some p_same32.out := by kernel_rfl
theorem good_same32 (W : World0 Try.prog) : Good W T_same32 s_same32 := straight (l := l_same32) (p := p_same32) (by exact trivial) Try.func14 Try.call14 r_same32 (by kernel_rfl) rfl

end
end Go.X.Y

set_option maxRecDepth 20000
namespace Go.X.Y
open Go.Proofs
noncomputable section
def T_Pow : Tmpl := ⟨41, [.one (.agg (us .u32 0 16)), .one (.agg (us .u32 16 16))], [], 32, 16, true, .one (.agg (us .u32 32 16)), [], []⟩
def L_Pow : LoopC := ⟨0, 23, 49, 32, 16, [(2, .one (.lf (.ptr 0 0))), (3, .one (.lf (.ptr 1 0))), (4, .one (.lf (.ptr 2 0))), (5, .one (.lf (.ptr 3 0))), (6, .one (.lf (.int .i64 (.v 32)))), (0, .one (.lf (.any))), (1, .one (.lf (.any))), (7, .one (.lf (.any))), (8, .one (.lf (.any))), (9, .one (.lf (.any))), (10, .one (.lf (.any))), (11, .one (.lf (.any))), (12, .one (.lf (.any))), (13, .one (.lf (.any))), (14, .one (.lf (.any))), (15, .one (.lf (.any))), (16, .one (.lf (.any))), (17, .one (.lf (.any))), (18, .one (.lf (.any))), (19, .one (.lf (.any))), (20, .one (.lf (.any))), (21, .one (.lf (.any))), (22, .one (.lf (.any)))], [(us .u32 0 16), (us .u32 16 16), (lits .u32 0 16), (us .u32 33 16)], [(4, .one (.lf (.ptr 2 0))), (5, .one (.lf (.ptr 3 0))), (0, .one (.lf (.any))), (1, .one (.lf (.any))), (2, .one (.lf (.any))), (3, .one (.lf (.any))), (6, .one (.lf (.any))), (7, .one (.lf (.any))), (8, .one (.lf (.any))), (9, .one (.lf (.any))), (10, .one (.lf (.any))), (11, .one (.lf (.any))), (12, .one (.lf (.any))), (13, .one (.lf (.any))), (14, .one (.lf (.any))), (15, .one (.lf (.any))), (16, .one (.lf (.any))), (17, .one (.lf (.any))), (18, .one (.lf (.any))), (19, .one (.lf (.any))), (20, .one (.lf (.any))), (21, .one (.lf (.any))), (22, .one (.lf (.any)))], [(us .u32 0 16), (us .u32 16 16), (lits .u32 0 16), (us .u32 32 16)], [0, 1, 2, 3], 3⟩
def lp_Pow_0 : LPath := ⟨((bs 32 0 4294967295) ++ [((-1), (-1))] ++ (bs 16 0 4294967295)), [false], 60, [(9, .one (.lf (.bool (.l 0)))), (9, .one (.lf (.bool (.v 49)))), (8, .one (.lf (.int .i64 (.v 32)))), (2, .one (.lf (.ptr 0 0))), (3, .one (.lf (.ptr 1 0))), (4, .one (.lf (.ptr 2 0))), (5, .one (.lf (.ptr 3 0))), (6, .one (.lf (.int .i64 (.v 32)))), (0, .one (.lf (.any))), (1, .one (.lf (.any))), (7, .one (.lf (.any))), (8, .one (.lf (.any))), (9, .one (.lf (.any))), (10, .one (.lf (.any))), (11, .one (.lf (.any))), (12, .one (.lf (.any))), (13, .one (.lf (.any))), (14, .one (.lf (.any))), (15, .one (.lf (.any))), (16, .one (.lf (.any))), (17, .one (.lf (.any))), (18, .one (.lf (.any))), (19, .one (.lf (.any))), (20, .one (.lf (.any))), (21, .one (.lf (.any))), (22, .one (.lf (.any)))], [(us .u32 0 16), (us .u32 16 16), (lits .u32 0 16), (us .u32 33 16)], ⟨g_powl_0, 50, [.cond (.v 49) false], [], [0, 1, 2, 3]⟩, true, outs_powl_0⟩
theorem lr_Pow_0 : runCode Try.prog [T_Small, T_Bit, T_FMul] [] L_Pow.nt lp_Pow_0.fuel (loopBody Try.f41 L_Pow.id) L_Pow.Tp L_Pow.Mp ⟨[], L_Pow.nin, [], lp_Pow_0.orc, L_Pow.wr⟩ = some (lEx L_Pow.id lp_Pow_0.stop, lp_Pow_0.T, lp_Pow_0.M, lp_Pow_0.g) := by kernel_rfl
def lp_Pow_1 : LPath := ⟨((bs 32 0 4294967295) ++ [(0, 255)] ++ (bs 16 0 4294967295)), [true, true], 60, [(6, .one (.lf (.int .i64 (.v 84)))), (11, .one (.lf (.int .i64 (.v 84)))), (10, .one (.lf (.int .i64 (.v 32)))), (21, .one (.agg (us .u32 68 16))), (20, .one (.agg (us .u32 0 16))), (19, .one (.agg (us .u32 50 16))), (18, .one (.lf (.bool (.l 1)))), (18, .one (.lf (.bool (.v 67)))), (17, .one (.lf (.int .i64 (.v 66)))), (16, .one (.lf (.int .i64 (.v 32)))), (15, .one (.agg (us .u32 16 16))), (14, .one (.agg (us .u32 50 16))), (13, .one (.agg (us .u32 33 16))), (12, .one (.agg (us .u32 33 16))), (9, .one (.lf (.bool (.l 1)))), (9, .one (.lf (.bool (.v 49)))), (8, .one (.lf (.int .i64 (.v 32)))), (2, .one (.lf (.ptr 0 0))), (3, .one (.lf (.ptr 1 0))), (4, .one (.lf (.ptr 2 0))), (5, .one (.lf (.ptr 3 0))), (6, .one (.lf (.int .i64 (.v 32)))), (0, .one (.lf (.any))), (1, .one (.lf (.any))), (7, .one (.lf (.any))), (8, .one (.lf (.any))), (9, .one (.lf (.any))), (10, .one (.lf (.any))), (11, .one (.lf (.any))), (12, .one (.lf (.any))), (13, .one (.lf (.any))), (14, .one (.lf (.any))), (15, .one (.lf (.any))), (16, .one (.lf (.any))), (17, .one (.lf (.any))), (18, .one (.lf (.any))), (19, .one (.lf (.any))), (20, .one (.lf (.any))), (21, .one (.lf (.any))), (22, .one (.lf (.any)))], [(us .u32 0 16), (us .u32 16 16), (lits .u32 0 16), (us .u32 68 16)], ⟨g_powl_1, 85, [.pre 2 ((vs 50 16) ++ (vs 0 16)), .cond (.v 67) true, .pre 1 (vs 16 17), .pre 2 ((vs 33 16) ++ (vs 33 16)), .cond (.v 49) true], [], [3, 3, 0, 1, 2, 3]⟩, false, outs_powl_1⟩
theorem lr_Pow_1 : runCode Try.prog [T_Small, T_Bit, T_FMul] [] L_Pow.nt lp_Pow_1.fuel (loopBody Try.f41 L_Pow.id) L_Pow.Tp L_Pow.Mp ⟨[], L_Pow.nin, [], lp_Pow_1.orc, L_Pow.wr⟩ = some (lEx L_Pow.id lp_Pow_1.stop, lp_Pow_1.T, lp_Pow_1.M, lp_Pow_1.g) := by kernel_rfl
def lp_Pow_2 : LPath := ⟨((bs 32 0 4294967295) ++ [(0, 255)] ++ (bs 16 0 4294967295)), [true, false], 60, [(6, .one (.lf (.int .i64 (.v 68)))), (11, .one (.lf (.int .i64 (.v 68)))), (10, .one (.lf (.int .i64 (.v 32)))), (18, .one (.lf (.bool (.l 0)))), (18, .one (.lf (.bool (.v 67)))), (17, .one (.lf (.int .i64 (.v 66)))), (16, .one (.lf (.int .i64 (.v 32)))), (15, .one (.agg (us .u32 16 16))), (14, .one (.agg (us .u32 50 16))), (13, .one (.agg (us .u32 33 16))), (12, .one (.agg (us .u32 33 16))), (9, .one (.lf (.bool (.l 1)))), (9, .one (.lf (.bool (.v 49)))), (8, .one (.lf (.int .i64 (.v 32)))), (2, .one (.lf (.ptr 0 0))), (3, .one (.lf (.ptr 1 0))), (4, .one (.lf (.ptr 2 0))), (5, .one (.lf (.ptr 3 0))), (6, .one (.lf (.int .i64 (.v 32)))), (0, .one (.lf (.any))), (1, .one (.lf (.any))), (7, .one (.lf (.any))), (8, .one (.lf (.any))), (9, .one (.lf (.any))), (10, .one (.lf (.any))), (11, .one (.lf (.any))), (12, .one (.lf (.any))), (13, .one (.lf (.any))), (14, .one (.lf (.any))), (15, .one (.lf (.any))), (16, .one (.lf (.any))), (17, .one (.lf (.any))), (18, .one (.lf (.any))), (19, .one (.lf (.any))), (20, .one (.lf (.any))), (21, .one (.lf (.any))), (22, .one (.lf (.any)))], [(us .u32 0 16), (us .u32 16 16), (lits .u32 0 16), (us .u32 50 16)], ⟨g_powl_2, 69, [.cond (.v 67) false, .pre 1 (vs 16 17), .pre 2 ((vs 33 16) ++ (vs 33 16)), .cond (.v 49) true], [], [3, 0, 1, 2, 3]⟩, false, outs_powl_2⟩
theorem lr_Pow_2 : runCode Try.prog [T_Small, T_Bit, T_FMul] [] L_Pow.nt lp_Pow_2.fuel (loopBody Try.f41 L_Pow.id) L_Pow.Tp L_Pow.Mp ⟨[], L_Pow.nin, [], lp_Pow_2.orc, L_Pow.wr⟩ = some (lEx L_Pow.id lp_Pow_2.stop, lp_Pow_2.T, lp_Pow_2.M, lp_Pow_2.g) := by kernel_rfl
def p_Pow : Path := ⟨(bs 32 0 4294967295), [], ⟨.one (.agg (us .u32 33 16)), [(us .u32 0 16), (us .u32 16 16), (us .u32 33 16), (us .u32 33 16)], ⟨g_Pow, 49, [.pre 3 ((vs 0 32) ++ [(.l 255), (.v 32)] ++ (ls 0 15)), .pre 0 [(.l 1)]], [], [2, 0, 1, 2, 3, 3]⟩⟩, ⟨outs_Pow, []⟩, 60⟩
theorem r_Pow : runBody Try.prog [T_Small, T_Bit, T_FMul] [⟨0, loopT L_Pow⟩] Try.f41 p_Pow.fuel T_Pow.args T_Pow.mem T_Pow.nin p_Pow.orc = some p_Pow.out := by kernel_rfl
theorem good_Pow (W : World0 Try.prog) : Good W T_Pow s_Pow := straightL (l := l_Pow) (p := p_Pow) (L := L_Pow) (sL := s_powl) (lps := [lp_Pow_0, lp_Pow_1, lp_Pow_2]) (by exact ⟨good_Small W, good_Bit W, good_FMul W, trivial⟩) Try.func41 Try.call41 r_Pow (by kernel_rfl) (by
  intro p hp
  simp only [List.mem_cons, List.not_mem_nil, or_false] at hp
  rcases hp with rfl | rfl | rfl
  · exact ⟨lr_Pow_0, by kernel_rfl⟩
  · exact ⟨lr_Pow_1, by kernel_rfl⟩
  · exact ⟨lr_Pow_2, by kernel_rfl⟩
  ) (by kernel_rfl) lcov_powl rfl

def T_Inv : Tmpl := ⟨19, [.one (.agg (us .u32 0 16))], [], 16, 16, true, .one (.agg (us .u32 16 16)), [], []⟩
def p_Inv : Path := ⟨(bs 16 0 4294967295), [], ⟨.one (.agg (us .u32 33 16)), [(us .u32 0 16), (us .u32 33 16)], ⟨g_Inv, 49, [.pre 3 ((vs 0 16) ++ (vs 17 16)), .pre 0 (List.flatten [[(.l 4294967277)], ls 4294967295 6, [(.l 2147483647)], ls 0 8, [(.v 16)], ls 0 15]), .pre 1 [(.l 2)], .pre 2 []], [], [1]⟩⟩, ⟨outs_Inv, []⟩, 60⟩
theorem r_Inv : runBody Try.prog [T_Minus, T_Small, T_P, T_Pow] [] Try.f19 p_Inv.fuel T_Inv.args T_Inv.mem T_Inv.nin p_Inv.orc = some p_Inv.out := by kernel_rfl
theorem good_Inv (W : World0 Try.prog) : Good W T_Inv s_Inv := straight (l := l_Inv) (p := p_Inv) (by exact ⟨good_Minus W, good_Small W, good_P W, good_Pow W, trivial⟩) Try.func19 Try.call19 r_Inv (by kernel_rfl) rfl

def T_mone : Tmpl := ⟨36, [], [], 0, 16, true, .one (.agg (us .u32 0 16)), [], []⟩
def p_mone : Path := ⟨[], [], ⟨.one (.agg (us .u32 110 16)), [(us .u32 110 16), [.int .u32 (.v 65), .int .u32 (.v 68), .int .u32 (.v 71), .int .u32 (.v 74), .int .u32 (.v 77), .int .u32 (.v 80), .int .u32 (.v 83), .int .u32 (.v 86), .int .u32 (.v 89), .int .u32 (.v 92), .int .u32 (.v 95), .int .u32 (.v 98), .int .u32 (.v 101), .int .u32 (.v 104), .int .u32 (.v 107), .int .u32 (.v 108)]], ⟨g_mone, 126, [.pre 3 ([(.v 109)] ++ (ls 0 15) ++ [(.v 65), (.v 68), (.v 71), (.v 74), (.v 77), (.v 80), (.v 83), (.v 86), (.v 89), (.v 92), (.v 95), (.v 98), (.v 101), (.v 104), (.v 107), (.v 108)]), .pre 1 [(.l 2)], .pre 0 (List.flatten [[(.l 4294967277)], ls 4294967295 6, [(.l 2147483647)], ls 0 8, [(.v 0)], ls 0 15]), .pre 1 [(.l 1)], .pre 2 []], [], [0, 1, 1, 1, 1, 1, 1, 1, 1, 1, 1, 1, 1, 1, 1, 1, 1, 1, 1, 1, 1, 1, 1, 1, 1, 1, 1, 1, 1, 1, 1, 1, 1, 1, 1, 1, 1, 1, 1, 1, 1, 1, 1, 1, 1, 1, 1, 1, 1, 1, 1, 1, 1, 1, 1, 1, 1, 1, 1, 1, 1, 1, 1, 1]⟩⟩, ⟨outs_mone, []⟩, 200⟩
theorem r_mone : runBody Try.prog [T_Minus, T_Small, T_P, T_Pow] [] Try.f36 p_mone.fuel T_mone.args T_mone.mem T_mone.nin p_mone.orc = some p_mone.out := by kernel_rfl
theorem good_mone (W : World0 Try.prog) : Good W T_mone s_mone := straight (l := l_mone) (p := p_mone) (by exact ⟨good_Minus W, good_Small W, good_P W, good_Pow W, trivial⟩) Try.func36 Try.call36 r_mone (by kernel_rfl) rfl

def T_root : Tmpl := ⟨40, [.one (.agg (us .u32 0 16)), .one (.lf (.ptr 0 0)), .one (.lf (.ptr 1 0))], [(us .u32 16 16), (us .u32 32 16)], 48, 17, true, .tup [.agg (us .u32 48 16), .lf (.bool (.v 64))], [none, none], []⟩
def p_root_0 : Path := ⟨(bs 48 0 4294967295), [false, false], ⟨.tup [.agg (us .u32 48 16), .lf (.bool (.v 99))], [(us .u32 16 16), (us .u32 32 16), (us .u32 0 16), (us .u32 48 16), (us .u32 48 16)], ⟨g_root_0, 100, [.pre 0 ((vs 48 16) ++ (vs 48 16)), .cond (.v 82) false, .pre 2 (vs 48 16), .cond (.v 81) false, .pre 0 ((vs 48 16) ++ (vs 48 16)), .pre 3 (vs 0 32)], [], [3, 4]⟩⟩, ⟨outs_root_0, []⟩, 60⟩
theorem r_root_0 : runBody Try.prog [T_FMul, T_FNeg, T_Odd, T_Pow] [] Try.f40 p_root_0.fuel T_root.args T_root.mem T_root.nin p_root_0.orc = some p_root_0.out := by kernel_rfl
def p_root_1 : Path := ⟨(bs 48 0 4294967295), [false, true], ⟨.tup [.agg (us .u32 83 16), .lf (.bool (.v 115))], [(us .u32 16 16), (us .u32 32 16), (us .u32 0 16), (us .u32 83 16), (us .u32 83 16)], ⟨g_root_1, 116, [.pre 0 ((vs 83 16) ++ (vs 83 16)), .pre 1 (vs 48 16), .cond (.v 82) true, .pre 2 (vs 48 16), .cond (.v 81) false, .pre 0 ((vs 48 16) ++ (vs 48 16)), .pre 3 (vs 0 32)], [], [3, 4, 4]⟩⟩, ⟨outs_root_1, []⟩, 60⟩
theorem r_root_1 : runBody Try.prog [T_FMul, T_FNeg, T_Odd, T_Pow] [] Try.f40 p_root_1.fuel T_root.args T_root.mem T_root.nin p_root_1.orc = some p_root_1.out := by kernel_rfl
def p_root_2 : Path := ⟨(bs 48 0 4294967295), [true, false], ⟨.tup [.agg (us .u32 82 16), .lf (.bool (.v 115))], [(us .u32 16 16), (us .u32 32 16), (us .u32 0 16), (us .u32 82 16), (us .u32 82 16)], ⟨g_root_2, 116, [.pre 0 ((vs 82 16) ++ (vs 82 16)), .cond (.v 98) false, .pre 2 (vs 82 16), .pre 0 ((vs 48 16) ++ (vs 32 16)), .cond (.v 81) true, .pre 0 ((vs 48 16) ++ (vs 48 16)), .pre 3 (vs 0 32)], [], [3, 4, 4]⟩⟩, ⟨outs_root_2, []⟩, 60⟩
theorem r_root_2 : runBody Try.prog [T_FMul, T_FNeg, T_Odd, T_Pow] [] Try.f40 p_root_2.fuel T_root.args T_root.mem T_root.nin p_root_2.orc = some p_root_2.out := by kernel_rfl
def p_root_3 : Path := ⟨(bs 48 0 4294967295), [true, true], ⟨.tup [.agg (us .u32 99 16), .lf (.bool (.v 131))], [(us .u32 16 16), (us .u32 32 16), (us .u32 0 16), (us .u32 99 16), (us .u32 99 16)], ⟨g_root_3, 132, [.pre 0 ((vs 99 16) ++ (vs 99 16)), .pre 1 (vs 82 16), .cond (.v 98) true, .pre 2 (vs 82 16), .pre 0 ((vs 48 16) ++ (vs 32 16)), .cond (.v 81) true, .pre 0 ((vs 48 16) ++ (vs 48 16)), .pre 3 (vs 0 32)], [], [3, 4, 4, 4]⟩⟩, ⟨outs_root_3, []⟩, 60⟩
theorem r_root_3 : runBody Try.prog [T_FMul, T_FNeg, T_Odd, T_Pow] [] Try.f40 p_root_3.fuel T_root.args T_root.mem T_root.nin p_root_3.orc = some p_root_3.out := by kernel_rfl
theorem good_root (W : World0 Try.prog) : Good W T_root s_root := paths (ts := [T_FMul, T_FNeg, T_Odd, T_Pow]) (l := l_root) (ps := [p_root_0, p_root_1, p_root_2, p_root_3]) (by exact ⟨good_FMul W, good_FNeg W, good_Odd W, good_Pow W, trivial⟩) (by kernel_rfl) Try.func40 Try.call40 (by kernel_rfl) (by
  intro p hp
  simp only [List.mem_cons, List.not_mem_nil, or_false] at hp
  rcases hp with rfl | rfl | rfl | rfl
  · exact ⟨r_root_0, by kernel_rfl⟩
  · exact ⟨r_root_1, by kernel_rfl⟩
  · exact ⟨r_root_2, by kernel_rfl⟩
  · exact ⟨r_root_3, by kernel_rfl⟩
  ) (paths_fp cov_root (by kernel_rfl))

end
end Go.X.Y

set_option maxRecDepth 20000
namespace Go.X.Y
open Go.Proofs
noncomputable section
def T_Ratio : Tmpl := ⟨13, [.one (.agg (us .u32 0 16)), .one (.agg (us .u32 16 16))], [], 32, 17, true, .tup [.agg (us .u32 32 16), .lf (.bool (.v 48))], [], []⟩
def p_Ratio_0 : Path := ⟨(bs 32 0 4294967295), [false, true], ⟨.tup [.agg (lits .u32 0 16), .lf (.bool (.l 1))], [(us .u32 0 16), (us .u32 16 16), (lits .u32 0 16), (us .u32 48 16), (us .u32 64 16), [.int .u32 (.v 192), .int .u32 (.v 195), .int .u32 (.v 198), .int .u32 (.v 201), .int .u32 (.v 204), .int .u32 (.v 207), .int .u32 (.v 210), .int .u32 (.v 213), .int .u32 (.v 216), .int .u32 (.v 219), .int .u32 (.v 222), .int .u32 (.v 225), .int .u32 (.v 228), .int .u32 (.v 231), .int .u32 (.v 234), .int .u32 (.v 235)]], ⟨g_Ratio_0, 237, [.cond (.v 236) true, .pre 0 (List.flatten [[(.l 4294967277)], ls 4294967295 6, [(.l 2147483647)], ls 0 8, [(.v 81)], ls 0 15]), .pre 1 [(.l 3)], .pre 2 [], .cond (.v 80) false, .pre 5 (vs 64 16), .pre 7 [], .pre 3 ((vs 0 16) ++ (vs 32 16)), .pre 6 (vs 16 16)], [], [2, 5, 5, 5, 5, 5, 5, 5, 5, 5, 5, 5, 5, 5, 5, 5, 5, 5, 5, 5, 5, 5, 5, 5, 5, 5, 5, 5, 5, 5, 5, 5, 5, 5, 5, 5, 5, 5, 5, 5, 5, 5, 5, 5, 5, 5, 5, 5, 5, 5, 5, 5, 5, 5, 5, 5, 5, 5, 5, 5, 5, 5, 5, 5, 5, 5, 5, 5, 5, 5, 5, 5, 5, 5, 5, 5, 5, 5, 5, 5, 5, 5, 5, 5, 5, 5, 5, 5, 5, 5, 5, 5, 5, 5, 5, 4, 3]⟩⟩, ⟨outs_Ratio_0, []⟩, 200⟩
theorem r_Ratio_0 : runBody Try.prog [T_Plus, T_Small, T_P, T_FMul, T_FNeg, T_Odd, T_Inv, T_mone, T_root] [] Try.f13 p_Ratio_0.fuel T_Ratio.args T_Ratio.mem T_Ratio.nin p_Ratio_0.orc = some p_Ratio_0.out := by kernel_rfl
def p_Ratio_1 : Path := ⟨(bs 32 0 4294967295), [false, false, true], ⟨.tup [.agg (lits .u32 0 16), .lf (.bool (.l 0))], [(us .u32 0 16), (us .u32 16 16), (lits .u32 0 16), (us .u32 48 16), (us .u32 64 16), [.int .u32 (.v 192), .int .u32 (.v 195), .int .u32 (.v 198), .int .u32 (.v 201), .int .u32 (.v 204), .int .u32 (.v 207), .int .u32 (.v 210), .int .u32 (.v 213), .int .u32 (.v 216), .int .u32 (.v 219), .int .u32 (.v 222), .int .u32 (.v 225), .int .u32 (.v 228), .int .u32 (.v 231), .int .u32 (.v 234), .int .u32 (.v 235)]], ⟨g_Ratio_1, 238, [.cond (.v 237) true, .cond (.v 236) false, .pre 0 (List.flatten [[(.l 4294967277)], ls 4294967295 6, [(.l 2147483647)], ls 0 8, [(.v 81)], ls 0 15]), .pre 1 [(.l 3)], .pre 2 [], .cond (.v 80) false, .pre 5 (vs 64 16), .pre 7 [], .pre 3 ((vs 0 16) ++ (vs 32 16)), .pre 6 (vs 16 16)], [], [2, 5, 5, 5, 5, 5, 5, 5, 5, 5, 5, 5, 5, 5, 5, 5, 5, 5, 5, 5, 5, 5, 5, 5, 5, 5, 5, 5, 5, 5, 5, 5, 5, 5, 5, 5, 5, 5, 5, 5, 5, 5, 5, 5, 5, 5, 5, 5, 5, 5, 5, 5, 5, 5, 5, 5, 5, 5, 5, 5, 5, 5, 5, 5, 5, 5, 5, 5, 5, 5, 5, 5, 5, 5, 5, 5, 5, 5, 5, 5, 5, 5, 5, 5, 5, 5, 5, 5, 5, 5, 5, 5, 5, 5, 5, 4, 3]⟩⟩, ⟨outs_Ratio_1, []⟩, 200⟩
theorem r_Ratio_1 : runBody Try.prog [T_Plus, T_Small, T_P, T_FMul, T_FNeg, T_Odd, T_Inv, T_mone, T_root] [] Try.f13 p_Ratio_1.fuel T_Ratio.args T_Ratio.mem T_Ratio.nin p_Ratio_1.orc = some p_Ratio_1.out := by kernel_rfl
def p_Ratio_2 : Path := ⟨(bs 32 0 4294967295), [false, false, false, true], ⟨.tup [.agg (us .u32 238 16), .lf (.bool (.l 1))], [(us .u32 0 16), (us .u32 16 16), (us .u32 238 16), (us .u32 48 16), (us .u32 64 16), [.int .u32 (.v 192), .int .u32 (.v 195), .int .u32 (.v 198), .int .u32 (.v 201), .int .u32 (.v 204), .int .u32 (.v 207), .int .u32 (.v 210), .int .u32 (.v 213), .int .u32 (.v 216), .int .u32 (.v 219), .int .u32 (.v 222), .int .u32 (.v 225), .int .u32 (.v 228), .int .u32 (.v 231), .int .u32 (.v 234), .int .u32 (.v 235)], (us .u32 238 16)], ⟨g_Ratio_2, 255, [.cond (.v 254) true, .pre 8 ((vs 48 16) ++ [(.v 192), (.v 195), (.v 198), (.v 201), (.v 204), (.v 207), (.v 210), (.v 213), (.v 216), (.v 219), (.v 222), (.v 225), (.v 228), (.v 231), (.v 234), (.v 235)] ++ (vs 64 16)), .cond (.v 237) false, .cond (.v 236) false, .pre 0 (List.flatten [[(.l 4294967277)], ls 4294967295 6, [(.l 2147483647)], ls 0 8, [(.v 81)], ls 0 15]), .pre 1 [(.l 3)], .pre 2 [], .cond (.v 80) false, .pre 5 (vs 64 16), .pre 7 [], .pre 3 ((vs 0 16) ++ (vs 32 16)), .pre 6 (vs 16 16)], [], [2, 6, 5, 5, 5, 5, 5, 5, 5, 5, 5, 5, 5, 5, 5, 5, 5, 5, 5, 5, 5, 5, 5, 5, 5, 5, 5, 5, 5, 5, 5, 5, 5, 5, 5, 5, 5, 5, 5, 5, 5, 5, 5, 5, 5, 5, 5, 5, 5, 5, 5, 5, 5, 5, 5, 5, 5, 5, 5, 5, 5, 5, 5, 5, 5, 5, 5, 5, 5, 5, 5, 5, 5, 5, 5, 5, 5, 5, 5, 5, 5, 5, 5, 5, 5, 5, 5, 5, 5, 5, 5, 5, 5, 5, 5, 5, 4, 3]⟩⟩, ⟨outs_Ratio_2, []⟩, 200⟩
theorem r_Ratio_2 : runBody Try.prog [T_Plus, T_Small, T_P, T_FMul, T_FNeg, T_Odd, T_Inv, T_mone, T_root] [] Try.f13 p_Ratio_2.fuel T_Ratio.args T_Ratio.mem T_Ratio.nin p_Ratio_2.orc = some p_Ratio_2.out := by kernel_rfl
def p_Ratio_3 : Path := ⟨(bs 32 0 4294967295), [false, false, false, false], ⟨.tup [.agg (us .u32 271 16), .lf (.bool (.l 0))], [(us .u32 0 16), (us .u32 16 16), (us .u32 271 16), (us .u32 48 16), (us .u32 64 16), [.int .u32 (.v 192), .int .u32 (.v 195), .int .u32 (.v 198), .int .u32 (.v 201), .int .u32 (.v 204), .int .u32 (.v 207), .int .u32 (.v 210), .int .u32 (.v 213), .int .u32 (.v 216), .int .u32 (.v 219), .int .u32 (.v 222), .int .u32 (.v 225), .int .u32 (.v 228), .int .u32 (.v 231), .int .u32 (.v 234), .int .u32 (.v 235)], (us .u32 238 16), (us .u32 271 16)], ⟨g_Ratio_3, 288, [.pre 8 ((vs 255 16) ++ [(.v 192), (.v 195), (.v 198), (.v 201), (.v 204), (.v 207), (.v 210), (.v 213), (.v 216), (.v 219), (.v 222), (.v 225), (.v 228), (.v 231), (.v 234), (.v 235)] ++ (vs 64 16)), .pre 3 (vs 48 32), .cond (.v 254) false, .pre 8 ((vs 48 16) ++ [(.v 192), (.v 195), (.v 198), (.v 201), (.v 204), (.v 207), (.v 210), (.v 213), (.v 216), (.v 219), (.v 222), (.v 225), (.v 228), (.v 231), (.v 234), (.v 235)] ++ (vs 64 16)), .cond (.v 237) false, .cond (.v 236) false, .pre 0 (List.flatten [[(.l 4294967277)], ls 4294967295 6, [(.l 2147483647)], ls 0 8, [(.v 81)], ls 0 15]), .pre 1 [(.l 3)], .pre 2 [], .cond (.v 80) false, .pre 5 (vs 64 16), .pre 7 [], .pre 3 ((vs 0 16) ++ (vs 32 16)), .pre 6 (vs 16 16)], [], [2, 7, 6, 5, 5, 5, 5, 5, 5, 5, 5, 5, 5, 5, 5, 5, 5, 5, 5, 5, 5, 5, 5, 5, 5, 5, 5, 5, 5, 5, 5, 5, 5, 5, 5, 5, 5, 5, 5, 5, 5, 5, 5, 5, 5, 5, 5, 5, 5, 5, 5, 5, 5, 5, 5, 5, 5, 5, 5, 5, 5, 5, 5, 5, 5, 5, 5, 5, 5, 5, 5, 5, 5, 5, 5, 5, 5, 5, 5, 5, 5, 5, 5, 5, 5, 5, 5, 5, 5, 5, 5, 5, 5, 5, 5, 5, 5, 4, 3]⟩⟩, ⟨outs_Ratio_3, []⟩, 200⟩
theorem r_Ratio_3 : runBody Try.prog [T_Plus, T_Small, T_P, T_FMul, T_FNeg, T_Odd, T_Inv, T_mone, T_root] [] Try.f13 p_Ratio_3.fuel T_Ratio.args T_Ratio.mem T_Ratio.nin p_Ratio_3.orc = some p_Ratio_3.out := by kernel_rfl
theorem good_Ratio (W : World0 Try.prog) : Good W T_Ratio s_Ratio := paths (ts := [T_Plus, T_Small, T_P, T_FMul, T_FNeg, T_Odd, T_Inv, T_mone, T_root]) (l := l_Ratio) (ps := [p_Ratio_0, p_Ratio_1, p_Ratio_2, p_Ratio_3]) (by exact ⟨good_Plus W, good_Small W, good_P W, good_FMul W, good_FNeg W, good_Odd W, good_Inv W, good_mone W, good_root W, trivial⟩) (by kernel_rfl) Try.func13 Try.call13 (by kernel_rfl) (by
  intro p hp
  simp only [List.mem_cons, List.not_mem_nil, or_false] at hp
  rcases hp with rfl | rfl | rfl | rfl
  · exact ⟨r_Ratio_0, by kernel_rfl⟩
  · exact ⟨r_Ratio_1, by kernel_rfl⟩
  · exact ⟨r_Ratio_2, by kernel_rfl⟩
  · exact ⟨r_Ratio_3, by kernel_rfl⟩
  ) (paths_fp cov_Ratio (by kernel_rfl))

end
end Go.X.Y

namespace Go.X

/-! ### the program's sums of elements -/

theorem bytesLB {r : List Int} (h : InB LB r) : s_Bytes.f r = toD 256 32 ((φ (v51 r)).val : Int) := by
  rw [Bytes_val r h, φ_val]

end Go.X

namespace Go.X

theorem seg_two {v : Nat → Int} {x n m : Nat} {a b : List Int} (h : seg v x (n + m) = a ++ b) (ha : a.length = n) : seg v x n = a ∧ seg v (x + n) m = b := by
  rw [seg_add] at h
  exact List.append_inj h (by rw [seg_len, ha])

theorem top_bit {v : Nat → Int} {x : Nat} (h : InD 256 (seg v x 32)) : v (x + 31) / 128 = ofD 256 (seg v x 32) / 57896044618658097711785492504343953926634992332820282019728792003956564819968 := by
  have e : seg v x 32 = seg v x 31 ++ [v (x + 31)] := seg_add v 31 1 x
  rw [e] at h ⊢
  obtain ⟨l0, l1⟩ := ofD_bound (b := 256) (by decide) (InD_left h)
  have hr := InD_right h
  have h0 := hr.1
  have h1 := hr.2.1
  rw [seg_len] at l1
  rw [ofD_append, seg_len]
  have e2 : ofD 256 [v (x + 31)] = v (x + 31) + 256 * 0 := rfl
  rw [e2]
  have l1 : ofD 256 (seg v x 31) < 256 ^ 31 := l1
  generalize ofD 256 (seg v x 31) = L at *
  generalize v (x + 31) = t at *
  have : (256 : Int) ^ 31 = 452312848583266388373324160190187140051835877600158453279131187530910662656 := by decide
  rw [this] at *
  omega

def bB (x : Fp) : List Int := toD 256 32 (x.val : Int)

theorem bB_len (x : Fp) : (bB x).length = 32 := toD_len _ _ _
theorem bB_in (x : Fp) : InB (BB 32) (bB x) := bytes_in _

theorem bytesF {r : List Int} {x : Fp} (h : InB LB r) (e : φ (v51 r) = x) : s_Bytes.f r = bB x := by
  rw [bytesLB h, e]; rfl

theorem elemF {a : List Int} (ha : InB (BB 32) a) : s_element.f a = toD 2251799813685248 5 (ofD 256 a) := element_val a ha

/-- the element of 32 bytes -/
def eF (a : List Int) : Fp := φ (v51 (toD 2251799813685248 5 (ofD 256 a)))

theorem eql_1 {P : Prop} [Decidable P] {t : Int} (h : t = if P then 1 else 0) : op2 .eql .i64 t 1 = if P then 1 else 0 := by
  rw [h, b2i_one]

end Go.X

namespace Go.X
set_option maxRecDepth 20000
noncomputable section
abbrev l_sd : List Sem := [s_Small, s_FMul, s_FNeg, s_Inv]
def g_sd : List (Nat × Ins) := (List.flatten [apps 2 (vs 18 16) 34 16, apps 1 ([(.v 0)] ++ (ls 0 15) ++ (vs 2 16)) 18 16, apps 3 ([(.v 1)] ++ (ls 0 15)) 2 16, [(1, .app 0 [(.l 121666)] 0), (0, .app 0 [(.l 121665)] 0)]])
def outs_sd : List A := (vs 34 16)
def s_sd : Sem := Sem.st l_sd g_sd 0 50 outs_sd [] (bs 16 0 4294967295) (by kernel_rfl)

theorem E_sd (xs : List Int) (hx : InB [] xs) : ∃ v : Nat → Int, vals l_sd g_sd xs = v ∧ seg v 0 0 = xs ∧ ((v 0 = (s_Small.f ([121665])).getD 0 0) ∧ (v 1 = (s_Small.f ([121666])).getD 0 0) ∧ (seg v 2 16 = gets (s_Inv.f ([v 1, 0, 0, 0, 0, 0, 0, 0, 0, 0, 0, 0, 0, 0, 0, 0])) 0 16) ∧ (seg v 18 16 = gets (s_FMul.f ([v 0, 0, 0, 0, 0, 0, 0, 0, 0, 0, 0, 0, 0, 0, 0, 0] ++ seg v 2 16)) 0 16) ∧ (seg v 34 16 = gets (s_FNeg.f (seg v 18 16)) 0 16)) ∧ (True) ∧ s_sd.f xs = (seg v 34 16) :=
  Eq.mp (by kernel_rfl) (runE (s := s_sd) (o := outs_sd) (l := l_sd) (g := g_sd) (nin := 0) (top := 50) (by kernel_rfl) hx (by kernel_rfl))

abbrev l_Edw : List Sem := [s_sd]
def g_Edw : List (Nat × Ins) := (apps 0 [] 0 16)
def outs_Edw : List A := (vs 0 16)
def s_Edw : Sem := Sem.st l_Edw g_Edw 0 16 outs_Edw [] (bs 16 0 4294967295) (by kernel_rfl)

theorem E_Edw (xs : List Int) (hx : InB [] xs) : ∃ v : Nat → Int, vals l_Edw g_Edw xs = v ∧ seg v 0 0 = xs ∧ ((seg v 0 16 = gets (s_sd.f ([] : List Int)) 0 16)) ∧ (True) ∧ s_Edw.f xs = (seg v 0 16) :=
  Eq.mp (by kernel_rfl) (runE (s := s_Edw) (o := outs_Edw) (l := l_Edw) (g := g_Edw) (nin := 0) (top := 16) (by kernel_rfl) hx (by kernel_rfl))

abbrev l_Dec : List Sem := [s_Of32, s_Of64, s_Small, s_Bit, s_Field, s_FAdd, s_FSub, s_FMul, s_FNeg, s_Ratio]
def g_Dec_0 : List (Nat × Ins) := (List.flatten [[(157, .ite (.v 156) (.l 0) (.l 1))], apps 9 ((vs 91 16) ++ (vs 124 16)) 140 17, apps 5 ((vs 107 17) ++ (ls 0 15)) 124 16, [(123, .app 2 [(.l 1)] 0)], apps 7 ((vs 0 16) ++ (vs 74 16)) 107 16, apps 6 ((vs 74 17) ++ (ls 0 15)) 91 16, [(90, .app 2 [(.l 1)] 0)], apps 7 ((vs 58 16) ++ (vs 58 16)) 74 16, apps 4 ((vs 48 7) ++ [(.v 57)] ++ (ls 0 8)) 58 16, [(57, .op2 .and .u32 (.v 55) (.l 2147483647)), (56, .app 3 ((vs 48 8) ++ (ls 0 8) ++ [(.l 255)]) 0)], apps 0 (vs 16 32) 48 8])
def outs_Dec_0 : List A := (ls 0 34)
def q_Dec_0 : FPath := ⟨((bs 16 0 4294967295) ++ (bs 32 0 255)), g_Dec_0, [.cond (.v 157) true, .pre 9 ((vs 91 16) ++ (vs 124 16)), .pre 5 ((vs 107 17) ++ (ls 0 15)), .pre 2 [(.l 1)], .pre 7 ((vs 0 16) ++ (vs 74 16)), .pre 6 ((vs 74 17) ++ (ls 0 15)), .pre 2 [(.l 1)], .pre 7 ((vs 58 16) ++ (vs 58 16)), .pre 4 ((vs 48 7) ++ [(.v 57)] ++ (ls 0 8)), .pre 3 ((vs 48 8) ++ (ls 0 8) ++ [(.l 255)]), .pre 0 (vs 16 32)], outs_Dec_0⟩
def g_Dec_1 : List (Nat × Ins) := (List.flatten [[(177, .app 2 [(.l 1)] 0)], apps 8 (vs 140 16) 161 16, [(160, .op2 .neq .i64 (.v 159) (.v 56)), (159, .conv .i64 (.v 158)), (158, .op2 .and .u32 (.v 140) (.l 1)), (157, .ite (.v 156) (.l 0) (.l 1))], apps 9 ((vs 91 16) ++ (vs 124 16)) 140 17, apps 5 ((vs 107 17) ++ (ls 0 15)) 124 16, [(123, .app 2 [(.l 1)] 0)], apps 7 ((vs 0 16) ++ (vs 74 16)) 107 16, apps 6 ((vs 74 17) ++ (ls 0 15)) 91 16, [(90, .app 2 [(.l 1)] 0)], apps 7 ((vs 58 16) ++ (vs 58 16)) 74 16, apps 4 ((vs 48 7) ++ [(.v 57)] ++ (ls 0 8)) 58 16, [(57, .op2 .and .u32 (.v 55) (.l 2147483647)), (56, .app 3 ((vs 48 8) ++ (ls 0 8) ++ [(.l 255)]) 0)], apps 0 (vs 16 32) 48 8])
def outs_Dec_1 : List A := ((vs 161 16) ++ (vs 58 16) ++ [(.v 177), (.l 1)])
def q_Dec_1 : FPath := ⟨((bs 16 0 4294967295) ++ (bs 32 0 255)), g_Dec_1, [.pre 2 [(.l 1)], .pre 8 (vs 140 16), .cond (.v 160) true, .cond (.v 157) false, .pre 9 ((vs 91 16) ++ (vs 124 16)), .pre 5 ((vs 107 17) ++ (ls 0 15)), .pre 2 [(.l 1)], .pre 7 ((vs 0 16) ++ (vs 74 16)), .pre 6 ((vs 74 17) ++ (ls 0 15)), .pre 2 [(.l 1)], .pre 7 ((vs 58 16) ++ (vs 58 16)), .pre 4 ((vs 48 7) ++ [(.v 57)] ++ (ls 0 8)), .pre 3 ((vs 48 8) ++ (ls 0 8) ++ [(.l 255)]), .pre 0 (vs 16 32)], outs_Dec_1⟩
def g_Dec_2 : List (Nat × Ins) := (List.flatten [[(161, .app 2 [(.l 1)] 0), (160, .op2 .neq .i64 (.v 159) (.v 56)), (159, .conv .i64 (.v 158)), (158, .op2 .and .u32 (.v 140) (.l 1)), (157, .ite (.v 156) (.l 0) (.l 1))], apps 9 ((vs 91 16) ++ (vs 124 16)) 140 17, apps 5 ((vs 107 17) ++ (ls 0 15)) 124 16, [(123, .app 2 [(.l 1)] 0)], apps 7 ((vs 0 16) ++ (vs 74 16)) 107 16, apps 6 ((vs 74 17) ++ (ls 0 15)) 91 16, [(90, .app 2 [(.l 1)] 0)], apps 7 ((vs 58 16) ++ (vs 58 16)) 74 16, apps 4 ((vs 48 7) ++ [(.v 57)] ++ (ls 0 8)) 58 16, [(57, .op2 .and .u32 (.v 55) (.l 2147483647)), (56, .app 3 ((vs 48 8) ++ (ls 0 8) ++ [(.l 255)]) 0)], apps 0 (vs 16 32) 48 8])
def outs_Dec_2 : List A := ((vs 140 16) ++ (vs 58 16) ++ [(.v 161), (.l 1)])
def q_Dec_2 : FPath := ⟨((bs 16 0 4294967295) ++ (bs 32 0 255)), g_Dec_2, [.pre 2 [(.l 1)], .cond (.v 160) false, .cond (.v 157) false, .pre 9 ((vs 91 16) ++ (vs 124 16)), .pre 5 ((vs 107 17) ++ (ls 0 15)), .pre 2 [(.l 1)], .pre 7 ((vs 0 16) ++ (vs 74 16)), .pre 6 ((vs 74 17) ++ (ls 0 15)), .pre 2 [(.l 1)], .pre 7 ((vs 58 16) ++ (vs 58 16)), .pre 4 ((vs 48 7) ++ [(.v 57)] ++ (ls 0 8)), .pre 3 ((vs 48 8) ++ (ls 0 8) ++ [(.l 255)]), .pre 0 (vs 16 32)], outs_Dec_2⟩
def q_Dec : List FPath := [q_Dec_0, q_Dec_1, q_Dec_2]
theorem E_Dec_0 (xs : List Int) (hx : InB ((bs 16 0 4294967295) ++ (bs 32 0 255)) xs) : ∃ v : Nat → Int, vals l_Dec g_Dec_0 xs = v ∧ seg v 0 48 = xs ∧ ((seg v 48 8 = gets (s_Of32.f (seg v 16 32)) 0 8) ∧ (v 56 = (s_Bit.f (seg v 48 8 ++ [0, 0, 0, 0, 0, 0, 0, 0, 255])).getD 0 0) ∧ (v 57 = (v 55) % 2147483648) ∧ (seg v 58 16 = gets (s_Field.f (seg v 48 7 ++ [v 57, 0, 0, 0, 0, 0, 0, 0, 0])) 0 16) ∧ (seg v 74 16 = gets (s_FMul.f (seg v 58 16 ++ seg v 58 16)) 0 16) ∧ (v 90 = (s_Small.f ([1])).getD 0 0) ∧ (seg v 91 16 = gets (s_FSub.f (seg v 74 17 ++ [0, 0, 0, 0, 0, 0, 0, 0, 0, 0, 0, 0, 0, 0, 0])) 0 16) ∧ (seg v 107 16 = gets (s_FMul.f (seg v 0 16 ++ seg v 74 16)) 0 16) ∧ (v 123 = (s_Small.f ([1])).getD 0 0) ∧ (seg v 124 16 = gets (s_FAdd.f (seg v 107 17 ++ [0, 0, 0, 0, 0, 0, 0, 0, 0, 0, 0, 0, 0, 0, 0])) 0 16) ∧ (seg v 140 17 = gets (s_Ratio.f (seg v 91 16 ++ seg v 124 16)) 0 17) ∧ (v 157 = (if v 156 ≠ 0 then 0 else 1))) ∧ (True) ∧ (CondHold v q_Dec_0.asm = ((v 157 != 0) = true ∧ True)) ∧ outs_Dec_0.map (A.ev v) = ([0, 0, 0, 0, 0, 0, 0, 0, 0, 0, 0, 0, 0, 0, 0, 0, 0, 0, 0, 0, 0, 0, 0, 0, 0, 0, 0, 0, 0, 0, 0, 0, 0, 0]) :=
  Eq.mp (by kernel_rfl) (runQ (q := q_Dec_0.asm) (o := outs_Dec_0) (l := l_Dec) (g := g_Dec_0) (nin := 48) (top := 158) (by kernel_rfl) hx)
theorem E_Dec_1 (xs : List Int) (hx : InB ((bs 16 0 4294967295) ++ (bs 32 0 255)) xs) : ∃ v : Nat → Int, vals l_Dec g_Dec_1 xs = v ∧ seg v 0 48 = xs ∧ ((seg v 48 8 = gets (s_Of32.f (seg v 16 32)) 0 8) ∧ (v 56 = (s_Bit.f (seg v 48 8 ++ [0, 0, 0, 0, 0, 0, 0, 0, 255])).getD 0 0) ∧ (v 57 = (v 55) % 2147483648) ∧ (seg v 58 16 = gets (s_Field.f (seg v 48 7 ++ [v 57, 0, 0, 0, 0, 0, 0, 0, 0])) 0 16) ∧ (seg v 74 16 = gets (s_FMul.f (seg v 58 16 ++ seg v 58 16)) 0 16) ∧ (v 90 = (s_Small.f ([1])).getD 0 0) ∧ (seg v 91 16 = gets (s_FSub.f (seg v 74 17 ++ [0, 0, 0, 0, 0, 0, 0, 0, 0, 0, 0, 0, 0, 0, 0])) 0 16) ∧ (seg v 107 16 = gets (s_FMul.f (seg v 0 16 ++ seg v 74 16)) 0 16) ∧ (v 123 = (s_Small.f ([1])).getD 0 0) ∧ (seg v 124 16 = gets (s_FAdd.f (seg v 107 17 ++ [0, 0, 0, 0, 0, 0, 0, 0, 0, 0, 0, 0, 0, 0, 0])) 0 16) ∧ (seg v 140 17 = gets (s_Ratio.f (seg v 91 16 ++ seg v 124 16)) 0 17) ∧ (v 157 = (if v 156 ≠ 0 then 0 else 1)) ∧ (v 158 = (v 140) % 2) ∧ (v 159 = (v 158)) ∧ (v 160 = op2 .neq .i64 (v 159) (v 56)) ∧ (seg v 161 16 = gets (s_FNeg.f (seg v 140 16)) 0 16) ∧ (v 177 = (s_Small.f ([1])).getD 0 0)) ∧ (True) ∧ (CondHold v q_Dec_1.asm = ((v 160 != 0) = true ∧ ((v 157 != 0) = false ∧ True))) ∧ outs_Dec_1.map (A.ev v) = (seg v 161 16 ++ seg v 58 16 ++ [v 177, 1]) :=
  Eq.mp (by kernel_rfl) (runQ (q := q_Dec_1.asm) (o := outs_Dec_1) (l := l_Dec) (g := g_Dec_1) (nin := 48) (top := 178) (by kernel_rfl) hx)
theorem E_Dec_2 (xs : List Int) (hx : InB ((bs 16 0 4294967295) ++ (bs 32 0 255)) xs) : ∃ v : Nat → Int, vals l_Dec g_Dec_2 xs = v ∧ seg v 0 48 = xs ∧ ((seg v 48 8 = gets (s_Of32.f (seg v 16 32)) 0 8) ∧ (v 56 = (s_Bit.f (seg v 48 8 ++ [0, 0, 0, 0, 0, 0, 0, 0, 255])).getD 0 0) ∧ (v 57 = (v 55) % 2147483648) ∧ (seg v 58 16 = gets (s_Field.f (seg v 48 7 ++ [v 57, 0, 0, 0, 0, 0, 0, 0, 0])) 0 16) ∧ (seg v 74 16 = gets (s_FMul.f (seg v 58 16 ++ seg v 58 16)) 0 16) ∧ (v 90 = (s_Small.f ([1])).getD 0 0) ∧ (seg v 91 16 = gets (s_FSub.f (seg v 74 17 ++ [0, 0, 0, 0, 0, 0, 0, 0, 0, 0, 0, 0, 0, 0, 0])) 0 16) ∧ (seg v 107 16 = gets (s_FMul.f (seg v 0 16 ++ seg v 74 16)) 0 16) ∧ (v 123 = (s_Small.f ([1])).getD 0 0) ∧ (seg v 124 16 = gets (s_FAdd.f (seg v 107 17 ++ [0, 0, 0, 0, 0, 0, 0, 0, 0, 0, 0, 0, 0, 0, 0])) 0 16) ∧ (seg v 140 17 = gets (s_Ratio.f (seg v 91 16 ++ seg v 124 16)) 0 17) ∧ (v 157 = (if v 156 ≠ 0 then 0 else 1)) ∧ (v 158 = (v 140) % 2) ∧ (v 159 = (v 158)) ∧ (v 160 = op2 .neq .i64 (v 159) (v 56)) ∧ (v 161 = (s_Small.f ([1])).getD 0 0)) ∧ (True) ∧ (CondHold v q_Dec_2.asm = ((v 160 != 0) = false ∧ ((v 157 != 0) = false ∧ True))) ∧ outs_Dec_2.map (A.ev v) = (seg v 140 16 ++ seg v 58 16 ++ [v 161, 1]) :=
  Eq.mp (by kernel_rfl) (runQ (q := q_Dec_2.asm) (o := outs_Dec_2) (l := l_Dec) (g := g_Dec_2) (nin := 48) (top := 162) (by kernel_rfl) hx)

abbrev l_Enc : List Sem := [s_NBytes, s_FMul, s_Odd, s_Inv]
def g_Enc_0 : List (Nat × Ins) := (List.flatten [[(145, .op2 .or .u8 (.v 127) (.l 128)), (144, .app 2 (vs 128 16) 0)], apps 1 ((vs 16 16) ++ (vs 64 16)) 128 16, apps 0 (vs 80 16) 96 32, apps 1 ((vs 32 16) ++ (vs 64 16)) 80 16, apps 3 (vs 48 16) 64 16])
def outs_Enc_0 : List A := ((vs 96 31) ++ [(.v 145)])
def q_Enc_0 : FPath := ⟨(bs 64 0 4294967295), g_Enc_0, [.cond (.v 144) true, .pre 2 (vs 128 16), .pre 1 ((vs 16 16) ++ (vs 64 16)), .pre 0 (vs 80 16), .pre 1 ((vs 32 16) ++ (vs 64 16)), .pre 3 (vs 48 16)], outs_Enc_0⟩
def g_Enc_1 : List (Nat × Ins) := (List.flatten [[(144, .app 2 (vs 128 16) 0)], apps 1 ((vs 16 16) ++ (vs 64 16)) 128 16, apps 0 (vs 80 16) 96 32, apps 1 ((vs 32 16) ++ (vs 64 16)) 80 16, apps 3 (vs 48 16) 64 16])
def outs_Enc_1 : List A := (vs 96 32)
def q_Enc_1 : FPath := ⟨(bs 64 0 4294967295), g_Enc_1, [.cond (.v 144) false, .pre 2 (vs 128 16), .pre 1 ((vs 16 16) ++ (vs 64 16)), .pre 0 (vs 80 16), .pre 1 ((vs 32 16) ++ (vs 64 16)), .pre 3 (vs 48 16)], outs_Enc_1⟩
def q_Enc : List FPath := [q_Enc_0, q_Enc_1]
theorem E_Enc_0 (xs : List Int) (hx : InB (bs 64 0 4294967295) xs) : ∃ v : Nat → Int, vals l_Enc g_Enc_0 xs = v ∧ seg v 0 64 = xs ∧ ((seg v 64 16 = gets (s_Inv.f (seg v 48 16)) 0 16) ∧ (seg v 80 16 = gets (s_FMul.f (seg v 32 16 ++ seg v 64 16)) 0 16) ∧ (seg v 96 32 = gets (s_NBytes.f (seg v 80 16)) 0 32) ∧ (seg v 128 16 = gets (s_FMul.f (seg v 16 16 ++ seg v 64 16)) 0 16) ∧ (v 144 = (s_Odd.f (seg v 128 16)).getD 0 0) ∧ (v 145 = op2 .or .u8 (v 127) 128)) ∧ (True) ∧ (CondHold v q_Enc_0.asm = ((v 144 != 0) = true ∧ True)) ∧ outs_Enc_0.map (A.ev v) = (seg v 96 31 ++ [v 145]) :=
  Eq.mp (by kernel_rfl) (runQ (q := q_Enc_0.asm) (o := outs_Enc_0) (l := l_Enc) (g := g_Enc_0) (nin := 64) (top := 146) (by kernel_rfl) hx)
theorem E_Enc_1 (xs : List Int) (hx : InB (bs 64 0 4294967295) xs) : ∃ v : Nat → Int, vals l_Enc g_Enc_1 xs = v ∧ seg v 0 64 = xs ∧ ((seg v 64 16 = gets (s_Inv.f (seg v 48 16)) 0 16) ∧ (seg v 80 16 = gets (s_FMul.f (seg v 32 16 ++ seg v 64 16)) 0 16) ∧ (seg v 96 32 = gets (s_NBytes.f (seg v 80 16)) 0 32) ∧ (seg v 128 16 = gets (s_FMul.f (seg v 16 16 ++ seg v 64 16)) 0 16) ∧ (v 144 = (s_Odd.f (seg v 128 16)).getD 0 0)) ∧ (True) ∧ (CondHold v q_Enc_1.asm = ((v 144 != 0) = false ∧ True)) ∧ outs_Enc_1.map (A.ev v) = (seg v 96 32) :=
  Eq.mp (by kernel_rfl) (runQ (q := q_Enc_1.asm) (o := outs_Enc_1) (l := l_Enc) (g := g_Enc_1) (nin := 64) (top := 145) (by kernel_rfl) hx)

abbrev l_feOneP : List Sem := [s_One]
def g_feOneP : List (Nat × Ins) := []
def outs_feOneP : List A := []
def s_feOneP : Sem := Sem.st l_feOneP g_feOneP 0 0 outs_feOneP [] [] (by kernel_rfl)

abbrev l_dP : List Sem := [s_SetBytes]
def g_dP : List (Nat × Ins) := (apps 0 [(.l 163), (.l 120), (.l 89), (.l 19), (.l 202), (.l 77), (.l 235), (.l 117), (.l 171), (.l 216), (.l 65), (.l 65), (.l 77), (.l 10), (.l 112), (.l 0), (.l 152), (.l 232), (.l 121), (.l 119), (.l 121), (.l 64), (.l 199), (.l 140), (.l 115), (.l 254), (.l 111), (.l 43), (.l 238), (.l 108), (.l 3), (.l 82)] 0 5)
def outs_dP : List A := (vs 0 5)
def s_dP : Sem := Sem.st l_dP g_dP 0 5 outs_dP [] (bs 5 0 2251799813685247) (by kernel_rfl)

theorem E_dP (xs : List Int) (hx : InB [] xs) : ∃ v : Nat → Int, vals l_dP g_dP xs = v ∧ seg v 0 0 = xs ∧ ((seg v 0 5 = gets (s_SetBytes.f ([163, 120, 89, 19, 202, 77, 235, 117, 171, 216, 65, 65, 77, 10, 112, 0, 152, 232, 121, 119, 121, 64, 199, 140, 115, 254, 111, 43, 238, 108, 3, 82])) 0 5)) ∧ (True) ∧ s_dP.f xs = (seg v 0 5) :=
  Eq.mp (by kernel_rfl) (runE (s := s_dP) (o := outs_dP) (l := l_dP) (g := g_dP) (nin := 0) (top := 5) (by kernel_rfl) hx (by kernel_rfl))

abbrev l_cpEl : List Sem := [s_Bytes]
def g_cpEl : List (Nat × Ins) := (apps 0 (vs 0 5) 5 32)
def outs_cpEl : List A := (vs 5 32)
def s_cpEl : Sem := Sem.st l_cpEl g_cpEl 5 37 outs_cpEl (bs 5 0 4503599627370458) (bs 32 0 255) (by kernel_rfl)

theorem E_cpEl (xs : List Int) (hx : InB (bs 5 0 4503599627370458) xs) : ∃ v : Nat → Int, vals l_cpEl g_cpEl xs = v ∧ seg v 0 5 = xs ∧ ((seg v 5 32 = gets (s_Bytes.f (seg v 0 5)) 0 32)) ∧ (True) ∧ s_cpEl.f xs = (seg v 5 32) :=
  Eq.mp (by kernel_rfl) (runE (s := s_cpEl) (o := outs_cpEl) (l := l_cpEl) (g := g_cpEl) (nin := 5) (top := 37) (by kernel_rfl) hx (by kernel_rfl))

abbrev l_errNew : List Sem := []
def g_errNew : List (Nat × Ins) := []
def outs_errNew : List A := []
def s_errNew : Sem := Sem.st l_errNew g_errNew 0 0 outs_errNew [] [] (by kernel_rfl)

end
end Go.X

set_option maxRecDepth 20000
namespace Go.X

/-! ### points: what is said of them -/

theorem small_F {m : Int} (h : 0 ≤ m) (h' : m ≤ 4294967295) : [m, 0, 0, 0, 0, 0, 0, 0, 0, 0, 0, 0, 0, 0, 0, 0] = nF (φ m) := by
  have hl : InB (WB 16) [m, 0, 0, 0, 0, 0, 0, 0, 0, 0, 0, 0, 0, 0, 0, 0] := InD_InB (b := 4294967296) rfl ⟨h, by omega, by decide, by decide, by decide, by decide, by decide, by decide, by decide, by decide, by decide, by decide, by decide, by decide, by decide, by decide, by decide, by decide, by decide, by decide, by decide, by decide, by decide, by decide, by decide, by decide, by decide, by decide, by decide, by decide, by decide, by decide, trivial⟩
  have e : ofD 4294967296 [m, 0, 0, 0, 0, 0, 0, 0, 0, 0, 0, 0, 0, 0, 0, 0] = m := by
    show m + 4294967296 * ofD 4294967296 (List.replicate 15 0) = m
    rw [tz]; omega
  have := nF_of hl (by rw [e]; omega)
  rw [e] at this
  exact this

/-- the curve's number -/
def dF : Fp := -(φ 121665 * inv (φ 121666))

theorem sd_val : s_sd.f [] = nF dF := by
  obtain ⟨v, -, -, ⟨h0, h1, h2, h18, h34⟩, -, hf⟩ := E_sd [] trivial
  rw [Small_val (by decide) (by decide)] at h0 h1
  have h0 : v 0 = 121665 := h0
  have h1 : v 1 = 121666 := h1
  rw [h1, small_F (by decide) (by decide), Inv_val, gets_all (nF_len _)] at h2
  rw [h0, small_F (by decide) (by decide), h2, FMul_val, gets_all (nF_len _)] at h18
  rw [h18, FNeg_val, gets_all (nF_len _)] at h34
  rw [hf, h34]; rfl

theorem Edw_val : s_Edw.f [] = nF dF := by
  obtain ⟨v, -, -, h0, -, hf⟩ := E_Edw [] trivial
  rw [sd_val, gets_all (nF_len _)] at h0
  rw [hf, h0]

def dN : Int := 37095705934669439343138083508754565189542113879843219016388785533085940283555

theorem d_ne : φ 121666 ≠ 0 := by
  intro h
  have h2 := φ_iff.1 (h.trans φ_zero.symm)
  have h3 : (121666 : Int) % p25519 = 121666 := by kernel_rfl
  rw [h3] at h2
  exact absurd h2 (by decide)

theorem d_mul : φ 121666 * φ dN = -φ 121665 := by
  have h : φ (121666 * dN) = φ (-121665) := φ_iff.2 (by kernel_rfl)
  rw [φ_mul, φ_neg] at h
  exact h

theorem d_gen {a b c x : Fp} (h1 : a ≠ 0) (h2 : a * x = -c) (h3 : a * b = 1) : x = -(c * b) := by
  refine mul_cancel h1 ?_
  rw [h2]
  grind

theorem dN_dF : φ dN = dF := d_gen d_ne d_mul (inv_mul d_ne)

theorem dP_val : ∃ l, s_dP.f [] = l ∧ InB LB l ∧ φ (v51 l) = dF := by
  obtain ⟨v, -, -, h0, -, hf⟩ := E_dP [] trivial
  have hb : InB (BB 32) [163, 120, 89, 19, 202, 77, 235, 117, 171, 216, 65, 65, 77, 10, 112, 0, 152, 232, 121, 119, 121, 64, 199, 140, 115, 254, 111, 43, 238, 108, 3, 82] := in_BB rfl (by
    refine ⟨by decide, by decide, by decide, by decide, by decide, by decide, by decide, by decide, by decide, by decide, by decide, by decide, by decide, by decide, by decide, by decide, by decide, by decide, by decide, by decide, by decide, by decide, by decide, by decide, by decide, by decide, by decide, by decide, by decide, by decide, by decide, by decide, by decide, by decide, by decide, by decide, by decide, by decide, by decide, by decide, by decide, by decide, by decide, by decide, by decide, by decide, by decide, by decide, by decide, by decide, by decide, by decide, by decide, by decide, by decide, by decide, by decide, by decide, by decide, by decide, by decide, by decide, by decide, by decide, trivial⟩)
  have e : ofD 256 [163, 120, 89, 19, 202, 77, 235, 117, 171, 216, 65, 65, 77, 10, 112, 0, 152, 232, 121, 119, 121, 64, 199, 140, 115, 254, 111, 43, 238, 108, 3, 82] = dN := by decide
  rw [SetBytes_val _ hb, gets_all (toD_len _ _ _), e] at h0
  refine ⟨_, hf, ?_, ?_⟩
  · rw [h0]; exact el_in _
  · rw [h0, el_val, show dN % 57896044618658097711785492504343953926634992332820282019728792003956564819968 = dN from by decide, dN_dF]

/-- a point in 32 bytes -/
@[irreducible] def encB (x y : Fp) : List Int := if x.val % 2 = 1 then (bB y).take 31 ++ [op2 .or .u8 ((bB y).getD 31 0) 128] else bB y

def eY (xs : List Int) : List Int := s_NBytes.f (s_FMul.f ((xs.drop 32).take 16 ++ s_Inv.f (xs.drop 48)))
def eO (xs : List Int) : Int := (s_Odd.f (s_FMul.f ((xs.drop 16).take 16 ++ s_Inv.f (xs.drop 48)))).getD 0 0
def f_Enc (xs : List Int) : List Int := if eO xs ≠ 0 then (eY xs).take 31 ++ [op2 .or .u8 ((eY xs).getD 31 0) 128] else eY xs

theorem or_bd {x : Int} (h : 0 ≤ x ∧ x ≤ 255) : 0 ≤ op2 .or .u8 x 128 ∧ op2 .or .u8 x 128 ≤ 255 := by
  obtain ⟨n, rfl⟩ := Int.eq_ofNat_of_zero_le h.1
  have hn : n < 2 ^ 8 := by omega
  have e1 := (bits_nat .u8 8 (by decide) (fun n a b => wrap_w (k := .u8) n a b) n 128 hn (by decide)).2
  have e : op2 .or .u8 (n : Int) 128 = ((n ||| 128 : Nat) : Int) := e1
  have := Nat.or_lt_two_pow hn (show 128 < 2 ^ 8 by decide)
  rw [e]; omega

theorem enc_parts {xs : List Int} (h : InB (WB 64) xs) : InB (WB 16) ((xs.drop 16).take 16) ∧ InB (WB 16) ((xs.drop 32).take 16) ∧ InB (WB 16) (xs.drop 48) := by
  obtain ⟨-, h1⟩ := InB.split (a := WB 16) (b := WB 48) h
  obtain ⟨h2, h3⟩ := InB.split (a := WB 16) (b := WB 32) h1
  obtain ⟨h4, h5⟩ := InB.split (a := WB 16) (b := WB 16) h3
  rw [List.drop_drop] at h4 h5
  rw [List.drop_drop] at h5
  exact ⟨h2, h4, h5⟩

theorem eY_bd {xs : List Int} (h : InB (WB 64) xs) : InB (BB 32) (eY xs) := by
  obtain ⟨-, h2, h3⟩ := enc_parts h
  exact s_NBytes.ok _ _ (show s_NBytes.bt (WB 16) = some (BB 32) by kernel_rfl) _ (FMul_bd h2 (Inv_bd h3))

theorem top_or {l : List Int} (h : InB (BB 32) l) : InB (BB 32) (l.take 31 ++ [op2 .or .u8 (l.getD 31 0) 128]) := by
  have hg := h.get 31 (0, 255) rfl
  have ho := or_bd hg
  have ht := (InB.split (a := BB 31) (b := BB 1) h).1
  exact InB.append (a := BB 31) (b := [(0, 255)]) ht ⟨ho.1, ho.2, trivial⟩

def s_Enc : Sem := Sem.of f_Enc (WB 64) (BB 32) (fun xs h => by
  unfold f_Enc
  split
  · exact top_or (eY_bd h)
  · exact eY_bd h)

theorem cov_Enc : Covered l_Enc s_Enc q_Enc := by
  intro xs hx
  have hx : InB (WB 64) xs := hx
  obtain ⟨b1, b2, b3⟩ := enc_parts hx
  have hs : s_Enc.f xs = f_Enc xs := rfl
  have key : ∀ {v : Nat → Int}, seg v 0 64 = xs → seg v 16 16 = (xs.drop 16).take 16 ∧ seg v 32 16 = (xs.drop 32).take 16 ∧ seg v 48 16 = xs.drop 48 := by
    intro v hin
    refine ⟨?_, ?_, ?_⟩
    · rw [← hin, seg_drop _ (by decide), seg_take _ (by decide)]
    · rw [← hin, seg_drop _ (by decide), seg_take _ (by decide)]
    · rw [← hin, seg_drop _ (by decide)]
  have lI : (s_Inv.f (xs.drop 48)).length = 16 := (Inv_bd b3).len
  by_cases ho : eO xs ≠ 0
  · obtain ⟨v, hv, hin, ⟨h64, h80, h96, h128, h144, h145⟩, -, hc, hout⟩ := E_Enc_0 xs hx
    obtain ⟨k1, k2, k3⟩ := key hin
    rw [k3, gets_all lI] at h64
    rw [k2, h64, gets_all (show _ = 16 from (FMul_bd b2 (Inv_bd b3)).len)] at h80
    rw [h80] at h96
    have h96 : seg v 96 32 = gets (eY xs) 0 32 := h96
    rw [gets_all (show _ = 32 from (eY_bd hx).len)] at h96
    rw [k1, h64, gets_all (show _ = 16 from (FMul_bd b1 (Inv_bd b3)).len)] at h128
    rw [h128] at h144
    have h144 : v 144 = eO xs := h144
    have t1 : seg v 96 31 = (eY xs).take 31 := by rw [← h96, seg_take v (by decide)]
    have t2 : v 127 = (eY xs).getD 31 0 := by rw [← h96, seg_getD 31 (by decide)]
    refine ⟨q_Enc_0, List.mem_of_getElem? (show q_Enc[0]? = some q_Enc_0 from rfl), hx, ?_, ?_⟩
    · show CondHold (vals l_Enc g_Enc_0 xs) _
      rw [hv, hc, h144]; exact ⟨ne_t ho, trivial⟩
    · show _ = outs_Enc_0.map (A.ev (vals l_Enc g_Enc_0 xs))
      rw [hv, hout, hs, f_Enc, if_pos ho, h145, t1, t2]
  · obtain ⟨v, hv, hin, ⟨h64, h80, h96, h128, h144⟩, -, hc, hout⟩ := E_Enc_1 xs hx
    obtain ⟨k1, k2, k3⟩ := key hin
    rw [k3, gets_all lI] at h64
    rw [k2, h64, gets_all (show _ = 16 from (FMul_bd b2 (Inv_bd b3)).len)] at h80
    rw [h80] at h96
    have h96 : seg v 96 32 = gets (eY xs) 0 32 := h96
    rw [gets_all (show _ = 32 from (eY_bd hx).len)] at h96
    rw [k1, h64, gets_all (show _ = 16 from (FMul_bd b1 (Inv_bd b3)).len)] at h128
    rw [h128] at h144
    have h144 : v 144 = eO xs := h144
    refine ⟨q_Enc_1, List.mem_of_getElem? (show q_Enc[1]? = some q_Enc_1 from rfl), hx, ?_, ?_⟩
    · show CondHold (vals l_Enc g_Enc_1 xs) _
      rw [hv, hc, h144]; exact ⟨ne_f ho, trivial⟩
    · show _ = outs_Enc_1.map (A.ev (vals l_Enc g_Enc_1 xs))
      rw [hv, hout, hs, f_Enc, if_neg ho, h96]

theorem four_split {d : List Int} (hd : d.length = 16) (x y z : Fp) : ((d ++ (nF x ++ (nF y ++ nF z))).drop 16).take 16 = nF x ∧ ((d ++ (nF x ++ (nF y ++ nF z))).drop 32).take 16 = nF y ∧ (d ++ (nF x ++ (nF y ++ nF z))).drop 48 = nF z := by
  have e1 : (d ++ (nF x ++ (nF y ++ nF z))).drop 16 = nF x ++ (nF y ++ nF z) := List.drop_left' hd
  have e2 : (d ++ (nF x ++ (nF y ++ nF z))).drop 32 = nF y ++ nF z := by
    rw [show 32 = 16 + 16 from rfl, ← List.drop_drop, e1]; exact List.drop_left' (nF_len _)
  have e3 : (d ++ (nF x ++ (nF y ++ nF z))).drop 48 = nF z := by
    rw [show 48 = 32 + 16 from rfl, ← List.drop_drop, e2]; exact List.drop_left' (nF_len _)
  rw [e1, e2, e3]
  exact ⟨List.take_left' (nF_len _), List.take_left' (nF_len _), rfl⟩

theorem Enc_val {d : List Int} (hd : d.length = 16) (x y z : Fp) : f_Enc (d ++ (nF x ++ (nF y ++ nF z))) = encB (x * inv z) (y * inv z) := by
  obtain ⟨e1, e2, e3⟩ := four_split hd x y z
  have hY : eY (d ++ (nF x ++ (nF y ++ nF z))) = bB (y * inv z) := by
    unfold eY
    rw [e2, e3, Inv_val, FMul_val, NBytes_nF]; rfl
  have hO : eO (d ++ (nF x ++ (nF y ++ nF z))) = if (x * inv z).val % 2 = 1 then 1 else 0 := by
    unfold eO
    rw [e1, e3, Inv_val, FMul_val, Odd_val, List.getD_cons_zero]
  unfold f_Enc encB
  rw [hY, hO]
  by_cases h : (x * inv z).val % 2 = 1
  · rw [if_pos h, if_pos (by decide), if_pos h]
  · rw [if_neg h, if_neg (by decide), if_neg h]

end Go.X

set_option maxRecDepth 20000
namespace Go.X

/-! ### a point out of 32 bytes, as it is said -/

def Z8 : List Int := [0, 0, 0, 0, 0, 0, 0, 0]
def O16 : List Int := [1, 0, 0, 0, 0, 0, 0, 0, 0, 0, 0, 0, 0, 0, 0, 0]

def dY (b : List Int) : List Int := s_Field.f ((s_Of32.f b).take 7 ++ [((s_Of32.f b).getD 7 0) % 2147483648, 0, 0, 0, 0, 0, 0, 0, 0])
def dS (b : List Int) : Int := (s_Bit.f (s_Of32.f b ++ [0, 0, 0, 0, 0, 0, 0, 0, 255])).getD 0 0
@[irreducible] def dR (d b : List Int) : List Int := f_Ratio (s_FSub.f (s_FMul.f (dY b ++ dY b) ++ O16) ++ s_FAdd.f (s_FMul.f (d ++ s_FMul.f (dY b ++ dY b)) ++ O16))
def dQ (d b : List Int) : Int := op2 .neq .i64 ((dR d b).getD 0 0 % 2) (dS b)

def f_Dec (xs : List Int) : List Int :=
  if (dR (xs.take 16) (xs.drop 16)).getD 16 0 ≠ 0 then
    (if dQ (xs.take 16) (xs.drop 16) ≠ 0 then s_FNeg.f ((dR (xs.take 16) (xs.drop 16)).take 16) ++ dY (xs.drop 16) ++ [1, 1] else (dR (xs.take 16) (xs.drop 16)).take 16 ++ dY (xs.drop 16) ++ [1, 1])
  else List.replicate 34 0

theorem Of8_in {b : List Int} (hb : InB (BB 32) b) : InB (WB 16) ((s_Of32.f b).take 7 ++ [((s_Of32.f b).getD 7 0) % 2147483648, 0, 0, 0, 0, 0, 0, 0, 0]) := by
  have h8 := of32_in hb
  have hd : InD 4294967296 (s_Of32.f b) := InB_InD (b := 4294967296) (n := 8) h8
  have ht : InD 4294967296 ((s_Of32.f b).take 7) := by
    rw [← List.take_append_drop 7 (s_Of32.f b)] at hd
    exact InD_left hd
  have hl : ((s_Of32.f b).take 7).length = 7 := by rw [List.length_take, h8.len]; rfl
  refine InD_InB (b := 4294967296) ?_ (InD_append ht ⟨?_, ?_, by decide, by decide, by decide, by decide, by decide, by decide, by decide, by decide, by decide, by decide, by decide, by decide, by decide, by decide, by decide, by decide, trivial⟩)
  · rw [List.length_append, hl]; rfl
  · exact Int.emod_nonneg _ (by decide)
  · exact Int.lt_of_lt_of_le (Int.emod_lt_of_pos _ (by decide)) (by decide)

theorem Field_bd {x : List Int} (h : InB (WB 16) x) : InB (WB 16) (s_Field.f x) :=
  s_Field.ok _ _ (show s_Field.bt (WB 16) = some (WB 16) by kernel_rfl) _ h
theorem FAdd_bd {x y : List Int} (hx : InB (WB 16) x) (hy : InB (WB 16) y) : InB (WB 16) (s_FAdd.f (x ++ y)) :=
  s_FAdd.ok _ _ (show s_FAdd.bt (WB 32) = some (WB 16) by kernel_rfl) _ (sub_in hx hy)
theorem FSub_bd {x y : List Int} (hx : InB (WB 16) x) (hy : InB (WB 16) y) : InB (WB 16) (s_FSub.f (x ++ y)) :=
  s_FSub.ok _ _ (show s_FSub.bt (WB 32) = some (WB 16) by kernel_rfl) _ (sub_in hx hy)

theorem O16_in : InB (WB 16) O16 := by rw [O16, ← nF_one]; exact nF_in 1
theorem dY_bd {b : List Int} (hb : InB (BB 32) b) : InB (WB 16) (dY b) := Field_bd (Of8_in hb)
theorem dY2_bd {b : List Int} (hb : InB (BB 32) b) : InB (WB 16) (s_FMul.f (dY b ++ dY b)) := FMul_bd (dY_bd hb) (dY_bd hb)
theorem dU_bd {b : List Int} (hb : InB (BB 32) b) : InB (WB 16) (s_FSub.f (s_FMul.f (dY b ++ dY b) ++ O16)) := FSub_bd (dY2_bd hb) O16_in
theorem dM_bd {d b : List Int} (hd : InB (WB 16) d) (hb : InB (BB 32) b) : InB (WB 16) (s_FMul.f (d ++ s_FMul.f (dY b ++ dY b))) := FMul_bd hd (dY2_bd hb)
theorem dV_bd {d b : List Int} (hd : InB (WB 16) d) (hb : InB (BB 32) b) : InB (WB 16) (s_FAdd.f (s_FMul.f (d ++ s_FMul.f (dY b ++ dY b)) ++ O16)) := FAdd_bd (dM_bd hd hb) O16_in
theorem dR_eq (d b : List Int) : dR d b = f_Ratio (s_FSub.f (s_FMul.f (dY b ++ dY b) ++ O16) ++ s_FAdd.f (s_FMul.f (d ++ s_FMul.f (dY b ++ dY b)) ++ O16)) := by
  unfold dR; rfl
theorem Ratio_f : s_Ratio.f = f_Ratio := rfl
theorem Ratio_ok (xs : List Int) (h : InB (WB 32) xs) (y : List Int) (e : y = f_Ratio xs) : InB (WB 16 ++ [(0, 1)]) y := by
  rw [e, ← Ratio_f]
  exact s_Ratio.ok (WB 32) (WB 16 ++ [(0, 1)]) (by kernel_rfl) xs h
theorem dR_bd {d b : List Int} (hd : InB (WB 16) d) (hb : InB (BB 32) b) : InB (WB 16 ++ [(0, 1)]) (dR d b) := by
  have h1 := dU_bd hb
  have h2 := dV_bd hd hb
  exact Ratio_ok _ (sub_in h1 h2) _ (dR_eq d b)
theorem dR16 {d b : List Int} (hd : InB (WB 16) d) (hb : InB (BB 32) b) : InB (WB 16) ((dR d b).take 16) := (InB.split (a := WB 16) (b := [(0, 1)]) (dR_bd hd hb)).1

theorem dec_in {xs : List Int} (h : InB (WB 16 ++ BB 32) xs) : InB (WB 16) (xs.take 16) ∧ InB (BB 32) (xs.drop 16) := InB.split (a := WB 16) (b := BB 32) h

abbrev bDo : Bd := WB 16 ++ WB 16 ++ [(0, 1), (0, 1)]

theorem eleven : InB [(0, 1), (0, 1)] [(1 : Int), 1] := ⟨by decide, by decide, by decide, by decide, trivial⟩

theorem pt_in {x y : List Int} (hx : InB (WB 16) x) (hy : InB (WB 16) y) : InB bDo (x ++ y ++ [1, 1]) :=
  InB.append (a := WB 16 ++ WB 16) (b := [(0, 1), (0, 1)]) (InB.append hx hy) eleven

theorem z34_in : InB bDo (List.replicate 34 0) :=
  InB.append (a := WB 16 ++ WB 16) (b := [(0, 1), (0, 1)]) (x := List.replicate 32 0) (y := [0, 0]) (InB.append (a := WB 16) (b := WB 16) (x := List.replicate 16 0) (y := List.replicate 16 0) Z_in Z_in) ⟨by decide, by decide, by decide, by decide, trivial⟩

theorem Dec_bd (xs : List Int) (h : InB (WB 16 ++ BB 32) xs) : InB bDo (f_Dec xs) := by
  obtain ⟨hd, hb⟩ := dec_in h
  have hr := dR16 hd hb
  have hy := dY_bd hb
  unfold f_Dec
  by_cases h1 : (dR (xs.take 16) (xs.drop 16)).getD 16 0 ≠ 0
  · rw [if_pos h1]
    by_cases h2 : dQ (xs.take 16) (xs.drop 16) ≠ 0
    · rw [if_pos h2]; exact pt_in (FNeg_bd hr) hy
    · rw [if_neg h2]; exact pt_in hr hy
  · rw [if_neg h1]; exact z34_in

def s_Dec : Sem := Sem.of f_Dec (WB 16 ++ BB 32) bDo Dec_bd

theorem seg7_app {v : Nat → Int} {x : Nat} {l : List Int} (h : seg v x 8 = l) : seg v x 7 = l.take 7 ∧ v (x + 7) = l.getD 7 0 := by
  refine ⟨?_, ?_⟩
  · rw [← h, seg_take v (by decide)]
  · rw [← h, seg_getD 7 (by decide)]

theorem cov_Dec : Covered l_Dec s_Dec q_Dec := by
  intro xs hx
  have hx : InB (WB 16 ++ BB 32) xs := hx
  obtain ⟨hd, hb⟩ := dec_in hx
  have hs : s_Dec.f xs = f_Dec xs := rfl
  have lO : (s_Of32.f (xs.drop 16)).length = 8 := (of32_in hb).len
  have l16 : ∀ {l : List Int}, InB (WB 16) l → l.length = 16 := fun h => h.len
  have lR : (dR (xs.take 16) (xs.drop 16)).length = 17 := (dR_bd hd hb).len
  have key : ∀ {v : Nat → Int}, seg v 0 48 = xs → seg v 48 8 = gets (s_Of32.f (seg v 16 32)) 0 8 → v 56 = (s_Bit.f (seg v 48 8 ++ [0, 0, 0, 0, 0, 0, 0, 0, 255])).getD 0 0 → v 57 = (v 55) % 2147483648 →
      seg v 58 16 = gets (s_Field.f (seg v 48 7 ++ [v 57, 0, 0, 0, 0, 0, 0, 0, 0])) 0 16 → seg v 74 16 = gets (s_FMul.f (seg v 58 16 ++ seg v 58 16)) 0 16 → v 90 = (s_Small.f ([1])).getD 0 0 →
      seg v 91 16 = gets (s_FSub.f (seg v 74 17 ++ [0, 0, 0, 0, 0, 0, 0, 0, 0, 0, 0, 0, 0, 0, 0])) 0 16 → seg v 107 16 = gets (s_FMul.f (seg v 0 16 ++ seg v 74 16)) 0 16 → v 123 = (s_Small.f ([1])).getD 0 0 →
      seg v 124 16 = gets (s_FAdd.f (seg v 107 17 ++ [0, 0, 0, 0, 0, 0, 0, 0, 0, 0, 0, 0, 0, 0, 0])) 0 16 → seg v 140 17 = gets (s_Ratio.f (seg v 91 16 ++ seg v 124 16)) 0 17 →
      v 56 = dS (xs.drop 16) ∧ seg v 58 16 = dY (xs.drop 16) ∧ seg v 140 16 = (dR (xs.take 16) (xs.drop 16)).take 16 ∧ v 156 = (dR (xs.take 16) (xs.drop 16)).getD 16 0 ∧ v 140 = (dR (xs.take 16) (xs.drop 16)).getD 0 0 := by
    intro v hin h48 h56 h57 h58 h74 h90 h91 h107 h123 h124 h140
    have e0 : seg v 0 16 = xs.take 16 := by rw [← hin, seg_take _ (by decide)]
    have e1 : seg v 16 32 = xs.drop 16 := by rw [← hin, seg_drop _ (by decide)]
    rw [e1, gets_all lO] at h48
    obtain ⟨k7, k8⟩ := seg7_app h48
    have k8 : v 55 = _ := k8
    rw [h48] at h56
    rw [k7, h57, k8] at h58
    have h58 : seg v 58 16 = gets (dY (xs.drop 16)) 0 16 := h58
    rw [gets_all (l16 (dY_bd hb))] at h58
    rw [h58, gets_all (l16 (dY2_bd hb))] at h74
    rw [Small_val (by decide) (by decide)] at h90 h123
    have a1 : seg v 74 17 ++ [0, 0, 0, 0, 0, 0, 0, 0, 0, 0, 0, 0, 0, 0, 0] = s_FMul.f (dY (xs.drop 16) ++ dY (xs.drop 16)) ++ O16 := by
      have : seg v 74 17 = seg v 74 16 ++ [v 90] := seg_add v 16 1 74
      rw [this, h74, h90, List.append_assoc]; rfl
    rw [a1, gets_all (l16 (dU_bd hb))] at h91
    rw [e0, h74, gets_all (l16 (dM_bd hd hb))] at h107
    have a2 : seg v 107 17 ++ [0, 0, 0, 0, 0, 0, 0, 0, 0, 0, 0, 0, 0, 0, 0] = s_FMul.f (xs.take 16 ++ s_FMul.f (dY (xs.drop 16) ++ dY (xs.drop 16))) ++ O16 := by
      have : seg v 107 17 = seg v 107 16 ++ [v 123] := seg_add v 16 1 107
      rw [this, h107, h123, List.append_assoc]; rfl
    rw [a2, gets_all (l16 (dV_bd hd hb))] at h124
    rw [h91, h124] at h140
    rw [Ratio_f, ← dR_eq] at h140
    obtain ⟨r1, r2⟩ := seg17 h140 lR
    refine ⟨h56, h58, r1, r2, ?_⟩
    have : (seg v 140 16).getD 0 0 = v 140 := seg_getD 0 (by decide)
    rw [← this, r1, List.getD_eq_getElem?_getD, List.getElem?_take, if_pos (by decide), ← List.getD_eq_getElem?_getD]
  by_cases hok : (dR (xs.take 16) (xs.drop 16)).getD 16 0 ≠ 0
  · by_cases hq : dQ (xs.take 16) (xs.drop 16) ≠ 0
    · obtain ⟨v, hv, hin, ⟨h48, h56, h57, h58, h74, h90, h91, h107, h123, h124, h140, h157, h158, h159, h160, h161, h177⟩, -, hc, ho⟩ := E_Dec_1 xs hx
      obtain ⟨k1, k2, k3, k4, k5⟩ := key hin h48 h56 h57 h58 h74 h90 h91 h107 h123 h124 h140
      rw [k4, if_pos hok] at h157
      rw [h159, h158, k5, k1] at h160
      have h160 : v 160 = dQ (xs.take 16) (xs.drop 16) := h160
      have hr := dR16 hd hb
      rw [k3, gets_all (show _ = 16 from (FNeg_bd hr).len)] at h161
      rw [Small_val (by decide) (by decide)] at h177
      have h177 : v 177 = 1 := h177
      refine ⟨q_Dec_1, List.mem_of_getElem? (show q_Dec[1]? = some q_Dec_1 from rfl), hx, ?_, ?_⟩
      · show CondHold (vals l_Dec g_Dec_1 xs) _
        rw [hv, hc, h160, h157]; exact ⟨ne_t hq, rfl, trivial⟩
      · show _ = outs_Dec_1.map (A.ev (vals l_Dec g_Dec_1 xs))
        rw [hv, ho, hs, f_Dec, if_pos hok, if_pos hq, h161, k2, h177]
    · obtain ⟨v, hv, hin, ⟨h48, h56, h57, h58, h74, h90, h91, h107, h123, h124, h140, h157, h158, h159, h160, h161⟩, -, hc, ho⟩ := E_Dec_2 xs hx
      obtain ⟨k1, k2, k3, k4, k5⟩ := key hin h48 h56 h57 h58 h74 h90 h91 h107 h123 h124 h140
      rw [k4, if_pos hok] at h157
      rw [h159, h158, k5, k1] at h160
      have h160 : v 160 = dQ (xs.take 16) (xs.drop 16) := h160
      rw [Small_val (by decide) (by decide)] at h161
      have h161 : v 161 = 1 := h161
      refine ⟨q_Dec_2, List.mem_of_getElem? (show q_Dec[2]? = some q_Dec_2 from rfl), hx, ?_, ?_⟩
      · show CondHold (vals l_Dec g_Dec_2 xs) _
        rw [hv, hc, h160, h157]; exact ⟨ne_f hq, rfl, trivial⟩
      · show _ = outs_Dec_2.map (A.ev (vals l_Dec g_Dec_2 xs))
        rw [hv, ho, hs, f_Dec, if_pos hok, if_neg hq, k3, k2, h161]
  · obtain ⟨v, hv, hin, ⟨h48, h56, h57, h58, h74, h90, h91, h107, h123, h124, h140, h157⟩, -, hc, ho⟩ := E_Dec_0 xs hx
    obtain ⟨k1, k2, k3, k4, k5⟩ := key hin h48 h56 h57 h58 h74 h90 h91 h107 h123 h124 h140
    rw [k4, if_neg hok] at h157
    refine ⟨q_Dec_0, List.mem_of_getElem? (show q_Dec[0]? = some q_Dec_0 from rfl), hx, ?_, ?_⟩
    · show CondHold (vals l_Dec g_Dec_0 xs) _
      rw [hv, hc, h157]; exact ⟨rfl, trivial⟩
    · show _ = outs_Dec_0.map (A.ev (vals l_Dec g_Dec_0 xs))
      rw [hv, ho, hs, f_Dec, if_neg hok]; rfl

end Go.X

set_option maxRecDepth 20000
namespace Go.X

theorem of_mask {b : List Int} (hb : InB (BB 32) b) : φ (ofD 4294967296 ((s_Of32.f b).take 7 ++ [((s_Of32.f b).getD 7 0) % 2147483648, 0, 0, 0, 0, 0, 0, 0, 0])) = eF b := by
  obtain ⟨A0, A1⟩ := ofD_bound (b := 256) (by decide) (BB_in hb)
  rw [hb.len] at A1
  have A1 : ofD 256 b < 115792089237316195423570985008687907853269984665640564039457584007913129639936 := A1
  unfold eF
  rw [el_val, Of32_val b hb]
  generalize ofD 256 b = n at *
  have e1 : toD 4294967296 8 n = toD 4294967296 7 n ++ toD 4294967296 1 (n / 4294967296 ^ 7) := toD_split (by decide) 7 1 n
  have e2 : (toD 4294967296 8 n).take 7 = toD 4294967296 7 n := by rw [e1]; exact List.take_left' (toD_len _ _ _)
  have e3 : (toD 4294967296 8 n).getD 7 0 = (n / 4294967296 ^ 7) % 4294967296 := by
    rw [e1, List.getD_eq_getElem?_getD, List.getElem?_append_right (by rw [toD_len]; decide), toD_len]; rfl
  rw [e2, e3, ofD_append, toD_len, ofD_toD (by decide)]
  have e4 : ofD 4294967296 [(n / 4294967296 ^ 7) % 4294967296 % 2147483648, 0, 0, 0, 0, 0, 0, 0, 0] = (n / 4294967296 ^ 7) % 4294967296 % 2147483648 + 4294967296 * ofD 4294967296 (List.replicate 8 0) := rfl
  rw [e4, tz]
  have e7 : (4294967296 : Int) ^ 7 = 26959946667150639794667015087019630673637144422540572481103610249216 := by decide
  rw [e7]
  congr 1
  omega

theorem dY_val {b : List Int} (hb : InB (BB 32) b) : dY b = nF (eF b) := by
  unfold dY
  rw [Field_val _ (Of8_in hb), of_mask hb]

/-- the highest bit of 32 bytes -/
def sgB (b : List Int) : Int := ofD 256 b / 57896044618658097711785492504343953926634992332820282019728792003956564819968

theorem sgB_01 {b : List Int} (hb : InB (BB 32) b) : sgB b = 0 ∨ sgB b = 1 := by
  obtain ⟨A0, A1⟩ := ofD_bound (b := 256) (by decide) (BB_in hb)
  rw [hb.len] at A1
  have A1 : ofD 256 b < 115792089237316195423570985008687907853269984665640564039457584007913129639936 := A1
  unfold sgB; omega

theorem Z8_in : InB (WB 8) Z8 := ⟨by decide, by decide, by decide, by decide, by decide, by decide, by decide, by decide, by decide, by decide, by decide, by decide, by decide, by decide, by decide, by decide, trivial⟩

theorem dS_val {b : List Int} (hb : InB (BB 32) b) : dS b = sgB b := by
  have h8 := of32_in hb
  have hin : InB (WB 16) (s_Of32.f b ++ Z8) := InB.append (a := WB 8) (b := WB 8) h8 Z8_in
  have hbit := Bit_val hin (n := 255) (by decide)
  have e : dS b = bitOf (s_Of32.f b ++ Z8) ((255 : Nat) : Int) := by
    unfold dS bitOf
    rw [List.append_assoc]; rfl
  have e0 : ofD 4294967296 Z8 = 0 := by decide
  obtain ⟨A0, A1⟩ := ofD_bound (b := 256) (by decide) (BB_in hb)
  rw [hb.len] at A1
  have A1 : ofD 256 b < 115792089237316195423570985008687907853269984665640564039457584007913129639936 := A1
  have hn : ofD 4294967296 (s_Of32.f b ++ Z8) = ofD 256 b := by
    rw [ofD_append, e0, Of32_val b hb, ofD_toD (by decide), Int.mul_zero, Int.add_zero]
    exact Int.emod_eq_of_lt A0 A1
  have h2 : (2 : Int) ^ 255 = 57896044618658097711785492504343953926634992332820282019728792003956564819968 := by decide
  rw [e, hbit, hn, h2]
  have := sgB_01 hb
  unfold sgB at *
  omega

theorem absF_even (x : Fp) : (absF x).val % 2 = 0 := by
  unfold absF
  by_cases h : x.val % 2 = 1
  · rw [if_pos h]
    have hl := x.isLt
    have hv : (-x).val = pN - x.val := by
      rw [Fin.val_neg', Nat.mod_eq_of_lt (by omega)]
    have hp : pN % 2 = 1 := by decide
    rw [hv]; omega
  · rw [if_neg h]; omega

def uF (y : Fp) : Fp := y * y - 1
def vF (y : Fp) : Fp := dF * (y * y) + 1
/-- the first coordinate that goes with the second one and a bit -/
def xF (y : Fp) (s : Int) : Fp := if s = 1 then -sqF (uF y) (vF y) else sqF (uF y) (vF y)

theorem O16_nF : O16 = nF 1 := nF_one.symm

theorem dR_val {b : List Int} (hb : InB (BB 32) b) : dR (nF dF) b = nF (sqF (uF (eF b)) (vF (eF b))) ++ [if okF (uF (eF b)) (vF (eF b)) then 1 else 0] := by
  rw [dR_eq, dY_val hb, O16_nF, FMul_val, FSub_val, FMul_val, FAdd_val, Ratio_val]
  rfl

theorem neq_i {a b : Int} : op2 .neq .i64 a b = if a = b then 0 else 1 := by
  have e : op2 .neq .i64 a b = b2i (a != b) := rfl
  rw [e]
  by_cases h : a = b
  · subst h; rw [if_pos rfl, bne_self_eq_false]; rfl
  · rw [if_neg h, bne_iff_ne.2 h]; rfl

theorem dQ_val {b : List Int} (hb : InB (BB 32) b) : dQ (nF dF) b = sgB b := by
  unfold dQ
  rw [dR_val hb, dS_val hb, neq_i]
  have h0 : (nF (sqF (uF (eF b)) (vF (eF b))) ++ [if okF (uF (eF b)) (vF (eF b)) then (1 : Int) else 0]).getD 0 0 = ((sqF (uF (eF b)) (vF (eF b))).val : Int) % 4294967296 := rfl
  rw [h0]
  have he : (sqF (uF (eF b)) (vF (eF b))).val % 2 = 0 := absF_even _
  have := sgB_01 hb
  by_cases h : ((sqF (uF (eF b)) (vF (eF b))).val : Int) % 4294967296 % 2 = sgB b
  · rw [if_pos h]; omega
  · rw [if_neg h]; omega

theorem Dec_val {b : List Int} (hb : InB (BB 32) b) : f_Dec (nF dF ++ b) = if okF (uF (eF b)) (vF (eF b)) then nF (xF (eF b) (sgB b)) ++ nF (eF b) ++ [1, 1] else List.replicate 34 0 := by
  unfold f_Dec
  rw [take_nF, drop_nF, dQ_val hb, dR_val hb, getD16 (nF_len _), List.take_left' (nF_len _), dY_val hb]
  by_cases hok : okF (uF (eF b)) (vF (eF b))
  · rw [if_pos hok, if_pos (by decide), if_pos hok]
    unfold xF
    rcases sgB_01 hb with h | h
    · rw [if_neg (by rw [h]; decide), if_neg (by rw [h]; decide)]
    · rw [if_pos (by rw [h]; decide), if_pos h, FNeg_val]
  · rw [if_neg hok, if_neg (by decide), if_neg hok]

end Go.X

set_option maxRecDepth 20000
namespace Go.X.Y
open Go.Proofs
noncomputable section
def T_sd : Tmpl := ⟨55, [], [], 0, 16, true, .one (.agg (us .u32 0 16)), [], []⟩
def p_sd : Path := ⟨[], [], ⟨.one (.agg (us .u32 34 16)), [(us .u32 34 16)], ⟨g_sd, 50, [.pre 2 (vs 18 16), .pre 1 ([(.v 0)] ++ (ls 0 15) ++ (vs 2 16)), .pre 3 ([(.v 1)] ++ (ls 0 15)), .pre 0 [(.l 121666)], .pre 0 [(.l 121665)]], [], [0]⟩⟩, ⟨outs_sd, []⟩, 60⟩
theorem r_sd : runBody Try.prog [T_Small, T_FMul, T_FNeg, T_Inv] [] Try.f55 p_sd.fuel T_sd.args T_sd.mem T_sd.nin p_sd.orc = some p_sd.out := by kernel_rfl
theorem good_sd (W : World0 Try.prog) : Good W T_sd s_sd := straight (l := l_sd) (p := p_sd) (by exact ⟨good_Small W, good_FMul W, good_FNeg W, good_Inv W, trivial⟩) Try.func55 Try.call55 r_sd (by kernel_rfl) rfl

def T_Edw : Tmpl := ⟨21, [], [], 0, 16, true, .one (.agg (us .u32 0 16)), [], []⟩
def p_Edw : Path := ⟨[], [], ⟨.one (.agg (us .u32 0 16)), [(us .u32 0 16)], ⟨g_Edw, 16, [.pre 0 []], [], [0]⟩⟩, ⟨outs_Edw, []⟩, 60⟩
theorem r_Edw : runBody Try.prog [T_sd] [] Try.f21 p_Edw.fuel T_Edw.args T_Edw.mem T_Edw.nin p_Edw.orc = some p_Edw.out := by kernel_rfl
theorem good_Edw (W : World0 Try.prog) : Good W T_Edw s_Edw := straight (l := l_Edw) (p := p_Edw) (by exact ⟨good_sd W, trivial⟩) Try.func21 Try.call21 r_Edw (by kernel_rfl) rfl

def T_Dec : Tmpl := ⟨22, [.one (.agg (us .u32 0 16)), .one (.lf (.slc 0 0 32 none))], [(us .u8 16 32)], 48, 34, true, .tup [.agg ((us .u32 48 33) ++ (lits .u32 0 15)), .lf (.bool (.v 81))], [none], []⟩
def p_Dec_0 : Path := ⟨((bs 16 0 4294967295) ++ (bs 32 0 255)), [true], ⟨.tup [.agg (lits .u32 0 48), .lf (.bool (.l 0))], [(us .u8 16 32), (us .u32 0 16), (lits .u32 0 48), ((us .u32 48 7) ++ [.int .u32 (.v 57)] ++ (lits .u32 0 8)), (us .u32 58 16), (us .u32 74 16), (us .u32 140 16)], ⟨g_Dec_0, 158, [.cond (.v 157) true, .pre 9 ((vs 91 16) ++ (vs 124 16)), .pre 5 ((vs 107 17) ++ (ls 0 15)), .pre 2 [(.l 1)], .pre 7 ((vs 0 16) ++ (vs 74 16)), .pre 6 ((vs 74 17) ++ (ls 0 15)), .pre 2 [(.l 1)], .pre 7 ((vs 58 16) ++ (vs 58 16)), .pre 4 ((vs 48 7) ++ [(.v 57)] ++ (ls 0 8)), .pre 3 ((vs 48 8) ++ (ls 0 8) ++ [(.l 255)]), .pre 0 (vs 16 32)], [], [2, 6, 5, 4, 3, 3]⟩⟩, ⟨outs_Dec_0, []⟩, 60⟩
theorem r_Dec_0 : runBody Try.prog [T_Of32, T_Of64, T_Small, T_Bit, T_Field, T_FAdd, T_FSub, T_FMul, T_FNeg, T_Ratio] [] Try.f22 p_Dec_0.fuel T_Dec.args T_Dec.mem T_Dec.nin p_Dec_0.orc = some p_Dec_0.out := by kernel_rfl
def p_Dec_1 : Path := ⟨((bs 16 0 4294967295) ++ (bs 32 0 255)), [false, true], ⟨.tup [.agg (List.flatten [us .u32 161 16, us .u32 58 16, [.int .u32 (.v 177)], lits .u32 0 15]), .lf (.bool (.l 1))], [(us .u8 16 32), (us .u32 0 16), (List.flatten [us .u32 161 16, us .u32 58 16, [.int .u32 (.v 177)], lits .u32 0 15]), ((us .u32 48 7) ++ [.int .u32 (.v 57)] ++ (lits .u32 0 8)), (us .u32 58 16), (us .u32 74 16), (us .u32 161 16)], ⟨g_Dec_1, 178, [.pre 2 [(.l 1)], .pre 8 (vs 140 16), .cond (.v 160) true, .cond (.v 157) false, .pre 9 ((vs 91 16) ++ (vs 124 16)), .pre 5 ((vs 107 17) ++ (ls 0 15)), .pre 2 [(.l 1)], .pre 7 ((vs 0 16) ++ (vs 74 16)), .pre 6 ((vs 74 17) ++ (ls 0 15)), .pre 2 [(.l 1)], .pre 7 ((vs 58 16) ++ (vs 58 16)), .pre 4 ((vs 48 7) ++ [(.v 57)] ++ (ls 0 8)), .pre 3 ((vs 48 8) ++ (ls 0 8) ++ [(.l 255)]), .pre 0 (vs 16 32)], [], [2, 6, 6, 5, 4, 3, 3]⟩⟩, ⟨outs_Dec_1, []⟩, 60⟩
theorem r_Dec_1 : runBody Try.prog [T_Of32, T_Of64, T_Small, T_Bit, T_Field, T_FAdd, T_FSub, T_FMul, T_FNeg, T_Ratio] [] Try.f22 p_Dec_1.fuel T_Dec.args T_Dec.mem T_Dec.nin p_Dec_1.orc = some p_Dec_1.out := by kernel_rfl
def p_Dec_2 : Path := ⟨((bs 16 0 4294967295) ++ (bs 32 0 255)), [false, false], ⟨.tup [.agg (List.flatten [us .u32 140 16, us .u32 58 16, [.int .u32 (.v 161)], lits .u32 0 15]), .lf (.bool (.l 1))], [(us .u8 16 32), (us .u32 0 16), (List.flatten [us .u32 140 16, us .u32 58 16, [.int .u32 (.v 161)], lits .u32 0 15]), ((us .u32 48 7) ++ [.int .u32 (.v 57)] ++ (lits .u32 0 8)), (us .u32 58 16), (us .u32 74 16), (us .u32 140 16)], ⟨g_Dec_2, 162, [.pre 2 [(.l 1)], .cond (.v 160) false, .cond (.v 157) false, .pre 9 ((vs 91 16) ++ (vs 124 16)), .pre 5 ((vs 107 17) ++ (ls 0 15)), .pre 2 [(.l 1)], .pre 7 ((vs 0 16) ++ (vs 74 16)), .pre 6 ((vs 74 17) ++ (ls 0 15)), .pre 2 [(.l 1)], .pre 7 ((vs 58 16) ++ (vs 58 16)), .pre 4 ((vs 48 7) ++ [(.v 57)] ++ (ls 0 8)), .pre 3 ((vs 48 8) ++ (ls 0 8) ++ [(.l 255)]), .pre 0 (vs 16 32)], [], [2, 6, 5, 4, 3, 3]⟩⟩, ⟨outs_Dec_2, []⟩, 60⟩
theorem r_Dec_2 : runBody Try.prog [T_Of32, T_Of64, T_Small, T_Bit, T_Field, T_FAdd, T_FSub, T_FMul, T_FNeg, T_Ratio] [] Try.f22 p_Dec_2.fuel T_Dec.args T_Dec.mem T_Dec.nin p_Dec_2.orc = some p_Dec_2.out := by kernel_rfl
theorem good_Dec (W : World0 Try.prog) : Good W T_Dec s_Dec := paths (ts := [T_Of32, T_Of64, T_Small, T_Bit, T_Field, T_FAdd, T_FSub, T_FMul, T_FNeg, T_Ratio]) (l := l_Dec) (ps := [p_Dec_0, p_Dec_1, p_Dec_2]) (by exact ⟨good_Of32 W, good_Of64 W, good_Small W, good_Bit W, good_Field W, good_FAdd W, good_FSub W, good_FMul W, good_FNeg W, good_Ratio W, trivial⟩) (by kernel_rfl) Try.func22 Try.call22 (by kernel_rfl) (by
  intro p hp
  simp only [List.mem_cons, List.not_mem_nil, or_false] at hp
  rcases hp with rfl | rfl | rfl
  · exact ⟨r_Dec_0, by kernel_rfl⟩
  · exact ⟨r_Dec_1, by kernel_rfl⟩
  · exact ⟨r_Dec_2, by kernel_rfl⟩
  ) (paths_fp cov_Dec (by kernel_rfl))

def T_Enc : Tmpl := ⟨24, [.one (.agg (us .u32 0 16)), .one (.agg (us .u32 16 48))], [], 64, 32, true, .one (.lf (.slc 0 0 32 (some 32))), [], [(us .u8 64 32)]⟩
def p_Enc_0 : Path := ⟨(bs 64 0 4294967295), [true], ⟨.one (.lf (.slc 3 0 32 (some 32))), [(us .u32 0 16), (us .u32 16 48), (us .u32 64 16), ((us .u8 96 31) ++ [.int .u8 (.v 145)])], ⟨g_Enc_0, 146, [.cond (.v 144) true, .pre 2 (vs 128 16), .pre 1 ((vs 16 16) ++ (vs 64 16)), .pre 0 (vs 80 16), .pre 1 ((vs 32 16) ++ (vs 64 16)), .pre 3 (vs 48 16)], [], [3, 2]⟩⟩, ⟨outs_Enc_0, [3]⟩, 60⟩
theorem r_Enc_0 : runBody Try.prog [T_NBytes, T_FMul, T_Odd, T_Inv] [] Try.f24 p_Enc_0.fuel T_Enc.args T_Enc.mem T_Enc.nin p_Enc_0.orc = some p_Enc_0.out := by kernel_rfl
def p_Enc_1 : Path := ⟨(bs 64 0 4294967295), [false], ⟨.one (.lf (.slc 3 0 32 (some 32))), [(us .u32 0 16), (us .u32 16 48), (us .u32 64 16), (us .u8 96 32)], ⟨g_Enc_1, 145, [.cond (.v 144) false, .pre 2 (vs 128 16), .pre 1 ((vs 16 16) ++ (vs 64 16)), .pre 0 (vs 80 16), .pre 1 ((vs 32 16) ++ (vs 64 16)), .pre 3 (vs 48 16)], [], [2]⟩⟩, ⟨outs_Enc_1, [3]⟩, 60⟩
theorem r_Enc_1 : runBody Try.prog [T_NBytes, T_FMul, T_Odd, T_Inv] [] Try.f24 p_Enc_1.fuel T_Enc.args T_Enc.mem T_Enc.nin p_Enc_1.orc = some p_Enc_1.out := by kernel_rfl
theorem good_Enc (W : World0 Try.prog) : Good W T_Enc s_Enc := paths (ts := [T_NBytes, T_FMul, T_Odd, T_Inv]) (l := l_Enc) (ps := [p_Enc_0, p_Enc_1]) (by exact ⟨good_NBytes W, good_FMul W, good_Odd W, good_Inv W, trivial⟩) (by kernel_rfl) Try.func24 Try.call24 (by kernel_rfl) (by
  intro p hp
  simp only [List.mem_cons, List.not_mem_nil, or_false] at hp
  rcases hp with rfl | rfl
  · exact ⟨r_Enc_0, by kernel_rfl⟩
  · exact ⟨r_Enc_1, by kernel_rfl⟩
  ) (paths_fp cov_Enc (by kernel_rfl))

def T_feOneP : Tmpl := ⟨79, [], [], 0, 0, true, .one (.lf (.ptr 0 0)), [], [([.int .u64 (.l 1)] ++ (lits .u64 0 4))]⟩
def p_feOneP : Path := ⟨[], [], ⟨.one (.lf (.ptr 0 0)), [([.int .u64 (.l 1)] ++ (lits .u64 0 4))], ⟨g_feOneP, 0, [.pre 0 []], [], [0]⟩⟩, ⟨outs_feOneP, [0]⟩, 60⟩
theorem r_feOneP : runBody Try.prog [T_One] [] Try.f79 p_feOneP.fuel T_feOneP.args T_feOneP.mem T_feOneP.nin p_feOneP.orc = some p_feOneP.out := by kernel_rfl
theorem good_feOneP (W : World0 Try.prog) : Good W T_feOneP s_feOneP := straight (l := l_feOneP) (p := p_feOneP) (by exact ⟨good_One W, trivial⟩) Try.func79 Try.call79 r_feOneP (by kernel_rfl) rfl

def T_dP : Tmpl := ⟨80, [], [], 0, 5, true, .one (.lf (.ptr 0 0)), [], [(us .u64 0 5)]⟩
def p_dP : Path := ⟨[], [], ⟨.one (.lf (.ptr 0 0)), [(us .u64 0 5), [.int .u8 (.l 163), .int .u8 (.l 120), .int .u8 (.l 89), .int .u8 (.l 19), .int .u8 (.l 202), .int .u8 (.l 77), .int .u8 (.l 235), .int .u8 (.l 117), .int .u8 (.l 171), .int .u8 (.l 216), .int .u8 (.l 65), .int .u8 (.l 65), .int .u8 (.l 77), .int .u8 (.l 10), .int .u8 (.l 112), .int .u8 (.l 0), .int .u8 (.l 152), .int .u8 (.l 232), .int .u8 (.l 121), .int .u8 (.l 119), .int .u8 (.l 121), .int .u8 (.l 64), .int .u8 (.l 199), .int .u8 (.l 140), .int .u8 (.l 115), .int .u8 (.l 254), .int .u8 (.l 111), .int .u8 (.l 43), .int .u8 (.l 238), .int .u8 (.l 108), .int .u8 (.l 3), .int .u8 (.l 82)]], ⟨g_dP, 5, [.pre 0 [(.l 163), (.l 120), (.l 89), (.l 19), (.l 202), (.l 77), (.l 235), (.l 117), (.l 171), (.l 216), (.l 65), (.l 65), (.l 77), (.l 10), (.l 112), (.l 0), (.l 152), (.l 232), (.l 121), (.l 119), (.l 121), (.l 64), (.l 199), (.l 140), (.l 115), (.l 254), (.l 111), (.l 43), (.l 238), (.l 108), (.l 3), (.l 82)]], [], [0]⟩⟩, ⟨outs_dP, [0]⟩, 60⟩
theorem r_dP : runBody Try.prog [T_SetBytes] [] Try.f80 p_dP.fuel T_dP.args T_dP.mem T_dP.nin p_dP.orc = some p_dP.out := by kernel_rfl
theorem good_dP (W : World0 Try.prog) : Good W T_dP s_dP := straight (l := l_dP) (p := p_dP) (by exact ⟨good_SetBytes W, trivial⟩) Try.func80 Try.call80 r_dP (by kernel_rfl) rfl

def T_cpEl : Tmpl := ⟨101, [.one (.lf (.ptr 1 0)), .one (.lf (.ptr 0 0))], [(us .u64 0 5), (anys 32)], 5, 32, true, .one (.lf (.slc 1 0 32 (some 32))), [none, some (us .u8 5 32)], []⟩
def p_cpEl : Path := ⟨(bs 5 0 4503599627370458), [], ⟨.one (.lf (.slc 1 0 32 (some 32))), [(us .u64 0 5), (us .u8 5 32), (us .u8 5 32)], ⟨g_cpEl, 37, [.pre 0 (vs 0 5)], [], [1]⟩⟩, ⟨outs_cpEl, []⟩, 60⟩
theorem r_cpEl : runBody Try.prog [T_Bytes] [] Try.f101 p_cpEl.fuel T_cpEl.args T_cpEl.mem T_cpEl.nin p_cpEl.orc = some p_cpEl.out := by kernel_rfl
theorem good_cpEl (W : World0 Try.prog) : Good W T_cpEl s_cpEl := straight (l := l_cpEl) (p := p_cpEl) (by exact ⟨good_Bytes W, trivial⟩) Try.func101 Try.call101 r_cpEl (by kernel_rfl) rfl

def T_errNew : Tmpl := ⟨72, [.one (.lf (.cst (.string ⟨#[101, 100, 119, 97, 114, 100, 115, 50, 53, 53, 49, 57, 58, 32, 105, 110, 118, 97, 108, 105, 100, 32, 112, 111, 105, 110, 116, 32, 101, 110, 99, 111, 100, 105, 110, 103]⟩)))], [], 0, 0, true, .one (.lf (.ifp 117 0 0)), [], [[.cst (.string ⟨#[101, 100, 119, 97, 114, 100, 115, 50, 53, 53, 49, 57, 58, 32, 105, 110, 118, 97, 108, 105, 100, 32, 112, 111, 105, 110, 116, 32, 101, 110, 99, 111, 100, 105, 110, 103]⟩)]]⟩
def p_errNew : Path := ⟨[], [], ⟨.one (.lf (.ifp 117 0 0)), [[.cst (.string ⟨#[101, 100, 119, 97, 114, 100, 115, 50, 53, 53, 49, 57, 58, 32, 105, 110, 118, 97, 108, 105, 100, 32, 112, 111, 105, 110, 116, 32, 101, 110, 99, 111, 100, 105, 110, 103]⟩)]], ⟨g_errNew, 0, [], [], []⟩⟩, ⟨outs_errNew, [0]⟩, 60⟩
theorem r_errNew : runBody Try.prog [] [] Try.f72 p_errNew.fuel T_errNew.args T_errNew.mem T_errNew.nin p_errNew.orc = some p_errNew.out := by kernel_rfl
theorem good_errNew (W : World0 Try.prog) : Good W T_errNew s_errNew := straight (l := l_errNew) (p := p_errNew) (by exact trivial) Try.func72 Try.call72 r_errNew (by kernel_rfl) rfl

end
end Go.X.Y

namespace Go.X
open Go

/-! ### a law: a run whose instructions stand as they are, slices from without and all -/

def rawL (l : List (Nat × Ins)) : List (Nat × CI) := l.map fun p => (p.1, CI.raw p.2)

theorem raw_hold {F : Fns} {ρ : Nat → Int} : ∀ {l : List (Nat × Ins)}, Sat F ρ l → CHold F ρ (rawL l)
  | [], _ => trivial
  | (x, i) :: _, h => ⟨h (x, i) (List.mem_cons_self ..), raw_hold fun y hy => h y (List.mem_cons_of_mem _ hy)⟩

def rawSt (l : List (Nat × Ins)) : List St := (group 1000000 (rawL l)).reverse

def HoldL (pr : Prs) (ρ : Nat → Int) : List Asm → Prop
  | [] => True
  | x :: r => x.holds pr ρ ∧ HoldL pr ρ r

theorem HoldL.hold {pr : Prs} {ρ : Nat → Int} : ∀ {l : List Asm}, HoldL pr ρ l → Hold pr ρ l
  | [], _ => fun x hx => by cases hx
  | y :: r, h => fun x hx => by
    cases hx with
    | head => exact h.1
    | tail _ hx => exact HoldL.hold h.2 x hx

end Go.X

namespace Go.X
open Go

/-! ### functions with a condition of any kind -/

structure SemP where
  f : List Int → List Int
  pre : List Int → Prop

def Sem.toP (s : Sem) : SemP := ⟨s.f, InB s.bi⟩

def GoodP {P : Program} (W : World0 P) (T : Tmpl) (s : SemP) : Prop :=
  ∀ (F : Fns) (pr : Prs) (c : Nat), F c = s.f → pr c = s.pre → TSound P F pr W.gv W.I W.base c T

theorem Good.toP {P : Program} {W : World0 P} {T : Tmpl} {s : Sem} (h : Good W T s) : GoodP W T s.toP := h

def tabFP (gl : Nat → Nat) (l : List SemP) : Fns := fun c => match l[c]? with
  | some t => t.f
  | none => fun _ => [((gl (c - 1000000) : Nat) : Int)]

def tabPP (l : List SemP) : Prs := fun c => match l[c]? with
  | some t => t.pre
  | none => fun _ => False

def GoodPL {P : Program} (W : World0 P) : List Tmpl → List SemP → Prop
  | [], _ => True
  | _ :: _, [] => False
  | t :: r, s :: q => GoodP W t s ∧ GoodPL W r q

theorem GoodPL.get {P : Program} {W : World0 P} : ∀ {l : List Tmpl} {q : List SemP}, GoodPL W l q → ∀ (i : Nat) (t : Tmpl), l[i]? = some t → ∃ s, q[i]? = some s ∧ GoodP W t s
  | [], _, _, i, t, h => by simp at h
  | _ :: _, [], h, _, _, _ => h.elim
  | x :: r, y :: q, h, i, t, ht => by
    cases i with
    | zero => simp at ht; subst ht; exact ⟨y, rfl, h.1⟩
    | succ i => simpa using GoodPL.get h.2 i t (by simpa using ht)

theorem GoodPL.cx {P : Program} {W : World0 P} {l : List Tmpl} {q : List SemP} (h : GoodPL W l q) (hlen : q.length ≤ 1000000) (E : Env) (hE : E.gv = W.gv) : Cx P (tabFP W.gl q) (tabPP q) W.I W.base l E := by
  refine ⟨?_, ?_, W.st, W.mix⟩
  · intro i T hT
    obtain ⟨s, hs, hg⟩ := h.get i T hT
    rw [hE]
    exact hg _ _ i (by simp [tabFP, hs]) (by simp [tabPP, hs])
  · intro k
    obtain ⟨a, cap, e⟩ := W.hg k
    refine ⟨a, W.gl k, cap, by rw [hE, e], ?_⟩
    have hn : q[ghostFn k]? = none := List.getElem?_eq_none (by unfold ghostFn; omega)
    simp only [tabFP, hn]
    simp [ghostFn]

theorem lawP_sound {P : Program} {W : World0 P} {ts : List Tmpl} {l : List SemP} (hl : GoodPL W ts l) (hlen : l.length ≤ 1000000) {T : Tmpl} {s : SemP} {fn : Func}
    (hf : P.funcs[T.f]? = some fn) (hc : ∀ args w, (callFunc T.f args).run P w = .ok (.enter T.f args) w) (hown : ownT T = true) (hpre : T.hasPre = true)
    (hcov : ∀ xs, xs.length = T.nin → s.pre xs → ∃ fuel orc out ft, runBody P ts [] fn fuel T.args T.mem T.nin orc = some out ∧ (fitsB T out ft && wfS T.nin out.g.ssa out.g.n) = true ∧
      ∀ ρ : Nat → Int, (∀ x, x < T.nin → ρ x = xs.getD x 0) → StHold (tabFP W.gl l) ρ (rawSt out.g.ssa) →
        (∀ (j : Nat) (a : A), ft.outs[j]? = some a → (s.f xs).getD j 0 = a.ev ρ) ∧ HoldL (tabPP l) ρ out.g.asm) : GoodP W T s := by
  intro F pr c hF hp
  refine body_sound (ls := []) (F' := tabFP W.gl l) (pr' := tabPP l) hf hc hown (fun E hE => hl.cx hlen E hE) ?_ ?_ ?_
  · intro l hl; cases hl
  · intro _ _ _ _ l hl; cases hl
  · intro xs hlen hx
    have hb : s.pre xs := by rw [hp] at hx; exact hx hpre
    obtain ⟨fuel, orc, out, ft, h1, h2, h3⟩ := hcov xs hlen hb
    simp only [Bool.and_eq_true] at h2
    obtain ⟨hsat, hin, _⟩ := evalS_sat (F := tabFP W.gl l) (ρ0 := fun x => xs.getD x 0) h2.2
    obtain ⟨k1, k2⟩ := h3 _ hin (StHold_rev (group_hold (raw_hold hsat)))
    refine ⟨fuel, orc, out, ft, h1, h2.1, h2.2, ?_, k2.hold⟩
    rw [hF]; exact k1

end Go.X

set_option maxRecDepth 20000
namespace Go.X

/-! ### points, as the program has them -/

def pX (xs : List Int) : Fp := φ (v51 (xs.take 5))
def pY (xs : List Int) : Fp := φ (v51 ((xs.drop 5).take 5))
def pZ (xs : List Int) : Fp := φ (v51 ((xs.drop 10).take 5))
def pT (xs : List Int) : Fp := φ (v51 (xs.drop 15))
def ZZ5 : List Int := [0, 0, 0, 0, 0]

abbrev LB4 : Bd := LB ++ (LB ++ (LB ++ LB))

/-- neither coordinate is all noughts -/
def nz (xs : List Int) : Prop := ¬ (xs.take 5 = ZZ5 ∧ (xs.drop 5).take 5 = ZZ5)

def sp_chk : SemP := ⟨fun _ => [], nz⟩
def sp_byt : SemP := ⟨fun xs => encB (pX xs * inv (pZ xs)) (pY xs * inv (pZ xs)), fun xs => InB LB4 xs ∧ nz xs⟩
theorem pt_parts {v : Nat → Int} {xs : List Int} (h : InB LB4 xs) (hin : seg v 0 20 = xs) :
    (InB LB (seg v 0 5) ∧ φ (v51 (seg v 0 5)) = pX xs) ∧ (InB LB (seg v 5 5) ∧ φ (v51 (seg v 5 5)) = pY xs) ∧ (InB LB (seg v 10 5) ∧ φ (v51 (seg v 10 5)) = pZ xs) ∧ (InB LB (seg v 15 5) ∧ φ (v51 (seg v 15 5)) = pT xs) := by
  obtain ⟨h0, h1⟩ := InB.split (a := LB) (b := LB ++ (LB ++ LB)) h
  obtain ⟨h1, h2⟩ := InB.split (a := LB) (b := LB ++ LB) h1
  obtain ⟨h2, h3⟩ := InB.split (a := LB) (b := LB) h2
  have s0 : seg v 0 5 = xs.take 5 := by rw [← hin, seg_take _ (by decide)]
  have s1 : seg v 5 5 = (xs.drop 5).take 5 := by rw [← hin, seg_drop _ (by decide), seg_take _ (by decide)]
  have s2 : seg v 10 5 = (xs.drop 10).take 5 := by rw [← hin, seg_drop _ (by decide), seg_take _ (by decide)]
  have s3 : seg v 15 5 = xs.drop 15 := by rw [← hin, seg_drop _ (by decide)]
  have e2 : (List.drop (List.length LB) (List.drop (List.length LB) xs)) = xs.drop 10 := by rw [List.drop_drop]; rfl
  have e3 : List.drop (List.length LB) (List.drop (List.length LB) (List.drop (List.length LB) xs)) = xs.drop 15 := by rw [List.drop_drop, List.drop_drop]; rfl
  rw [e2] at h2
  rw [e3] at h3
  rw [s0, s1, s2, s3]
  exact ⟨⟨h0, rfl⟩, ⟨h1, rfl⟩, ⟨h2, rfl⟩, ⟨h3, rfl⟩⟩

def one5 : List Int := [1, 0, 0, 0, 0]
theorem one5_in : InB LB one5 := ⟨by decide, by decide, by decide, by decide, by decide, by decide, by decide, by decide, by decide, by decide, trivial⟩
theorem one5_φ : φ (v51 one5) = 1 := by kernel_rfl

theorem shl7 {t : Int} (h : t = 0 ∨ t = 1) : IntKind.wrap .u8 (op2 .shl .i64 t 7) = 128 * t := by
  rcases h with rfl | rfl <;> kernel_rfl

theorem or_0 {x : Int} (h : 0 ≤ x ∧ x ≤ 255) : op2 .or .u8 x 0 = x := by
  obtain ⟨n, rfl⟩ := Int.eq_ofNat_of_zero_le h.1
  have hn : n < 2 ^ 8 := by omega
  have e1 := (bits_nat .u8 8 (by decide) (fun n a b => wrap_w (k := .u8) n a b) n 0 hn (by decide)).2
  have e : op2 .or .u8 (n : Int) 0 = ((n ||| 0 : Nat) : Int) := e1
  rw [e, Nat.or_zero]

theorem enc_out {x y : Fp} {v : Nat → Int} {t : Int} (h35 : seg v 35 32 = bB y) (h67 : v 67 = if x.val % 2 = 1 then 1 else 0) (h70 : t = op2 .or .u8 (v 66) (IntKind.wrap .u8 (op2 .shl .i64 (v 67) 7))) :
    seg v 35 31 ++ [t] = encB x y := by
  have t1 : seg v 35 31 = (bB y).take 31 := by rw [← h35, seg_take v (by decide)]
  have t2 : v 66 = (bB y).getD 31 0 := by rw [← h35, seg_getD 31 (by decide)]
  have hb := (bB_in y).get 31 (0, 255) rfl
  unfold encB
  by_cases h : x.val % 2 = 1
  · rw [if_pos h] at h67 ⊢
    rw [h70, shl7 (.inr h67), h67, t1, t2]
    rfl
  · rw [if_neg h] at h67 ⊢
    rw [h70, shl7 (.inl h67), h67, t2]
    show seg v 35 31 ++ [op2 .or .u8 ((bB y).getD 31 0) 0] = bB y
    rw [or_0 hb, ← t2, ← h35]
    exact (seg_add v 31 1 35).symm

/-! the point out of bytes -/

def qY (xs : List Int) : List Int := s_SetBytes.f xs
def qY2 (xs : List Int) : List Int := s_feSqG.f (qY xs)
def qU (xs : List Int) : List Int := s_Sub.f (qY2 xs ++ one5)
def qV (xs : List Int) : List Int := s_Add.f (s_feMulG.f (qY2 xs ++ s_dP.f []) ++ one5)
def qR (xs : List Int) : List Int := s_SqrtRatio.f (qU xs ++ qV xs)
def qX (xs : List Int) : List Int := s_Sel.f (s_Neg.f ((qR xs).drop 1) ++ (qR xs).drop 1 ++ [sgB xs])
def qT (xs : List Int) : List Int := s_feMulG.f (qX xs ++ qY xs)

theorem qY_val {xs : List Int} (h : InB (BB 32) xs) : InB LB (qY xs) ∧ φ (v51 (qY xs)) = eF xs := by
  unfold qY
  rw [SetBytes_val xs h]
  exact ⟨el_in _, rfl⟩

theorem g5 (a d e : Fp) : a * a * d + e = d * (a * a) + e := by grind
theorem g6 {x : Fp} : -x * -x = x * x := by grind
theorem g7 {a u b v : Fp} (h1 : a = u * b) (h2 : v * b = 1) : a * v = u := by grind

theorem qUV_val {xs : List Int} (h : InB (BB 32) xs) : (InB LB (qY2 xs)) ∧ (InB LB (qU xs) ∧ φ (v51 (qU xs)) = uF (eF xs)) ∧ (InB LB (s_dP.f []) ∧ InB LB (s_feMulG.f (qY2 xs ++ s_dP.f []))) ∧ (InB LB (qV xs) ∧ φ (v51 (qV xs)) = vF (eF xs)) := by
  obtain ⟨b0, e0⟩ := qY_val h
  obtain ⟨e1, b1⟩ := sqLB b0
  rw [e0] at e1
  obtain ⟨e2, b2⟩ := subLB b1 one5_in
  rw [e1, one5_φ] at e2
  obtain ⟨l, hl, bl, el⟩ := dP_val
  rw [← hl] at bl el
  obtain ⟨e3, b3⟩ := mulLB b1 bl
  rw [e1, el] at e3
  obtain ⟨e4, b4⟩ := addLB b3 one5_in
  rw [e3, one5_φ] at e4
  refine ⟨b1, ⟨b2, e2⟩, ⟨bl, b3⟩, b4, ?_⟩
  have e4 : φ (v51 (qV xs)) = eF xs * eF xs * dF + 1 := e4
  rw [e4]; exact g5 _ _ _

theorem qR_val {xs : List Int} (h : InB (BB 32) xs) : (qR xs).length = 6 ∧ ((qR xs).getD 0 0 = if okF (uF (eF xs)) (vF (eF xs)) then 1 else 0) ∧ InB LB ((qR xs).drop 1) ∧ φ (v51 ((qR xs).drop 1)) = sqF (uF (eF xs)) (vF (eF xs)) := by
  obtain ⟨-, ⟨bu, eu⟩, -, ⟨bv, ev⟩⟩ := qUV_val h
  obtain ⟨t, r, e, ht, ht', hr, hv⟩ := SqrtRatio_val bu bv
  have e : qR xs = t :: r := e
  rw [eu, ev] at ht hv
  rw [e]
  refine ⟨?_, ?_, hr, hv⟩
  · rw [List.length_cons, hr.len]; rfl
  · show t = _
    exact if_one ht ht'

theorem qX_val {xs : List Int} (h : InB (BB 32) xs) : InB LB (qX xs) ∧ φ (v51 (qX xs)) = xF (eF xs) (sgB xs) := by
  obtain ⟨-, -, b, e⟩ := qR_val h
  obtain ⟨e2, b2⟩ := negLB b
  unfold qX xF
  rw [selLB b2 b]
  by_cases hs : sgB xs = 1
  · rw [if_pos hs, if_pos hs]
    exact ⟨b2, by rw [e2, e]⟩
  · rw [if_neg hs, if_neg hs]
    exact ⟨b, e⟩

theorem qT_in {xs : List Int} (h : InB (BB 32) xs) : InB LB (qT xs) ∧ φ (v51 (qT xs)) = xF (eF xs) (sgB xs) * eF xs := by
  obtain ⟨e, b⟩ := mulLB (qX_val h).1 (qY_val h).1
  rw [(qX_val h).2, (qY_val h).2] at e
  exact ⟨b, e⟩

def isPt (xs : List Int) : Prop := okF (uF (eF xs)) (vF (eF xs))

def sp_set : SemP := ⟨fun xs => qX xs ++ qY xs ++ qT xs, fun xs => InB (BB 32) xs ∧ isPt xs⟩
/-- the square of the first coordinate -/
theorem xF_sq {y : Fp} {s : Int} (hv : vF y ≠ 0) (hu : uF y ≠ 0) (h : okF (uF y) (vF y)) : xF y s * xF y s * vF y = uF y := by
  have h1 : sqF (uF y) (vF y) * sqF (uF y) (vF y) = uF y * inv (vF y) := by
    unfold sqF
    rw [absF_sq, sel_sq hu hv, if_pos h]
  have h2 : xF y s * xF y s = uF y * inv (vF y) := by
    unfold xF
    by_cases hs : s = 1
    · rw [if_pos hs, g6, h1]
    · rw [if_neg hs, h1]
  exact g7 h2 (inv_mul hv)

theorem g1 (d a : Fp) : d * (0 * 0) + a = a := by grind
end Go.X

set_option maxRecDepth 20000
namespace Go.X
noncomputable section
abbrev l_pCopy : List Sem := []
def g_pCopy : List (Nat × Ins) := []
def outs_pCopy : List A := []
def s_pCopy : Sem := Sem.st l_pCopy g_pCopy 20 20 outs_pCopy (bs 20 0 4503599627370458) [] (by kernel_rfl)

abbrev l_onCur : List Sem := [s_feMulG, s_feMulG, s_feMulG, s_feSqG, s_feSqG, s_Add, s_Add, s_Sub, s_Sub, s_Equal, s_dP]
def g_onCur_0 : List (Nat × Ins) := (List.flatten [[(61, .op2 .neq .i64 (.v 60) (.l 1)), (60, .app 9 ((vs 40 5) ++ (vs 55 5)) 0)], apps 6 ((vs 50 5) ++ (vs 30 5)) 55 5, apps 0 ((vs 45 5) ++ (vs 35 5)) 50 5, apps 10 [] 45 5, apps 7 ((vs 25 5) ++ (vs 20 5)) 40 5, apps 3 (vs 15 5) 35 5, apps 3 (vs 10 5) 30 5, apps 3 (vs 5 5) 25 5, apps 3 (vs 0 5) 20 5])
def outs_onCur_0 : List A := [(.l 0)]
def q_onCur_0 : FPath := ⟨(bs 20 0 4503599627370458), g_onCur_0, [.cond (.v 61) true, .pre 9 ((vs 40 5) ++ (vs 55 5)), .pre 6 ((vs 50 5) ++ (vs 30 5)), .pre 0 ((vs 45 5) ++ (vs 35 5)), .pre 10 [], .pre 7 ((vs 25 5) ++ (vs 20 5)), .pre 3 (vs 15 5), .pre 3 (vs 10 5), .pre 3 (vs 5 5), .pre 3 (vs 0 5)], outs_onCur_0⟩
def g_onCur_1 : List (Nat × Ins) := (List.flatten [[(73, .op2 .eql .i64 (.v 72) (.l 1)), (72, .app 9 (vs 62 10) 0)], apps 0 ((vs 15 5) ++ (vs 10 5)) 67 5, apps 0 (vs 0 10) 62 5, [(61, .op2 .neq .i64 (.v 60) (.l 1)), (60, .app 9 ((vs 40 5) ++ (vs 55 5)) 0)], apps 6 ((vs 50 5) ++ (vs 30 5)) 55 5, apps 0 ((vs 45 5) ++ (vs 35 5)) 50 5, apps 10 [] 45 5, apps 7 ((vs 25 5) ++ (vs 20 5)) 40 5, apps 3 (vs 15 5) 35 5, apps 3 (vs 10 5) 30 5, apps 3 (vs 5 5) 25 5, apps 3 (vs 0 5) 20 5])
def outs_onCur_1 : List A := [(.v 73)]
def q_onCur_1 : FPath := ⟨(bs 20 0 4503599627370458), g_onCur_1, [.pre 9 (vs 62 10), .pre 0 ((vs 15 5) ++ (vs 10 5)), .pre 0 (vs 0 10), .cond (.v 61) false, .pre 9 ((vs 40 5) ++ (vs 55 5)), .pre 6 ((vs 50 5) ++ (vs 30 5)), .pre 0 ((vs 45 5) ++ (vs 35 5)), .pre 10 [], .pre 7 ((vs 25 5) ++ (vs 20 5)), .pre 3 (vs 15 5), .pre 3 (vs 10 5), .pre 3 (vs 5 5), .pre 3 (vs 0 5)], outs_onCur_1⟩
def q_onCur : List FPath := [q_onCur_0, q_onCur_1]
theorem E_onCur_0 (xs : List Int) (hx : InB (bs 20 0 4503599627370458) xs) : ∃ v : Nat → Int, vals l_onCur g_onCur_0 xs = v ∧ seg v 0 20 = xs ∧ ((seg v 20 5 = gets (s_feSqG.f (seg v 0 5)) 0 5) ∧ (seg v 25 5 = gets (s_feSqG.f (seg v 5 5)) 0 5) ∧ (seg v 30 5 = gets (s_feSqG.f (seg v 10 5)) 0 5) ∧ (seg v 35 5 = gets (s_feSqG.f (seg v 15 5)) 0 5) ∧ (seg v 40 5 = gets (s_Sub.f (seg v 25 5 ++ seg v 20 5)) 0 5) ∧ (seg v 45 5 = gets (s_dP.f ([] : List Int)) 0 5) ∧ (seg v 50 5 = gets (s_feMulG.f (seg v 45 5 ++ seg v 35 5)) 0 5) ∧ (seg v 55 5 = gets (s_Add.f (seg v 50 5 ++ seg v 30 5)) 0 5) ∧ (v 60 = (s_Equal.f (seg v 40 5 ++ seg v 55 5)).getD 0 0) ∧ (v 61 = op2 .neq .i64 (v 60) 1)) ∧ (True) ∧ (CondHold v q_onCur_0.asm = ((v 61 != 0) = true ∧ True)) ∧ outs_onCur_0.map (A.ev v) = ([0]) :=
  Eq.mp (by kernel_rfl) (runQ (q := q_onCur_0.asm) (o := outs_onCur_0) (l := l_onCur) (g := g_onCur_0) (nin := 20) (top := 62) (by kernel_rfl) hx)
theorem E_onCur_1 (xs : List Int) (hx : InB (bs 20 0 4503599627370458) xs) : ∃ v : Nat → Int, vals l_onCur g_onCur_1 xs = v ∧ seg v 0 20 = xs ∧ ((seg v 20 5 = gets (s_feSqG.f (seg v 0 5)) 0 5) ∧ (seg v 25 5 = gets (s_feSqG.f (seg v 5 5)) 0 5) ∧ (seg v 30 5 = gets (s_feSqG.f (seg v 10 5)) 0 5) ∧ (seg v 35 5 = gets (s_feSqG.f (seg v 15 5)) 0 5) ∧ (seg v 40 5 = gets (s_Sub.f (seg v 25 5 ++ seg v 20 5)) 0 5) ∧ (seg v 45 5 = gets (s_dP.f ([] : List Int)) 0 5) ∧ (seg v 50 5 = gets (s_feMulG.f (seg v 45 5 ++ seg v 35 5)) 0 5) ∧ (seg v 55 5 = gets (s_Add.f (seg v 50 5 ++ seg v 30 5)) 0 5) ∧ (v 60 = (s_Equal.f (seg v 40 5 ++ seg v 55 5)).getD 0 0) ∧ (v 61 = op2 .neq .i64 (v 60) 1) ∧ (seg v 62 5 = gets (s_feMulG.f (seg v 0 10)) 0 5) ∧ (seg v 67 5 = gets (s_feMulG.f (seg v 15 5 ++ seg v 10 5)) 0 5) ∧ (v 72 = (s_Equal.f (seg v 62 10)).getD 0 0) ∧ (v 73 = op2 .eql .i64 (v 72) 1)) ∧ (True) ∧ (CondHold v q_onCur_1.asm = ((v 61 != 0) = false ∧ True)) ∧ outs_onCur_1.map (A.ev v) = ([v 73]) :=
  Eq.mp (by kernel_rfl) (runQ (q := q_onCur_1.asm) (o := outs_onCur_1) (l := l_onCur) (g := g_onCur_1) (nin := 20) (top := 74) (by kernel_rfl) hx)

abbrev l_cD : List Sem := []
def g_cD : List (Nat × Ins) := []
def outs_cD : List A := []
def s_cD : Sem := Sem.st l_cD g_cD 16 16 outs_cD (bs 16 0 4294967295) [] (by kernel_rfl)

abbrev l_None : List Sem := [s_Small]
def g_None : List (Nat × Ins) := [(1, .app 0 [(.l 1)] 0),
  (0, .app 0 [(.l 1)] 0)]
def outs_None : List A := [(.v 0), (.v 1)]
def s_None : Sem := Sem.st l_None g_None 0 2 outs_None [] [(0, 4294967295), (0, 4294967295)] (by kernel_rfl)

theorem E_None (xs : List Int) (hx : InB [] xs) : ∃ v : Nat → Int, vals l_None g_None xs = v ∧ seg v 0 0 = xs ∧ ((v 0 = (s_Small.f ([1])).getD 0 0) ∧ (v 1 = (s_Small.f ([1])).getD 0 0)) ∧ (True) ∧ s_None.f xs = ([v 0, v 1]) :=
  Eq.mp (by kernel_rfl) (runE (s := s_None) (o := outs_None) (l := l_None) (g := g_None) (nin := 0) (top := 2) (by kernel_rfl) hx (by kernel_rfl))

abbrev l_Base : List Sem := [s_NBytes, s_Small, s_FMul, s_Inv, s_Dec]
def g_Base : List (Nat × Ins) := (List.flatten [apps 4 ((vs 0 16) ++ (vs 50 32)) 82 34, apps 0 (vs 34 16) 50 32, apps 2 ([(.v 16)] ++ (ls 0 15) ++ (vs 18 16)) 34 16, apps 3 ([(.v 17)] ++ (ls 0 15)) 18 16, [(17, .app 1 [(.l 5)] 0), (16, .app 1 [(.l 4)] 0)]])
def outs_Base : List A := (vs 82 33)
def s_Base : Sem := Sem.st l_Base g_Base 16 116 outs_Base (bs 16 0 4294967295) (bs 33 0 4294967295) (by kernel_rfl)

theorem E_Base (xs : List Int) (hx : InB (bs 16 0 4294967295) xs) : ∃ v : Nat → Int, vals l_Base g_Base xs = v ∧ seg v 0 16 = xs ∧ ((v 16 = (s_Small.f ([4])).getD 0 0) ∧ (v 17 = (s_Small.f ([5])).getD 0 0) ∧ (seg v 18 16 = gets (s_Inv.f ([v 17, 0, 0, 0, 0, 0, 0, 0, 0, 0, 0, 0, 0, 0, 0, 0])) 0 16) ∧ (seg v 34 16 = gets (s_FMul.f ([v 16, 0, 0, 0, 0, 0, 0, 0, 0, 0, 0, 0, 0, 0, 0, 0] ++ seg v 18 16)) 0 16) ∧ (seg v 50 32 = gets (s_NBytes.f (seg v 34 16)) 0 32) ∧ (seg v 82 34 = gets (s_Dec.f (seg v 0 16 ++ seg v 50 32)) 0 34)) ∧ (True) ∧ s_Base.f xs = (seg v 82 33) :=
  Eq.mp (by kernel_rfl) (runE (s := s_Base) (o := outs_Base) (l := l_Base) (g := g_Base) (nin := 16) (top := 116) (by kernel_rfl) hx (by kernel_rfl))

abbrev l_cPlus : List Sem := [s_FAdd, s_FSub, s_FMul]
def g_cPlus : List (Nat × Ins) := (List.flatten [apps 2 (vs 208 32) 400 16, apps 2 (vs 352 32) 384 16, apps 0 (vs 144 32) 368 16, apps 2 ((vs 112 16) ++ (vs 224 16)) 352 16, apps 2 ((vs 320 16) ++ (vs 304 16)) 336 16, apps 2 ((vs 112 16) ++ (vs 208 16)) 320 16, apps 1 ((vs 288 16) ++ (vs 160 16)) 304 16, apps 1 ((vs 272 16) ++ (vs 144 16)) 288 16, apps 2 (vs 240 32) 272 16, apps 0 (vs 64 32) 256 16, apps 0 (vs 16 32) 240 16, apps 0 ((vs 128 16) ++ (vs 192 16)) 224 16, apps 1 ((vs 128 16) ++ (vs 192 16)) 208 16, apps 2 ((vs 0 16) ++ (vs 176 16)) 192 16, apps 2 (vs 144 32) 176 16, apps 2 ((vs 32 16) ++ (vs 80 16)) 160 16, apps 2 ((vs 16 16) ++ (vs 64 16)) 144 16, apps 2 ((vs 112 16) ++ (vs 112 16)) 128 16, apps 2 ((vs 48 16) ++ (vs 96 16)) 112 16])
def outs_cPlus : List A := ((vs 336 16) ++ (vs 384 32))
def s_cPlus : Sem := Sem.st l_cPlus g_cPlus 112 416 outs_cPlus (bs 112 0 4294967295) (bs 48 0 4294967295) (by kernel_rfl)

theorem E_cPlus (xs : List Int) (hx : InB (bs 112 0 4294967295) xs) : ∃ v : Nat → Int, vals l_cPlus g_cPlus xs = v ∧ seg v 0 112 = xs ∧ ((seg v 112 16 = gets (s_FMul.f (seg v 48 16 ++ seg v 96 16)) 0 16) ∧ (seg v 128 16 = gets (s_FMul.f (seg v 112 16 ++ seg v 112 16)) 0 16) ∧ (seg v 144 16 = gets (s_FMul.f (seg v 16 16 ++ seg v 64 16)) 0 16) ∧ (seg v 160 16 = gets (s_FMul.f (seg v 32 16 ++ seg v 80 16)) 0 16) ∧ (seg v 176 16 = gets (s_FMul.f (seg v 144 32)) 0 16) ∧ (seg v 192 16 = gets (s_FMul.f (seg v 0 16 ++ seg v 176 16)) 0 16) ∧ (seg v 208 16 = gets (s_FSub.f (seg v 128 16 ++ seg v 192 16)) 0 16) ∧ (seg v 224 16 = gets (s_FAdd.f (seg v 128 16 ++ seg v 192 16)) 0 16) ∧ (seg v 240 16 = gets (s_FAdd.f (seg v 16 32)) 0 16) ∧ (seg v 256 16 = gets (s_FAdd.f (seg v 64 32)) 0 16) ∧ (seg v 272 16 = gets (s_FMul.f (seg v 240 32)) 0 16) ∧ (seg v 288 16 = gets (s_FSub.f (seg v 272 16 ++ seg v 144 16)) 0 16) ∧ (seg v 304 16 = gets (s_FSub.f (seg v 288 16 ++ seg v 160 16)) 0 16) ∧ (seg v 320 16 = gets (s_FMul.f (seg v 112 16 ++ seg v 208 16)) 0 16) ∧ (seg v 336 16 = gets (s_FMul.f (seg v 320 16 ++ seg v 304 16)) 0 16) ∧ (seg v 352 16 = gets (s_FMul.f (seg v 112 16 ++ seg v 224 16)) 0 16) ∧ (seg v 368 16 = gets (s_FAdd.f (seg v 144 32)) 0 16) ∧ (seg v 384 16 = gets (s_FMul.f (seg v 352 32)) 0 16) ∧ (seg v 400 16 = gets (s_FMul.f (seg v 208 32)) 0 16)) ∧ (True) ∧ s_cPlus.f xs = (seg v 336 16 ++ seg v 384 32) :=
  Eq.mp (by kernel_rfl) (runE (s := s_cPlus) (o := outs_cPlus) (l := l_cPlus) (g := g_cPlus) (nin := 112) (top := 416) (by kernel_rfl) hx (by kernel_rfl))

abbrev l_cSame : List Sem := [s_FMul]
def g_cSame_0 : List (Nat × Ins) := (List.flatten [[(177, .eqs false (vs 145 16) (vs 161 16))], apps 0 ((vs 80 16) ++ (vs 48 16)) 161 16, apps 0 ((vs 32 16) ++ (vs 96 16)) 145 16, [(144, .eqs false (vs 112 16) (vs 128 16))], apps 0 ((vs 64 16) ++ (vs 48 16)) 128 16, apps 0 ((vs 16 16) ++ (vs 96 16)) 112 16])
def outs_cSame_0 : List A := [(.v 177)]
def q_cSame_0 : FPath := ⟨(bs 112 0 4294967295), g_cSame_0, [.pre 0 ((vs 80 16) ++ (vs 48 16)), .pre 0 ((vs 32 16) ++ (vs 96 16)), .cond (.v 144) true, .pre 0 ((vs 64 16) ++ (vs 48 16)), .pre 0 ((vs 16 16) ++ (vs 96 16))], outs_cSame_0⟩
def g_cSame_1 : List (Nat × Ins) := ([(144, .eqs false (vs 112 16) (vs 128 16))] ++ (apps 0 ((vs 64 16) ++ (vs 48 16)) 128 16) ++ (apps 0 ((vs 16 16) ++ (vs 96 16)) 112 16))
def outs_cSame_1 : List A := [(.l 0)]
def q_cSame_1 : FPath := ⟨(bs 112 0 4294967295), g_cSame_1, [.cond (.v 144) false, .pre 0 ((vs 64 16) ++ (vs 48 16)), .pre 0 ((vs 16 16) ++ (vs 96 16))], outs_cSame_1⟩
def q_cSame : List FPath := [q_cSame_0, q_cSame_1]
theorem E_cSame_0 (xs : List Int) (hx : InB (bs 112 0 4294967295) xs) : ∃ v : Nat → Int, vals l_cSame g_cSame_0 xs = v ∧ seg v 0 112 = xs ∧ ((seg v 112 16 = gets (s_FMul.f (seg v 16 16 ++ seg v 96 16)) 0 16) ∧ (seg v 128 16 = gets (s_FMul.f (seg v 64 16 ++ seg v 48 16)) 0 16) ∧ (v 144 = b2i ((seg v 112 16) == (seg v 128 16))) ∧ (seg v 145 16 = gets (s_FMul.f (seg v 32 16 ++ seg v 96 16)) 0 16) ∧ (seg v 161 16 = gets (s_FMul.f (seg v 80 16 ++ seg v 48 16)) 0 16) ∧ (v 177 = b2i ((seg v 145 16) == (seg v 161 16)))) ∧ (True) ∧ (CondHold v q_cSame_0.asm = ((v 144 != 0) = true ∧ True)) ∧ outs_cSame_0.map (A.ev v) = ([v 177]) :=
  Eq.mp (by kernel_rfl) (runQ (q := q_cSame_0.asm) (o := outs_cSame_0) (l := l_cSame) (g := g_cSame_0) (nin := 112) (top := 178) (by kernel_rfl) hx)
theorem E_cSame_1 (xs : List Int) (hx : InB (bs 112 0 4294967295) xs) : ∃ v : Nat → Int, vals l_cSame g_cSame_1 xs = v ∧ seg v 0 112 = xs ∧ ((seg v 112 16 = gets (s_FMul.f (seg v 16 16 ++ seg v 96 16)) 0 16) ∧ (seg v 128 16 = gets (s_FMul.f (seg v 64 16 ++ seg v 48 16)) 0 16) ∧ (v 144 = b2i ((seg v 112 16) == (seg v 128 16)))) ∧ (True) ∧ (CondHold v q_cSame_1.asm = ((v 144 != 0) = false ∧ True)) ∧ outs_cSame_1.map (A.ev v) = ([0]) :=
  Eq.mp (by kernel_rfl) (runQ (q := q_cSame_1.asm) (o := outs_cSame_1) (l := l_cSame) (g := g_cSame_1) (nin := 112) (top := 145) (by kernel_rfl) hx)

end
end Go.X
