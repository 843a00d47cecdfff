/-
  A part of the proof of Ytkjhclknbkleoaa: texts Rp, LP1, LP2, LP3. No conditions.
-/
import Derived.Test.YtkjhclknbkleoaaV15
import Derived.KernelRfl
import Derived.Test.YtkjhclknbkleoaaProg
set_option maxRecDepth 20000
namespace Go.X.Y
open Go.Proofs
noncomputable section
def T_pCopy : Tmpl := ⟨88, [.one (.lf (.ptr 1 0)), .one (.lf (.ptr 0 0))], [(us .u64 0 20), (anys 20)], 20, 0, true, .one (.lf (.ptr 1 0)), [none, some (us .u64 0 20)], []⟩
def p_pCopy : Path := ⟨(bs 20 0 4503599627370458), [], ⟨.one (.lf (.ptr 1 0)), [(us .u64 0 20), (us .u64 0 20)], ⟨g_pCopy, 20, [], [], [1]⟩⟩, ⟨outs_pCopy, []⟩, 60⟩
theorem r_pCopy : runBody Try.prog [] [] Try.f88 p_pCopy.fuel T_pCopy.args T_pCopy.mem T_pCopy.nin p_pCopy.orc = some p_pCopy.out := by kernel_rfl
theorem good_pCopy (W : World0 Try.prog) : Good W T_pCopy s_pCopy := straight (l := l_pCopy) (p := p_pCopy) (by exact trivial) Try.func88 Try.call88 r_pCopy (by kernel_rfl) rfl

def T_onCur : Tmpl := ⟨90, [.one (.lf (.ptr 0 0)), .one (.lf (.ptr 1 0)), .one (.lf (.ptr 2 0)), .one (.lf (.ptr 3 0))], [(us .u64 0 5), (us .u64 5 5), (us .u64 10 5), (us .u64 15 5)], 20, 1, true, .one (.lf (.bool (.v 20))), [none, none, none, none], []⟩
def p_onCur_0 : Path := ⟨(bs 20 0 4503599627370458), [true], ⟨.one (.lf (.bool (.l 0))), [(us .u64 0 5), (us .u64 5 5), (us .u64 10 5), (us .u64 15 5), (us .u64 40 5), (us .u64 55 5), (us .u64 20 5), (us .u64 25 5), (us .u64 30 5), (us .u64 35 5), (us .u64 45 5)], ⟨g_onCur_0, 62, [.cond (.v 61) true, .pre 9 ((vs 40 5) ++ (vs 55 5)), .pre 6 ((vs 50 5) ++ (vs 30 5)), .pre 0 ((vs 45 5) ++ (vs 35 5)), .pre 10 [], .pre 7 ((vs 25 5) ++ (vs 20 5)), .pre 3 (vs 15 5), .pre 3 (vs 10 5), .pre 3 (vs 5 5), .pre 3 (vs 0 5)], [], [5, 5, 4, 9, 8, 7, 6]⟩⟩, ⟨outs_onCur_0, []⟩, 60⟩
theorem r_onCur_0 : runBody Try.prog [T_Mul, T_Mulx, T_Muly, T_Sq, T_Sqx, T_Add, T_Addx, T_Sub, T_Subx, T_Equal, T_dP] [] Try.f90 p_onCur_0.fuel T_onCur.args T_onCur.mem T_onCur.nin p_onCur_0.orc = some p_onCur_0.out := by kernel_rfl
def p_onCur_1 : Path := ⟨(bs 20 0 4503599627370458), [false], ⟨.one (.lf (.bool (.v 73))), [(us .u64 0 5), (us .u64 5 5), (us .u64 10 5), (us .u64 15 5), (us .u64 62 5), (us .u64 67 5), (us .u64 20 5), (us .u64 25 5), (us .u64 30 5), (us .u64 35 5), (us .u64 45 5)], ⟨g_onCur_1, 74, [.pre 9 (vs 62 10), .pre 0 ((vs 15 5) ++ (vs 10 5)), .pre 0 (vs 0 10), .cond (.v 61) false, .pre 9 ((vs 40 5) ++ (vs 55 5)), .pre 6 ((vs 50 5) ++ (vs 30 5)), .pre 0 ((vs 45 5) ++ (vs 35 5)), .pre 10 [], .pre 7 ((vs 25 5) ++ (vs 20 5)), .pre 3 (vs 15 5), .pre 3 (vs 10 5), .pre 3 (vs 5 5), .pre 3 (vs 0 5)], [], [5, 4, 5, 5, 4, 9, 8, 7, 6]⟩⟩, ⟨outs_onCur_1, []⟩, 60⟩
theorem r_onCur_1 : runBody Try.prog [T_Mul, T_Mulx, T_Muly, T_Sq, T_Sqx, T_Add, T_Addx, T_Sub, T_Subx, T_Equal, T_dP] [] Try.f90 p_onCur_1.fuel T_onCur.args T_onCur.mem T_onCur.nin p_onCur_1.orc = some p_onCur_1.out := by kernel_rfl
theorem good_onCur (W : World0 Try.prog) : Good W T_onCur s_onCur := paths (ts := [T_Mul, T_Mulx, T_Muly, T_Sq, T_Sqx, T_Add, T_Addx, T_Sub, T_Subx, T_Equal, T_dP]) (l := l_onCur) (ps := [p_onCur_0, p_onCur_1]) (by exact ⟨good_Mul W, good_Mulx W, good_Muly W, good_Sq W, good_Sqx W, good_Add W, good_Addx W, good_Sub W, good_Subx W, good_Equal W, good_dP W, trivial⟩) (by kernel_rfl) Try.func90 Try.call90 (by kernel_rfl) (by
  intro p hp
  simp only [List.mem_cons, List.not_mem_nil, or_false] at hp
  rcases hp with rfl | rfl
  · exact ⟨r_onCur_0, by kernel_rfl⟩
  · exact ⟨r_onCur_1, by kernel_rfl⟩
  ) (paths_fp cov_onCur (by kernel_rfl))

def T_cD : Tmpl := ⟨29, [.one (.agg (us .u32 0 16))], [], 16, 0, true, .one (.agg (us .u32 0 16)), [], []⟩
def p_cD : Path := ⟨(bs 16 0 4294967295), [], ⟨.one (.agg (us .u32 0 16)), [(us .u32 0 16), (us .u32 0 16)], ⟨g_cD, 16, [], [], [1]⟩⟩, ⟨outs_cD, []⟩, 60⟩
theorem r_cD : runBody Try.prog [] [] Try.f29 p_cD.fuel T_cD.args T_cD.mem T_cD.nin p_cD.orc = some p_cD.out := by kernel_rfl
theorem good_cD (W : World0 Try.prog) : Good W T_cD s_cD := straight (l := l_cD) (p := p_cD) (by exact trivial) Try.func29 Try.call29 r_cD (by kernel_rfl) rfl

def T_None : Tmpl := ⟨85, [], [], 0, 2, true, .one (.agg (List.flatten [lits .u32 0 16, [.int .u32 (.v 0)], lits .u32 0 15, [.int .u32 (.v 1)], lits .u32 0 15])), [], []⟩
def p_None : Path := ⟨[], [], ⟨.one (.agg (List.flatten [lits .u32 0 16, [.int .u32 (.v 0)], lits .u32 0 15, [.int .u32 (.v 1)], lits .u32 0 15])), [(List.flatten [lits .u32 0 16, [.int .u32 (.v 0)], lits .u32 0 15, [.int .u32 (.v 1)], lits .u32 0 15])], ⟨g_None, 2, [.pre 0 [(.l 1)], .pre 0 [(.l 1)]], [], [0]⟩⟩, ⟨outs_None, []⟩, 60⟩
theorem r_None : runBody Try.prog [T_Small] [] Try.f85 p_None.fuel T_None.args T_None.mem T_None.nin p_None.orc = some p_None.out := by kernel_rfl
theorem good_None (W : World0 Try.prog) : Good W T_None s_None := straight (l := l_None) (p := p_None) (by exact ⟨good_Small W, trivial⟩) Try.func85 Try.call85 r_None (by kernel_rfl) rfl

def T_Base : Tmpl := ⟨61, [.one (.agg (us .u32 0 16))], [], 16, 33, true, .one (.agg ((us .u32 16 33) ++ (lits .u32 0 15))), [], []⟩
def p_Base : Path := ⟨(bs 16 0 4294967295), [], ⟨.one (.agg ((us .u32 82 33) ++ (lits .u32 0 15))), [(us .u32 0 16), ((us .u32 82 33) ++ (lits .u32 0 15)), (us .u8 50 32), ((us .u32 82 33) ++ (lits .u32 0 15))], ⟨g_Base, 116, [.pre 4 ((vs 0 16) ++ (vs 50 32)), .pre 0 (vs 34 16), .pre 2 ([(.v 16)] ++ (ls 0 15) ++ (vs 18 16)), .pre 3 ([(.v 17)] ++ (ls 0 15)), .pre 1 [(.l 5)], .pre 1 [(.l 4)]], [], [1, 3]⟩⟩, ⟨outs_Base, []⟩, 60⟩
theorem r_Base : runBody Try.prog [T_NBytes, T_Small, T_FMul, T_Inv, T_Dec] [] Try.f61 p_Base.fuel T_Base.args T_Base.mem T_Base.nin p_Base.orc = some p_Base.out := by kernel_rfl
theorem good_Base (W : World0 Try.prog) : Good W T_Base s_Base := straight (l := l_Base) (p := p_Base) (by exact ⟨good_NBytes W, good_Small W, good_FMul W, good_Inv W, good_Dec W, trivial⟩) Try.func61 Try.call61 r_Base (by kernel_rfl) rfl

def T_cPlus : Tmpl := ⟨86, [.one (.agg (us .u32 0 16)), .one (.agg (us .u32 16 48)), .one (.agg (us .u32 64 48))], [], 112, 48, true, .one (.agg (us .u32 112 48)), [], []⟩
def p_cPlus : Path := ⟨(bs 112 0 4294967295), [], ⟨.one (.agg ((us .u32 336 16) ++ (us .u32 384 32))), [(us .u32 0 16), (us .u32 16 48), (us .u32 64 48), ((us .u32 336 16) ++ (us .u32 384 32)), (us .u32 112 16), (us .u32 128 16), (us .u32 144 16), (us .u32 160 16), (us .u32 192 16), (us .u32 208 16), (us .u32 224 16), (us .u32 304 16)], ⟨g_cPlus, 416, [.pre 2 (vs 208 32), .pre 2 (vs 352 32), .pre 0 (vs 144 32), .pre 2 ((vs 112 16) ++ (vs 224 16)), .pre 2 ((vs 320 16) ++ (vs 304 16)), .pre 2 ((vs 112 16) ++ (vs 208 16)), .pre 1 ((vs 288 16) ++ (vs 160 16)), .pre 1 ((vs 272 16) ++ (vs 144 16)), .pre 2 (vs 240 32), .pre 0 (vs 64 32), .pre 0 (vs 16 32), .pre 0 ((vs 128 16) ++ (vs 192 16)), .pre 1 ((vs 128 16) ++ (vs 192 16)), .pre 2 ((vs 0 16) ++ (vs 176 16)), .pre 2 (vs 144 32), .pre 2 ((vs 32 16) ++ (vs 80 16)), .pre 2 ((vs 16 16) ++ (vs 64 16)), .pre 2 ((vs 112 16) ++ (vs 112 16)), .pre 2 ((vs 48 16) ++ (vs 96 16))], [], [3, 11, 10, 9, 8, 7, 6, 5, 4]⟩⟩, ⟨outs_cPlus, []⟩, 60⟩
theorem r_cPlus : runBody Try.prog [T_FAdd, T_FSub, T_FMul] [] Try.f86 p_cPlus.fuel T_cPlus.args T_cPlus.mem T_cPlus.nin p_cPlus.orc = some p_cPlus.out := by kernel_rfl
theorem good_cPlus (W : World0 Try.prog) : Good W T_cPlus s_cPlus := straight (l := l_cPlus) (p := p_cPlus) (by exact ⟨good_FAdd W, good_FSub W, good_FMul W, trivial⟩) Try.func86 Try.call86 r_cPlus (by kernel_rfl) rfl

def T_cSame : Tmpl := ⟨28, [.one (.agg (us .u32 0 16)), .one (.agg (us .u32 16 48)), .one (.agg (us .u32 64 48))], [], 112, 1, true, .one (.lf (.bool (.v 112))), [], []⟩
def p_cSame_0 : Path := ⟨(bs 112 0 4294967295), [true], ⟨.one (.lf (.bool (.v 177))), [(us .u32 0 16), (us .u32 16 48), (us .u32 64 48)], ⟨g_cSame_0, 178, [.pre 0 ((vs 80 16) ++ (vs 48 16)), .pre 0 ((vs 32 16) ++ (vs 96 16)), .cond (.v 144) true, .pre 0 ((vs 64 16) ++ (vs 48 16)), .pre 0 ((vs 16 16) ++ (vs 96 16))], [], []⟩⟩, ⟨outs_cSame_0, []⟩, 60⟩
theorem r_cSame_0 : runBody Try.prog [T_FMul] [] Try.f28 p_cSame_0.fuel T_cSame.args T_cSame.mem T_cSame.nin p_cSame_0.orc = some p_cSame_0.out := by kernel_rfl
def p_cSame_1 : Path := ⟨(bs 112 0 4294967295), [false], ⟨.one (.lf (.bool (.l 0))), [(us .u32 0 16), (us .u32 16 48), (us .u32 64 48)], ⟨g_cSame_1, 145, [.cond (.v 144) false, .pre 0 ((vs 64 16) ++ (vs 48 16)), .pre 0 ((vs 16 16) ++ (vs 96 16))], [], []⟩⟩, ⟨outs_cSame_1, []⟩, 60⟩
theorem r_cSame_1 : runBody Try.prog [T_FMul] [] Try.f28 p_cSame_1.fuel T_cSame.args T_cSame.mem T_cSame.nin p_cSame_1.orc = some p_cSame_1.out := by kernel_rfl
theorem good_cSame (W : World0 Try.prog) : Good W T_cSame s_cSame := paths (ts := [T_FMul]) (l := l_cSame) (ps := [p_cSame_0, p_cSame_1]) (by exact ⟨good_FMul W, trivial⟩) (by kernel_rfl) Try.func28 Try.call28 (by kernel_rfl) (by
  intro p hp
  simp only [List.mem_cons, List.not_mem_nil, or_false] at hp
  rcases hp with rfl | rfl
  · exact ⟨r_cSame_0, by kernel_rfl⟩
  · exact ⟨r_cSame_1, by kernel_rfl⟩
  ) (paths_fp cov_cSame (by kernel_rfl))

def T_cTimes : Tmpl := ⟨60, [.one (.agg (us .u32 0 16)), .one (.agg (us .u32 16 16)), .one (.agg (us .u32 32 48))], [], 80, 48, true, .one (.agg (us .u32 80 48)), [], []⟩
def L_cTimes : LoopC := ⟨0, 27, 129, 80, 48, [(3, .one (.lf (.ptr 0 0))), (4, .one (.lf (.ptr 1 0))), (5, .one (.lf (.ptr 2 0))), (6, .one (.lf (.ptr 3 0))), (7, .one (.lf (.ptr 4 0))), (8, .one (.lf (.int .i64 (.v 80)))), (0, .one (.lf (.any))), (1, .one (.lf (.any))), (2, .one (.lf (.any))), (9, .one (.lf (.any))), (10, .one (.lf (.any))), (11, .one (.lf (.any))), (12, .one (.lf (.any))), (13, .one (.lf (.any))), (14, .one (.lf (.any))), (15, .one (.lf (.any))), (16, .one (.lf (.any))), (17, .one (.lf (.any))), (18, .one (.lf (.any))), (19, .one (.lf (.any))), (20, .one (.lf (.any))), (21, .one (.lf (.any))), (22, .one (.lf (.any))), (23, .one (.lf (.any))), (24, .one (.lf (.any))), (25, .one (.lf (.any))), (26, .one (.lf (.any)))], [(us .u32 0 16), (us .u32 16 16), (us .u32 32 48), (lits .u32 0 48), (us .u32 81 48)], [(6, .one (.lf (.ptr 3 0))), (7, .one (.lf (.ptr 4 0))), (0, .one (.lf (.any))), (1, .one (.lf (.any))), (2, .one (.lf (.any))), (3, .one (.lf (.any))), (4, .one (.lf (.any))), (5, .one (.lf (.any))), (8, .one (.lf (.any))), (9, .one (.lf (.any))), (10, .one (.lf (.any))), (11, .one (.lf (.any))), (12, .one (.lf (.any))), (13, .one (.lf (.any))), (14, .one (.lf (.any))), (15, .one (.lf (.any))), (16, .one (.lf (.any))), (17, .one (.lf (.any))), (18, .one (.lf (.any))), (19, .one (.lf (.any))), (20, .one (.lf (.any))), (21, .one (.lf (.any))), (22, .one (.lf (.any))), (23, .one (.lf (.any))), (24, .one (.lf (.any))), (25, .one (.lf (.any))), (26, .one (.lf (.any)))], [(us .u32 0 16), (us .u32 16 16), (us .u32 32 48), (lits .u32 0 48), (us .u32 80 48)], [0, 1, 2, 3, 4], 3⟩
def lp_cTimes_0 : LPath := ⟨((bs 80 0 4294967295) ++ [((-1), (-1))] ++ (bs 48 0 4294967295)), [false], 60, [(11, .one (.lf (.bool (.l 0)))), (11, .one (.lf (.bool (.v 129)))), (10, .one (.lf (.int .i64 (.v 80)))), (3, .one (.lf (.ptr 0 0))), (4, .one (.lf (.ptr 1 0))), (5, .one (.lf (.ptr 2 0))), (6, .one (.lf (.ptr 3 0))), (7, .one (.lf (.ptr 4 0))), (8, .one (.lf (.int .i64 (.v 80)))), (0, .one (.lf (.any))), (1, .one (.lf (.any))), (2, .one (.lf (.any))), (9, .one (.lf (.any))), (10, .one (.lf (.any))), (11, .one (.lf (.any))), (12, .one (.lf (.any))), (13, .one (.lf (.any))), (14, .one (.lf (.any))), (15, .one (.lf (.any))), (16, .one (.lf (.any))), (17, .one (.lf (.any))), (18, .one (.lf (.any))), (19, .one (.lf (.any))), (20, .one (.lf (.any))), (21, .one (.lf (.any))), (22, .one (.lf (.any))), (23, .one (.lf (.any))), (24, .one (.lf (.any))), (25, .one (.lf (.any))), (26, .one (.lf (.any)))], [(us .u32 0 16), (us .u32 16 16), (us .u32 32 48), (lits .u32 0 48), (us .u32 81 48)], ⟨g_timl_0, 130, [.cond (.v 129) false], [], [0, 1, 2, 3, 4]⟩, true, outs_timl_0⟩
theorem lr_cTimes_0 : runCode Try.prog [T_Bit, T_None, T_cPlus] [] L_cTimes.nt lp_cTimes_0.fuel (loopBody Try.f60 L_cTimes.id) L_cTimes.Tp L_cTimes.Mp ⟨[], L_cTimes.nin, [], lp_cTimes_0.orc, L_cTimes.wr⟩ = some (lEx L_cTimes.id lp_cTimes_0.stop, lp_cTimes_0.T, lp_cTimes_0.M, lp_cTimes_0.g) := by kernel_rfl
def lp_cTimes_1 : LPath := ⟨((bs 80 0 4294967295) ++ [(0, 255)] ++ (bs 48 0 4294967295)), [true, true], 60, [(8, .one (.lf (.int .i64 (.v 228)))), (13, .one (.lf (.int .i64 (.v 228)))), (12, .one (.lf (.int .i64 (.v 80)))), (25, .one (.agg (us .u32 180 48))), (24, .one (.agg (us .u32 32 48))), (23, .one (.agg (us .u32 130 48))), (22, .one (.agg (us .u32 0 16))), (21, .one (.lf (.bool (.l 1)))), (21, .one (.lf (.bool (.v 179)))), (20, .one (.lf (.int .i64 (.v 178)))), (19, .one (.lf (.int .i64 (.v 80)))), (18, .one (.agg (us .u32 16 16))), (17, .one (.agg (us .u32 130 48))), (16, .one (.agg (us .u32 81 48))), (15, .one (.agg (us .u32 81 48))), (14, .one (.agg (us .u32 0 16))), (11, .one (.lf (.bool (.l 1)))), (11, .one (.lf (.bool (.v 129)))), (10, .one (.lf (.int .i64 (.v 80)))), (3, .one (.lf (.ptr 0 0))), (4, .one (.lf (.ptr 1 0))), (5, .one (.lf (.ptr 2 0))), (6, .one (.lf (.ptr 3 0))), (7, .one (.lf (.ptr 4 0))), (8, .one (.lf (.int .i64 (.v 80)))), (0, .one (.lf (.any))), (1, .one (.lf (.any))), (2, .one (.lf (.any))), (9, .one (.lf (.any))), (10, .one (.lf (.any))), (11, .one (.lf (.any))), (12, .one (.lf (.any))), (13, .one (.lf (.any))), (14, .one (.lf (.any))), (15, .one (.lf (.any))), (16, .one (.lf (.any))), (17, .one (.lf (.any))), (18, .one (.lf (.any))), (19, .one (.lf (.any))), (20, .one (.lf (.any))), (21, .one (.lf (.any))), (22, .one (.lf (.any))), (23, .one (.lf (.any))), (24, .one (.lf (.any))), (25, .one (.lf (.any))), (26, .one (.lf (.any)))], [(us .u32 0 16), (us .u32 16 16), (us .u32 32 48), (lits .u32 0 48), (us .u32 180 48)], ⟨g_timl_1, 229, [.pre 2 ((vs 0 16) ++ (vs 130 48) ++ (vs 32 48)), .cond (.v 179) true, .pre 0 ((vs 16 16) ++ [(.v 80)]), .pre 2 ((vs 0 16) ++ (vs 81 48) ++ (vs 81 48)), .cond (.v 129) true], [], [4, 4, 0, 1, 2, 3, 4]⟩, false, outs_timl_1⟩
theorem lr_cTimes_1 : runCode Try.prog [T_Bit, T_None, T_cPlus] [] L_cTimes.nt lp_cTimes_1.fuel (loopBody Try.f60 L_cTimes.id) L_cTimes.Tp L_cTimes.Mp ⟨[], L_cTimes.nin, [], lp_cTimes_1.orc, L_cTimes.wr⟩ = some (lEx L_cTimes.id lp_cTimes_1.stop, lp_cTimes_1.T, lp_cTimes_1.M, lp_cTimes_1.g) := by kernel_rfl
def lp_cTimes_2 : LPath := ⟨((bs 80 0 4294967295) ++ [(0, 255)] ++ (bs 48 0 4294967295)), [true, false], 60, [(8, .one (.lf (.int .i64 (.v 180)))), (13, .one (.lf (.int .i64 (.v 180)))), (12, .one (.lf (.int .i64 (.v 80)))), (21, .one (.lf (.bool (.l 0)))), (21, .one (.lf (.bool (.v 179)))), (20, .one (.lf (.int .i64 (.v 178)))), (19, .one (.lf (.int .i64 (.v 80)))), (18, .one (.agg (us .u32 16 16))), (17, .one (.agg (us .u32 130 48))), (16, .one (.agg (us .u32 81 48))), (15, .one (.agg (us .u32 81 48))), (14, .one (.agg (us .u32 0 16))), (11, .one (.lf (.bool (.l 1)))), (11, .one (.lf (.bool (.v 129)))), (10, .one (.lf (.int .i64 (.v 80)))), (3, .one (.lf (.ptr 0 0))), (4, .one (.lf (.ptr 1 0))), (5, .one (.lf (.ptr 2 0))), (6, .one (.lf (.ptr 3 0))), (7, .one (.lf (.ptr 4 0))), (8, .one (.lf (.int .i64 (.v 80)))), (0, .one (.lf (.any))), (1, .one (.lf (.any))), (2, .one (.lf (.any))), (9, .one (.lf (.any))), (10, .one (.lf (.any))), (11, .one (.lf (.any))), (12, .one (.lf (.any))), (13, .one (.lf (.any))), (14, .one (.lf (.any))), (15, .one (.lf (.any))), (16, .one (.lf (.any))), (17, .one (.lf (.any))), (18, .one (.lf (.any))), (19, .one (.lf (.any))), (20, .one (.lf (.any))), (21, .one (.lf (.any))), (22, .one (.lf (.any))), (23, .one (.lf (.any))), (24, .one (.lf (.any))), (25, .one (.lf (.any))), (26, .one (.lf (.any)))], [(us .u32 0 16), (us .u32 16 16), (us .u32 32 48), (lits .u32 0 48), (us .u32 130 48)], ⟨g_timl_2, 181, [.cond (.v 179) false, .pre 0 ((vs 16 16) ++ [(.v 80)]), .pre 2 ((vs 0 16) ++ (vs 81 48) ++ (vs 81 48)), .cond (.v 129) true], [], [4, 0, 1, 2, 3, 4]⟩, false, outs_timl_2⟩
theorem lr_cTimes_2 : runCode Try.prog [T_Bit, T_None, T_cPlus] [] L_cTimes.nt lp_cTimes_2.fuel (loopBody Try.f60 L_cTimes.id) L_cTimes.Tp L_cTimes.Mp ⟨[], L_cTimes.nin, [], lp_cTimes_2.orc, L_cTimes.wr⟩ = some (lEx L_cTimes.id lp_cTimes_2.stop, lp_cTimes_2.T, lp_cTimes_2.M, lp_cTimes_2.g) := by kernel_rfl
def p_cTimes : Path := ⟨(bs 80 0 4294967295), [], ⟨.one (.agg (us .u32 82 48)), [(us .u32 0 16), (us .u32 16 16), (us .u32 32 48), (us .u32 82 48), (us .u32 82 48)], ⟨g_cTimes, 130, [.pre 3 (List.flatten [vs 0 80, [(.l 255)], ls 0 16, [(.v 80)], ls 0 15, [(.v 81)], ls 0 15]), .pre 1 []], [], [3, 0, 1, 2, 3, 4, 4]⟩⟩, ⟨outs_cTimes, []⟩, 60⟩
theorem r_cTimes : runBody Try.prog [T_Bit, T_None, T_cPlus] [⟨0, loopT L_cTimes⟩] Try.f60 p_cTimes.fuel T_cTimes.args T_cTimes.mem T_cTimes.nin p_cTimes.orc = some p_cTimes.out := by kernel_rfl
theorem good_cTimes (W : World0 Try.prog) : Good W T_cTimes s_cTimes := straightL (l := l_cTimes) (p := p_cTimes) (L := L_cTimes) (sL := s_timl) (lps := [lp_cTimes_0, lp_cTimes_1, lp_cTimes_2]) (by exact ⟨good_Bit W, good_None W, good_cPlus W, trivial⟩) Try.func60 Try.call60 r_cTimes (by kernel_rfl) (by
  intro p hp
  simp only [List.mem_cons, List.not_mem_nil, or_false] at hp
  rcases hp with rfl | rfl | rfl
  · exact ⟨lr_cTimes_0, by kernel_rfl⟩
  · exact ⟨lr_cTimes_1, by kernel_rfl⟩
  · exact ⟨lr_cTimes_2, by kernel_rfl⟩
  ) (by kernel_rfl) lcov_timl rfl

end
end Go.X.Y

set_option maxRecDepth 20000
namespace Go.X.Y
open Go.Proofs
def T_chk : Tmpl := ⟨100, [.one (.lf (.slc 0 0 1 none))], [[.ptr 1 0], (us .u64 0 20)], 20, 0, true, .tup [], [none, none], []⟩
def g_chk_0 : List (Nat × Ins) := [(20, .eqs false (vs 0 5) (ls 0 5))]
def p_chk_0 : Out := ⟨.tup [], [[.ptr 1 0], (us .u64 0 20)], ⟨g_chk_0, 21, [.cond (.v 20) false], [], []⟩⟩
theorem r_chk_0 : runBody Try.prog [] [] Try.f100 60 T_chk.args T_chk.mem T_chk.nin [false] = some p_chk_0 := by kernel_rfl
def ft_chk_0 : Fit := ⟨[], []⟩
theorem w_chk_0 : (fitsB T_chk p_chk_0 ft_chk_0 && wfS T_chk.nin p_chk_0.g.ssa p_chk_0.g.n) = true := by kernel_rfl
theorem E_chk_0 {F : Fns} {v : Nat → Int} (h : StHold F v (rawSt p_chk_0.g.ssa)) : (v 20 = b2i ((seg v 0 5) == ([0, 0, 0, 0, 0]))) := Eq.mp (by kernel_rfl) h
theorem A_chk_0 {pr : Prs} {v : Nat → Int} (h : ((v 20 != 0) = false) ∧ True) : HoldL pr v p_chk_0.g.asm := Eq.mp (by kernel_rfl) h

def g_chk_1 : List (Nat × Ins) := [(21, .eqs false (vs 5 5) (ls 0 5)),
  (20, .eqs false (vs 0 5) (ls 0 5))]
def p_chk_1 : Out := ⟨.tup [], [[.ptr 1 0], (us .u64 0 20)], ⟨g_chk_1, 22, [.cond (.v 21) false, .cond (.v 20) true], [], []⟩⟩
theorem r_chk_1 : runBody Try.prog [] [] Try.f100 60 T_chk.args T_chk.mem T_chk.nin [true, false] = some p_chk_1 := by kernel_rfl
def ft_chk_1 : Fit := ⟨[], []⟩
theorem w_chk_1 : (fitsB T_chk p_chk_1 ft_chk_1 && wfS T_chk.nin p_chk_1.g.ssa p_chk_1.g.n) = true := by kernel_rfl
theorem E_chk_1 {F : Fns} {v : Nat → Int} (h : StHold F v (rawSt p_chk_1.g.ssa)) : (v 20 = b2i ((seg v 0 5) == ([0, 0, 0, 0, 0]))) ∧ (v 21 = b2i ((seg v 5 5) == ([0, 0, 0, 0, 0]))) := Eq.mp (by kernel_rfl) h
theorem A_chk_1 {pr : Prs} {v : Nat → Int} (h : ((v 21 != 0) = false) ∧ ((v 20 != 0) = true) ∧ True) : HoldL pr v p_chk_1.g.asm := Eq.mp (by kernel_rfl) h

def T_pSet : Tmpl := ⟨57, [.one (.lf (.ptr 1 0)), .one (.lf (.slc 0 0 32 none))], [(us .u8 0 32), (anys 20)], 32, 15, true, .tup [.lf (.ptr 1 0), .lf (.cst .nilIface)], [none, some ((us .u64 32 10) ++ ([.int .u64 (.l 1)] ++ (lits .u64 0 4)) ++ (us .u64 42 5))], []⟩
def g_pSet_0 : List (Nat × Ins) := (List.flatten [apps 0 ((vs 76 5) ++ (vs 32 5)) 81 5, apps 13 ((vs 69 5) ++ (vs 63 5) ++ [(.v 75)]) 76 5, [(75, .conv .i64 (.v 74)), (74, .op2 .shr .u8 (.v 31) (.l 7))], apps 9 (vs 63 5) 69 5, [(68, .op2 .eql .i64 (.v 62) (.l 0))], apps 15 ((vs 42 5) ++ (vs 57 5)) 62 6, apps 6 ((vs 52 5) ++ [(.l 1)] ++ (ls 0 4)) 57 5, apps 0 ((vs 37 5) ++ (vs 47 5)) 52 5, apps 17 [] 47 5, apps 7 ((vs 37 5) ++ [(.l 1)] ++ (ls 0 4)) 42 5, apps 3 (vs 32 5) 37 5, apps 14 (vs 0 32) 32 5])
def p_pSet_0 : Out := ⟨.tup [.lf (.ptr 1 0), .lf (.cst .nilIface)], [(us .u8 0 32), (List.flatten [us .u64 76 5, us .u64 32 5, ([.int .u64 (.l 1)] ++ (lits .u64 0 4)), us .u64 81 5]), (us .u64 32 5), (us .u64 37 5), (us .u64 42 5), ([.int .u64 (.l 1)] ++ (lits .u64 0 4)), (us .u64 57 5), (us .u64 47 5), ([.int .u64 (.l 1)] ++ (lits .u64 0 4)), (us .u64 76 5), (us .u64 69 5)], ⟨g_pSet_0, 86, [.pre 0 ((vs 76 5) ++ (vs 32 5)), .pre 10 [], .pre 11 (vs 32 5), .pre 11 (vs 76 5), .pre 13 ((vs 69 5) ++ (vs 63 5) ++ [(.v 75)]), .pre 9 (vs 63 5), .cond (.v 68) false, .pre 15 ((vs 42 5) ++ (vs 57 5)), .pre 6 ((vs 52 5) ++ [(.l 1)] ++ (ls 0 4)), .pre 16 [], .pre 0 ((vs 37 5) ++ (vs 47 5)), .pre 17 [], .pre 7 ((vs 37 5) ++ [(.l 1)] ++ (ls 0 4)), .pre 16 [], .pre 3 (vs 32 5), .pre 14 (vs 0 32)], [], [1, 1, 1, 1, 9, 10, 9, 6, 6, 4, 3, 2]⟩⟩
theorem r_pSet_0 : runBody Try.prog [T_Mul, T_Mulx, T_Muly, T_Sq, T_Sqx, T_Add, T_Addx, T_Sub, T_Subx, T_Neg, T_One, T_Set, T_Sel, T_Sely, T_SetBytes, T_SqrtRatio, T_feOneP, T_dP, T_errNew] [] Try.f57 60 T_pSet.args T_pSet.mem T_pSet.nin [false] = some p_pSet_0 := by kernel_rfl
def ft_pSet_0 : Fit := ⟨((vs 76 5) ++ (vs 32 5) ++ (vs 81 5)), []⟩
theorem w_pSet_0 : (fitsB T_pSet p_pSet_0 ft_pSet_0 && wfS T_pSet.nin p_pSet_0.g.ssa p_pSet_0.g.n) = true := by kernel_rfl
theorem E_pSet_0 {F : Fns} {v : Nat → Int} (h : StHold F v (rawSt p_pSet_0.g.ssa)) : (seg v 32 5 = gets (F 14 (seg v 0 32)) 0 5) ∧ (seg v 37 5 = gets (F 3 (seg v 32 5)) 0 5) ∧ (seg v 42 5 = gets (F 7 (seg v 37 5 ++ [1, 0, 0, 0, 0])) 0 5) ∧ (seg v 47 5 = gets (F 17 ([] : List Int)) 0 5) ∧ (seg v 52 5 = gets (F 0 (seg v 37 5 ++ seg v 47 5)) 0 5) ∧ (seg v 57 5 = gets (F 6 (seg v 52 5 ++ [1, 0, 0, 0, 0])) 0 5) ∧ (seg v 62 6 = gets (F 15 (seg v 42 5 ++ seg v 57 5)) 0 6) ∧ (v 68 = op2 .eql .i64 (v 62) 0) ∧ (seg v 69 5 = gets (F 9 (seg v 63 5)) 0 5) ∧ (v 74 = op2 .shr .u8 (v 31) 7) ∧ (v 75 = IntKind.wrap .i64 (v 74)) ∧ (seg v 76 5 = gets (F 13 (seg v 69 5 ++ seg v 63 5 ++ [v 75])) 0 5) ∧ (seg v 81 5 = gets (F 0 (seg v 76 5 ++ seg v 32 5)) 0 5) := Eq.mp (by kernel_rfl) h
theorem A_pSet_0 {pr : Prs} {v : Nat → Int} (h : (pr 0 (seg v 76 5 ++ seg v 32 5)) ∧ (pr 10 ([] : List Int)) ∧ (pr 11 (seg v 32 5)) ∧ (pr 11 (seg v 76 5)) ∧ (pr 13 (seg v 69 5 ++ seg v 63 5 ++ [v 75])) ∧ (pr 9 (seg v 63 5)) ∧ ((v 68 != 0) = false) ∧ (pr 15 (seg v 42 5 ++ seg v 57 5)) ∧ (pr 6 (seg v 52 5 ++ [1, 0, 0, 0, 0])) ∧ (pr 16 ([] : List Int)) ∧ (pr 0 (seg v 37 5 ++ seg v 47 5)) ∧ (pr 17 ([] : List Int)) ∧ (pr 7 (seg v 37 5 ++ [1, 0, 0, 0, 0])) ∧ (pr 16 ([] : List Int)) ∧ (pr 3 (seg v 32 5)) ∧ (pr 14 (seg v 0 32)) ∧ True) : HoldL pr v p_pSet_0.g.asm := Eq.mp (by kernel_rfl) h

def T_pByt_ : Tmpl := ⟨83, [.one (.lf (.ptr 0 0)), .one (.lf (.ptr 1 0))], [(us .u64 0 20), (anys 32)], 20, 32, true, .one (.lf (.slc 1 0 32 (some 32))), [none, some (us .u8 20 32)], []⟩
def g_pByt__0 : List (Nat × Ins) := (List.flatten [[(70, .op2 .or .u8 (.v 66) (.v 69)), (69, .conv .u8 (.v 68)), (68, .op2 .shl .i64 (.v 67) (.l 7)), (67, .app 3 (vs 25 5) 0)], apps 6 (vs 30 5) 35 32, apps 0 ((vs 5 5) ++ (vs 20 5)) 30 5, apps 0 ((vs 0 5) ++ (vs 20 5)) 25 5, apps 4 (vs 10 5) 20 5])
def p_pByt__0 : Out := ⟨.one (.lf (.slc 1 0 32 (some 32))), [(us .u64 0 20), ((us .u8 35 31) ++ [.int .u8 (.v 70)]), [.ptr 0 0], (us .u64 20 5), (us .u64 25 5), (us .u64 30 5)], ⟨g_pByt__0, 71, [.pre 3 (vs 25 5), .pre 6 (vs 30 5), .pre 0 ((vs 5 5) ++ (vs 20 5)), .pre 0 ((vs 0 5) ++ (vs 20 5)), .pre 4 (vs 10 5), .pre 7 (vs 0 20)], [], [1, 1, 5, 4, 3]⟩⟩
theorem r_pByt__0 : runBody Try.prog [T_Mul, T_Mulx, T_Muly, T_IsNeg, T_Invert, T_Invertx, T_cpEl, T_chk] [] Try.f83 60 T_pByt_.args T_pByt_.mem T_pByt_.nin [] = some p_pByt__0 := by kernel_rfl
def ft_pByt__0 : Fit := ⟨((vs 35 31) ++ [(.v 70)]), []⟩
theorem w_pByt__0 : (fitsB T_pByt_ p_pByt__0 ft_pByt__0 && wfS T_pByt_.nin p_pByt__0.g.ssa p_pByt__0.g.n) = true := by kernel_rfl
theorem E_pByt__0 {F : Fns} {v : Nat → Int} (h : StHold F v (rawSt p_pByt__0.g.ssa)) : (seg v 20 5 = gets (F 4 (seg v 10 5)) 0 5) ∧ (seg v 25 5 = gets (F 0 (seg v 0 5 ++ seg v 20 5)) 0 5) ∧ (seg v 30 5 = gets (F 0 (seg v 5 5 ++ seg v 20 5)) 0 5) ∧ (seg v 35 32 = gets (F 6 (seg v 30 5)) 0 32) ∧ (v 67 = (F 3 (seg v 25 5)).getD 0 0) ∧ (v 68 = op2 .shl .i64 (v 67) 7) ∧ (v 69 = IntKind.wrap .u8 (v 68)) ∧ (v 70 = op2 .or .u8 (v 66) (v 69)) := Eq.mp (by kernel_rfl) h
theorem A_pByt__0 {pr : Prs} {v : Nat → Int} (h : (pr 3 (seg v 25 5)) ∧ (pr 6 (seg v 30 5)) ∧ (pr 0 (seg v 5 5 ++ seg v 20 5)) ∧ (pr 0 (seg v 0 5 ++ seg v 20 5)) ∧ (pr 4 (seg v 10 5)) ∧ (pr 7 (seg v 0 20)) ∧ True) : HoldL pr v p_pByt__0.g.asm := Eq.mp (by kernel_rfl) h

def T_pByt : Tmpl := ⟨58, [.one (.lf (.ptr 0 0))], [(us .u64 0 20)], 20, 32, true, .one (.lf (.slc 1 0 32 (some 32))), [none], [(us .u8 20 32)]⟩
def g_pByt_0 : List (Nat × Ins) := (apps 0 (vs 0 20) 20 32)
def p_pByt_0 : Out := ⟨.one (.lf (.slc 1 0 32 (some 32))), [(us .u64 0 20), (us .u8 20 32)], ⟨g_pByt_0, 52, [.pre 0 (vs 0 20)], [], [1]⟩⟩
theorem r_pByt_0 : runBody Try.prog [T_pByt_] [] Try.f58 60 T_pByt.args T_pByt.mem T_pByt.nin [] = some p_pByt_0 := by kernel_rfl
def ft_pByt_0 : Fit := ⟨(vs 20 32), [1]⟩
theorem w_pByt_0 : (fitsB T_pByt p_pByt_0 ft_pByt_0 && wfS T_pByt.nin p_pByt_0.g.ssa p_pByt_0.g.n) = true := by kernel_rfl
theorem E_pByt_0 {F : Fns} {v : Nat → Int} (h : StHold F v (rawSt p_pByt_0.g.ssa)) : (seg v 20 32 = gets (F 0 (seg v 0 20)) 0 32) := Eq.mp (by kernel_rfl) h
theorem A_pByt_0 {pr : Prs} {v : Nat → Int} (h : (pr 0 (seg v 0 20)) ∧ True) : HoldL pr v p_pByt_0.g.asm := Eq.mp (by kernel_rfl) h

end Go.X.Y

set_option maxRecDepth 20000
namespace Go.X.Y
open Go.Proofs

/-! ### points: the program's functions -/

theorem out_of {l : List Int} {ft : List A} {ρ : Nat → Int} (h : l = ft.map (A.ev ρ)) (j : Nat) (a : A) (ha : ft[j]? = some a) : l.getD j 0 = a.ev ρ := by
  rw [h, List.getD_eq_getElem?_getD, List.getElem?_map, ha]; rfl

theorem seg_of {v : Nat → Int} {xs : List Int} {n : Nat} (hl : xs.length = n) (h : ∀ x, x < n → v x = xs.getD x 0) : seg v 0 n = xs := by
  have := seg_xs (v := v) (xs := xs) n 0 (by omega) (fun x hx => h x (by omega))
  rw [this]; rfl

theorem encB_len (x y : Fp) : (encB x y).length = 32 := by
  unfold encB
  by_cases h : x.val % 2 = 1
  · rw [if_pos h, List.length_append, List.length_take, bB_len, List.length_singleton]; decide
  · rw [if_neg h]; exact bB_len _

theorem good_chk (W : World0 Try.prog) : GoodP W T_chk sp_chk := by
  refine lawP_sound (ts := []) (l := []) (W := W) trivial (by decide) Try.func100 Try.call100 (by kernel_rfl) rfl ?_
  intro xs hlen hx
  have hx : nz xs := hx
  by_cases h0 : xs.take 5 = ZZ5
  · refine ⟨_, _, _, _, r_chk_1, w_chk_1, ?_⟩
    intro ρ hin hst
    obtain ⟨e20, e21⟩ := E_chk_1 hst
    have hs := seg_of (n := 20) hlen hin
    have s0 : seg ρ 0 5 = xs.take 5 := by rw [← hs, seg_take _ (by decide)]
    have s1 : seg ρ 5 5 = (xs.drop 5).take 5 := by rw [← hs, seg_drop _ (by decide), seg_take _ (by decide)]
    have h1 : ¬ (xs.drop 5).take 5 = ZZ5 := fun e => hx ⟨h0, e⟩
    rw [s0, b2i_beq] at e20
    rw [s1, b2i_beq] at e21
    have e20 : ρ 20 = 1 := e20.trans (if_pos h0)
    have e21 : ρ 21 = 0 := e21.trans (if_neg h1)
    exact ⟨out_of rfl, A_chk_1 ⟨by rw [e21]; rfl, by rw [e20]; rfl, trivial⟩⟩
  · refine ⟨_, _, _, _, r_chk_0, w_chk_0, ?_⟩
    intro ρ hin hst
    have e20 := E_chk_0 hst
    have hs := seg_of (n := 20) hlen hin
    have s0 : seg ρ 0 5 = xs.take 5 := by rw [← hs, seg_take _ (by decide)]
    rw [s0, b2i_beq] at e20
    have e20 : ρ 20 = 0 := e20.trans (if_neg h0)
    exact ⟨out_of rfl, A_chk_0 ⟨by rw [e20]; rfl, trivial⟩⟩

theorem good_pByt_ (W : World0 Try.prog) : GoodP W T_pByt_ sp_byt := by
  refine lawP_sound (ts := [T_Mul, T_Mulx, T_Muly, T_IsNeg, T_Invert, T_Invertx, T_cpEl, T_chk]) (l := [s_feMulG.toP, s_feMulG.toP, s_feMulG.toP, s_IsNeg.toP, s_Invert.toP, s_Invert.toP, s_cpEl.toP, sp_chk]) (W := W)
    ⟨(good_Mul W).toP, (good_Mulx W).toP, (good_Muly W).toP, (good_IsNeg W).toP, (good_Invert W).toP, (good_Invertx W).toP, (good_cpEl W).toP, good_chk W, trivial⟩ (by decide) Try.func83 Try.call83 (by kernel_rfl) rfl ?_
  intro xs hlen hx
  obtain ⟨hx, hnz⟩ : InB LB4 xs ∧ nz xs := hx
  refine ⟨_, _, _, _, r_pByt__0, w_pByt__0, ?_⟩
  intro ρ hin hst
  obtain ⟨e20, e25, e30, e35, e67, e68, e69, e70⟩ := E_pByt__0 hst
  clear hst
  have hs := seg_of (n := 20) hlen hin
  obtain ⟨⟨bX, fX⟩, ⟨bY, fY⟩, ⟨bZ, fZ⟩, -⟩ := pt_parts hx hs
  obtain ⟨fi, bi⟩ := invLB bZ
  have e20 : seg ρ 20 5 = gets (s_Invert.f (seg ρ 10 5)) 0 5 := e20
  rw [gets5 bi rfl] at e20
  rw [← e20, fZ] at fi; rw [← e20] at bi
  obtain ⟨fx, bx⟩ := mulLB bX bi
  have e25 : seg ρ 25 5 = gets (s_feMulG.f (seg ρ 0 5 ++ seg ρ 20 5)) 0 5 := e25
  rw [gets5 bx rfl] at e25
  rw [← e25, fX, fi] at fx; rw [← e25] at bx
  obtain ⟨fy, b_y⟩ := mulLB bY bi
  have e30 : seg ρ 30 5 = gets (s_feMulG.f (seg ρ 5 5 ++ seg ρ 20 5)) 0 5 := e30
  rw [gets5 b_y rfl] at e30
  rw [← e30, fY, fi] at fy; rw [← e30] at b_y
  have e35 : seg ρ 35 32 = gets (s_cpEl.f (seg ρ 30 5)) 0 32 := e35
  have hcp : s_cpEl.f (seg ρ 30 5) = bB (pY xs * inv (pZ xs)) := by
    obtain ⟨v, -, hin', h5, -, hf⟩ := E_cpEl (seg ρ 30 5) b_y
    rw [hin', bytesF b_y fy, gets_all (bB_len _)] at h5
    rw [hf, h5]
  rw [hcp, gets_all (bB_len _)] at e35
  have e67 : ρ 67 = (s_IsNeg.f (seg ρ 25 5)).getD 0 0 := e67
  rw [IsNeg_val _ bx, List.getD_cons_zero, ← φ_val, fx] at e67
  have e67 : ρ 67 = if (pX xs * inv (pZ xs)).val % 2 = 1 then 1 else 0 := by
    rw [e67]
    by_cases h : (pX xs * inv (pZ xs)).val % 2 = 1
    · rw [if_pos h]; omega
    · rw [if_neg h]; omega
  rw [e69, e68] at e70
  have ho := enc_out e35 e67 e70
  refine ⟨out_of (ρ := ρ) (ft := ft_pByt__0.outs) ?_, A_pByt__0 ⟨?_, ?_, ?_, ?_, ?_, ?_, trivial⟩⟩
  · have hf : sp_byt.f xs = encB (pX xs * inv (pZ xs)) (pY xs * inv (pZ xs)) := rfl
    rw [hf]
    have h1 : ∀ v : Nat → Int, ft_pByt__0.outs.map (A.ev v) = seg v 35 31 ++ [v 70] := fun v => by kernel_rfl
    rw [← ho, h1]
  · exact bx
  · exact b_y
  · exact InB.append bY bi
  · exact InB.append bX bi
  · exact bZ
  · show nz (seg ρ 0 20)
    rw [hs]; exact hnz

theorem good_pByt (W : World0 Try.prog) : GoodP W T_pByt sp_byt := by
  refine lawP_sound (ts := [T_pByt_]) (l := [sp_byt]) (W := W) ⟨good_pByt_ W, trivial⟩ (by decide) Try.func58 Try.call58 (by kernel_rfl) rfl ?_
  intro xs hlen hx
  refine ⟨_, _, _, _, r_pByt_0, w_pByt_0, ?_⟩
  intro ρ hin hst
  have e20 := E_pByt_0 hst
  have hs := seg_of (n := 20) hlen hin
  have e20 : seg ρ 20 32 = gets (sp_byt.f (seg ρ 0 20)) 0 32 := e20
  have hl : (sp_byt.f xs).length = 32 := encB_len _ _
  rw [hs, gets_all hl] at e20
  refine ⟨out_of (ρ := ρ) (ft := ft_pByt_0.outs) ?_, A_pByt_0 ⟨?_, trivial⟩⟩
  · have h1 : ∀ v : Nat → Int, ft_pByt_0.outs.map (A.ev v) = seg v 20 32 := fun v => by kernel_rfl
    rw [← e20, h1]
  · show sp_byt.pre (seg ρ 0 20)
    rw [hs]; exact hx

end Go.X.Y

set_option maxRecDepth 20000
namespace Go.X.Y
open Go.Proofs

theorem shr7 {a : Int} (h : 0 ≤ a ∧ a < 256) : IntKind.wrap .i64 (op2 .shr .u8 a 7) = a / 128 := by
  have e : op2 .shr .u8 a 7 = a.fdiv (2 ^ min (7 : Int).toNat 8) := rfl
  have e2 : (2 : Int) ^ min (7 : Int).toNat 8 = 128 := by decide
  rw [e, e2, Int.fdiv_eq_ediv_of_nonneg _ (by decide), IntKind.wrap_i64]
  omega

theorem eql0 {P : Prop} [Decidable P] {t u : Int} (ht : t = if P then 1 else 0) (hu : u = op2 .eql .i64 t 0) : (u != 0) = !decide P := by
  by_cases h : P
  · rw [if_pos h] at ht
    subst ht hu
    rw [decide_eq_true h]; rfl
  · rw [if_neg h] at ht
    subst ht hu
    rw [decide_eq_false h]; rfl

section
variable {ρ : Nat → Int} {xs : List Int}

/-- the way to the root, common to both ends -/
theorem set_head (hx : InB (BB 32) xs) (hs : seg ρ 0 32 = xs)
    (e32 : seg ρ 32 5 = gets (s_SetBytes.f (seg ρ 0 32)) 0 5) (e37 : seg ρ 37 5 = gets (s_feSqG.f (seg ρ 32 5)) 0 5) (e42 : seg ρ 42 5 = gets (s_Sub.f (seg ρ 37 5 ++ one5)) 0 5)
    (e47 : seg ρ 47 5 = gets (s_dP.f []) 0 5) (e52 : seg ρ 52 5 = gets (s_feMulG.f (seg ρ 37 5 ++ seg ρ 47 5)) 0 5) (e57 : seg ρ 57 5 = gets (s_Add.f (seg ρ 52 5 ++ one5)) 0 5)
    (e62 : seg ρ 62 6 = gets (s_SqrtRatio.f (seg ρ 42 5 ++ seg ρ 57 5)) 0 6) :
    seg ρ 32 5 = qY xs ∧ seg ρ 37 5 = qY2 xs ∧ seg ρ 42 5 = qU xs ∧ seg ρ 47 5 = s_dP.f [] ∧ seg ρ 52 5 = s_feMulG.f (qY2 xs ++ s_dP.f []) ∧ seg ρ 57 5 = qV xs ∧ ρ 62 = (qR xs).getD 0 0 ∧ seg ρ 63 5 = (qR xs).drop 1 := by
  obtain ⟨b1, ⟨bu, -⟩, ⟨bd, bm⟩, ⟨bv, -⟩⟩ := qUV_val hx
  obtain ⟨lR, -⟩ := qR_val hx
  have by_ := (qY_val hx).1
  rw [hs] at e32
  have e32 : seg ρ 32 5 = gets (qY xs) 0 5 := e32
  rw [gets5 by_ rfl] at e32
  rw [e32] at e37
  have e37 : seg ρ 37 5 = gets (qY2 xs) 0 5 := e37
  rw [gets5 b1 rfl] at e37
  rw [e37] at e42
  have e42 : seg ρ 42 5 = gets (qU xs) 0 5 := e42
  rw [gets5 bu rfl] at e42
  rw [gets5 bd rfl] at e47
  rw [e37, e47, gets5 bm rfl] at e52
  rw [e52] at e57
  have e57 : seg ρ 57 5 = gets (qV xs) 0 5 := e57
  rw [gets5 bv rfl] at e57
  rw [e42, e57] at e62
  have e62 : seg ρ 62 6 = gets (qR xs) 0 6 := e62
  rw [gets_all lR] at e62
  refine ⟨e32, e37, e42, e47, e52, e57, ?_, ?_⟩
  · rw [← e62, seg_getD 0 (by decide)]
  · rw [← e62, seg_drop _ (by decide)]

end

theorem good_pSet (W : World0 Try.prog) : GoodP W T_pSet sp_set := by
  refine lawP_sound (ts := [T_Mul, T_Mulx, T_Muly, T_Sq, T_Sqx, T_Add, T_Addx, T_Sub, T_Subx, T_Neg, T_One, T_Set, T_Sel, T_Sely, T_SetBytes, T_SqrtRatio, T_feOneP, T_dP, T_errNew])
    (l := [s_feMulG.toP, s_feMulG.toP, s_feMulG.toP, s_feSqG.toP, s_feSqG.toP, s_Add.toP, s_Add.toP, s_Sub.toP, s_Sub.toP, s_Neg.toP, s_One.toP, s_Set.toP, s_Sel.toP, s_Sel.toP, s_SetBytes.toP, s_SqrtRatio.toP, s_feOneP.toP, s_dP.toP, s_errNew.toP]) (W := W)
    ⟨(good_Mul W).toP, (good_Mulx W).toP, (good_Muly W).toP, (good_Sq W).toP, (good_Sqx W).toP, (good_Add W).toP, (good_Addx W).toP, (good_Sub W).toP, (good_Subx W).toP, (good_Neg W).toP, (good_One W).toP, (good_Set W).toP, (good_Sel W).toP, (good_Sely W).toP, (good_SetBytes W).toP, (good_SqrtRatio W).toP, (good_feOneP W).toP, (good_dP W).toP, (good_errNew W).toP, trivial⟩ (by decide) Try.func57 Try.call57 (by kernel_rfl) rfl ?_
  intro xs hlen hx
  obtain ⟨hx, hp⟩ : InB (BB 32) xs ∧ isPt xs := hx
  refine ⟨_, _, _, _, r_pSet_0, w_pSet_0, ?_⟩
  intro ρ hin hst
  obtain ⟨e32, e37, e42, e47, e52, e57, e62, e68, e69, e74, e75, e76, e81⟩ := E_pSet_0 hst
  clear hst
  have hs := seg_of (n := 32) hlen hin
  obtain ⟨k32, k37, k42, k47, k52, k57, k62, k63⟩ := set_head hx hs e32 e37 e42 e47 e52 e57 e62
  clear e32 e37 e42 e47 e52 e57 e62
  obtain ⟨b1, ⟨bu, -⟩, ⟨bd, bm⟩, ⟨bv, -⟩⟩ := qUV_val hx
  obtain ⟨-, okR, bR, -⟩ := qR_val hx
  have by_ := (qY_val hx).1
  have bX := (qX_val hx).1
  have bT := (qT_in hx).1
  rw [okR] at k62
  have e68 := eql0 k62 e68
  rw [decide_eq_true (show okF (uF (eF xs)) (vF (eF xs)) from hp)] at e68
  have hN := negLB bR
  have e69 : seg ρ 69 5 = gets (s_Neg.f (seg ρ 63 5)) 0 5 := e69
  rw [k63, gets5 hN.2 rfl] at e69
  have d0 : InD 256 (seg ρ 0 32) := by rw [hs]; exact BB_in hx
  have t31 : 0 ≤ ρ 31 ∧ ρ 31 < 256 := seg_InD d0 31 (by decide) (by decide)
  have tb := top_bit d0
  have tb : ρ 31 / 128 = ofD 256 (seg ρ 0 32) / 57896044618658097711785492504343953926634992332820282019728792003956564819968 := tb
  rw [hs] at tb
  rw [e74, shr7 t31, tb] at e75
  have e75 : ρ 75 = sgB xs := e75
  have e76 : seg ρ 76 5 = gets (s_Sel.f (seg ρ 69 5 ++ seg ρ 63 5 ++ [ρ 75])) 0 5 := e76
  rw [e69, k63, e75] at e76
  have e76 : seg ρ 76 5 = gets (qX xs) 0 5 := e76
  rw [gets5 bX rfl] at e76
  have e81 : seg ρ 81 5 = gets (s_feMulG.f (seg ρ 76 5 ++ seg ρ 32 5)) 0 5 := e81
  rw [e76, k32] at e81
  have e81 : seg ρ 81 5 = gets (qT xs) 0 5 := e81
  rw [gets5 bT rfl] at e81
  have hsg : 0 ≤ sgB xs ∧ sgB xs ≤ 1 := by rcases sgB_01 hx with h | h <;> omega
  refine ⟨out_of (ρ := ρ) (ft := ft_pSet_0.outs) ?_, A_pSet_0 ⟨?_, trivial, ?_, ?_, ?_, ?_, e68, ?_, ?_, trivial, ?_, trivial, ?_, trivial, ?_, ?_, trivial⟩⟩
  · have h1 : ∀ v : Nat → Int, ft_pSet_0.outs.map (A.ev v) = seg v 76 5 ++ seg v 32 5 ++ seg v 81 5 := fun v => by kernel_rfl
    rw [h1, e76, k32, e81]; rfl
  · rw [e76, k32]; exact InB.append bX by_
  · rw [k32]; exact by_
  · rw [e76]; exact bX
  · rw [e69, k63, e75]; exact InB.append (a := LB ++ LB) (b := [(0, 1)]) (InB.append hN.2 bR) ⟨hsg.1, hsg.2, trivial⟩
  · rw [k63]; exact bR
  · rw [k42, k57]; exact InB.append bu bv
  · rw [k52]; exact InB.append bm one5_in
  · rw [k37, k47]; exact InB.append b1 bd
  · rw [k37]; exact InB.append b1 one5_in
  · rw [k32]; exact by_
  · rw [hs]; exact hx

/-! impl.Decoded -/

end Go.X.Y
