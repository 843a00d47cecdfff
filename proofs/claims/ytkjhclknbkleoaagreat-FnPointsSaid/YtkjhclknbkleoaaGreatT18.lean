/-
  A part of the proof of YtkjhclknbkleoaaGreat: texts ZL, M31, M32. No conditions.
-/
import Derived.Test.YtkjhclknbkleoaaGreatT17
import Derived.KernelRfl
import Derived.Test.YtkjhclknbkleoaaGreatProg
set_option maxRecDepth 20000
namespace Go.X.Z
open Go.Proofs
noncomputable section
def T_d2P : Tmpl := ⟨72, [], [], 0, 5, true, .one (.lf (.ptr 0 0)), [], [(us .u64 0 5)]⟩
def p_d2P : Path := ⟨[], [], ⟨.one (.lf (.ptr 0 0)), [(us .u64 10 5), (us .u64 0 5), (us .u64 5 5)], ⟨g_d2P, 15, [.pre 0 (vs 0 10), .pre 2 [], .pre 2 []], [], [0]⟩⟩, ⟨outs_d2P, [0]⟩, 60⟩
theorem r_d2P : runBody Tryz.prog [T_Add, T_Addx, T_dP] [] Tryz.f72 p_d2P.fuel T_d2P.args T_d2P.mem T_d2P.nin p_d2P.orc = some p_d2P.out := by kernel_rfl
theorem good_d2P (W : World0 Tryz.prog) : Good W T_d2P s_d2P := straight (l := l_d2P) (p := p_d2P) (by exact ⟨good_Add W, good_Addx W, good_dP W, trivial⟩) Tryz.func72 Tryz.call72 r_d2P (by kernel_rfl) rfl

def T_P3c : Tmpl := ⟨42, [.one (.lf (.ptr 1 0)), .one (.lf (.ptr 0 0))], [(us .u64 0 20), (anys 20)], 20, 15, true, .one (.lf (.ptr 1 0)), [none, some ((us .u64 20 10) ++ (us .u64 10 5) ++ (us .u64 30 5))], []⟩
def p_P3c : Path := ⟨(bs 20 0 4503599627370458), [], ⟨.one (.lf (.ptr 1 0)), [(us .u64 0 20), ((us .u64 20 10) ++ (us .u64 10 5) ++ (us .u64 35 5)), (us .u64 30 5)], ⟨g_P3c, 40, [.pre 0 ((vs 15 5) ++ (vs 30 5)), .pre 8 [], .pre 7 (vs 10 5), .pre 5 ((vs 5 5) ++ (vs 0 5)), .pre 3 ((vs 5 5) ++ (vs 0 5))], [], [1, 1, 1, 1]⟩⟩, ⟨outs_P3c, []⟩, 60⟩
theorem r_P3c : runBody Tryz.prog [T_Mul, T_Mulx, T_Muly, T_Add, T_Addx, T_Sub, T_Subx, T_Set, T_d2P] [] Tryz.f42 p_P3c.fuel T_P3c.args T_P3c.mem T_P3c.nin p_P3c.orc = some p_P3c.out := by kernel_rfl
theorem good_P3c (W : World0 Tryz.prog) : Good W T_P3c s_P3c := straight (l := l_P3c) (p := p_P3c) (by exact ⟨good_Mul W, good_Mulx W, good_Muly W, good_Add W, good_Addx W, good_Sub W, good_Subx W, good_Set W, good_d2P W, trivial⟩) Tryz.func42 Tryz.call42 r_P3c (by kernel_rfl) rfl

def T_Addd : Tmpl := ⟨68, [.one (.lf (.ptr 0 0)), .one (.lf (.ptr 0 0)), .one (.lf (.ptr 0 0))], [(us .u64 0 5)], 5, 5, true, .one (.lf (.ptr 0 0)), [some (us .u64 5 5)], []⟩
def p_Addd : Path := ⟨(bs 5 0 4503599627370458), [], ⟨.one (.lf (.ptr 0 0)), [(us .u64 10 5)], ⟨g_Addd, 15, [.pre 0 (vs 5 5)], [], [0, 0, 0, 0, 0, 0]⟩⟩, ⟨outs_Addd, []⟩, 60⟩
theorem r_Addd : runBody Tryz.prog [T_carry] [] Tryz.f68 p_Addd.fuel T_Addd.args T_Addd.mem T_Addd.nin p_Addd.orc = some p_Addd.out := by kernel_rfl
theorem good_Addd (W : World0 Tryz.prog) : Good W T_Addd s_Addd := straight (l := l_Addd) (p := p_Addd) (by exact ⟨good_carry W, trivial⟩) Tryz.func68 Tryz.call68 r_Addd (by kernel_rfl) rfl

def T_P1Add : Tmpl := ⟨43, [.one (.lf (.ptr 2 0)), .one (.lf (.ptr 0 0)), .one (.lf (.ptr 1 0))], [(us .u64 0 20), (us .u64 20 20), (anys 20)], 40, 20, true, .one (.lf (.ptr 2 0)), [none, none, some (us .u64 40 20)], []⟩
def p_P1Add : Path := ⟨(bs 40 0 4503599627370458), [], ⟨.one (.lf (.ptr 2 0)), [(us .u64 0 20), (us .u64 20 20), (us .u64 75 20), (us .u64 40 5), (us .u64 45 5), (us .u64 50 5), (us .u64 55 5), (us .u64 60 5), (us .u64 70 5)], ⟨g_P1Add, 95, [.pre 5 ((vs 70 5) ++ (vs 60 5)), .pre 3 ((vs 70 5) ++ (vs 60 5)), .pre 3 (vs 50 10), .pre 5 (vs 50 10), .pre 7 (vs 65 5), .pre 0 ((vs 10 5) ++ (vs 30 5)), .pre 0 ((vs 15 5) ++ (vs 35 5)), .pre 0 ((vs 45 5) ++ (vs 25 5)), .pre 0 ((vs 40 5) ++ (vs 20 5)), .pre 5 ((vs 5 5) ++ (vs 0 5)), .pre 3 ((vs 5 5) ++ (vs 0 5))], [], [2, 2, 2, 2, 8, 8, 7, 6, 5, 4, 3]⟩⟩, ⟨outs_P1Add, []⟩, 60⟩
theorem r_P1Add : runBody Tryz.prog [T_Mul, T_Mulx, T_Muly, T_Add, T_Addx, T_Sub, T_Subx, T_Addd] [] Tryz.f43 p_P1Add.fuel T_P1Add.args T_P1Add.mem T_P1Add.nin p_P1Add.orc = some p_P1Add.out := by kernel_rfl
theorem good_P1Add (W : World0 Tryz.prog) : Good W T_P1Add s_P1Add := straight (l := l_P1Add) (p := p_P1Add) (by exact ⟨good_Mul W, good_Mulx W, good_Muly W, good_Add W, good_Addx W, good_Sub W, good_Subx W, good_Addd W, trivial⟩) Tryz.func43 Tryz.call43 r_P1Add (by kernel_rfl) rfl

def T_P1Sub : Tmpl := ⟨46, [.one (.lf (.ptr 2 0)), .one (.lf (.ptr 0 0)), .one (.lf (.ptr 1 0))], [(us .u64 0 20), (us .u64 20 20), (anys 20)], 40, 20, true, .one (.lf (.ptr 2 0)), [none, none, some (us .u64 40 20)], []⟩
def p_P1Sub : Path := ⟨(bs 40 0 4503599627370458), [], ⟨.one (.lf (.ptr 2 0)), [(us .u64 0 20), (us .u64 20 20), (us .u64 75 20), (us .u64 40 5), (us .u64 45 5), (us .u64 50 5), (us .u64 55 5), (us .u64 60 5), (us .u64 70 5)], ⟨g_P1Sub, 95, [.pre 3 ((vs 70 5) ++ (vs 60 5)), .pre 5 ((vs 70 5) ++ (vs 60 5)), .pre 3 (vs 50 10), .pre 5 (vs 50 10), .pre 7 (vs 65 5), .pre 0 ((vs 10 5) ++ (vs 30 5)), .pre 0 ((vs 15 5) ++ (vs 35 5)), .pre 0 ((vs 45 5) ++ (vs 20 5)), .pre 0 ((vs 40 5) ++ (vs 25 5)), .pre 5 ((vs 5 5) ++ (vs 0 5)), .pre 3 ((vs 5 5) ++ (vs 0 5))], [], [2, 2, 2, 2, 8, 8, 7, 6, 5, 4, 3]⟩⟩, ⟨outs_P1Sub, []⟩, 60⟩
theorem r_P1Sub : runBody Tryz.prog [T_Mul, T_Mulx, T_Muly, T_Add, T_Addx, T_Sub, T_Subx, T_Addd] [] Tryz.f46 p_P1Sub.fuel T_P1Sub.args T_P1Sub.mem T_P1Sub.nin p_P1Sub.orc = some p_P1Sub.out := by kernel_rfl
theorem good_P1Sub (W : World0 Tryz.prog) : Good W T_P1Sub s_P1Sub := straight (l := l_P1Sub) (p := p_P1Sub) (by exact ⟨good_Mul W, good_Mulx W, good_Muly W, good_Add W, good_Addx W, good_Sub W, good_Subx W, good_Addd W, trivial⟩) Tryz.func46 Tryz.call46 r_P1Sub (by kernel_rfl) rfl

def T_fromP1 : Tmpl := ⟨44, [.one (.lf (.ptr 1 0)), .one (.lf (.ptr 0 0))], [(us .u64 0 20), (anys 20)], 20, 20, true, .one (.lf (.ptr 1 0)), [none, some (us .u64 20 20)], []⟩
def p_fromP1 : Path := ⟨(bs 20 0 4503599627370458), [], ⟨.one (.lf (.ptr 1 0)), [(us .u64 0 20), (us .u64 20 20)], ⟨g_fromP1, 40, [.pre 0 (vs 0 10), .pre 0 (vs 10 10), .pre 0 (vs 5 10), .pre 0 ((vs 0 5) ++ (vs 15 5))], [], [1, 1, 1, 1]⟩⟩, ⟨outs_fromP1, []⟩, 60⟩
theorem r_fromP1 : runBody Tryz.prog [T_Mul, T_Mulx, T_Muly] [] Tryz.f44 p_fromP1.fuel T_fromP1.args T_fromP1.mem T_fromP1.nin p_fromP1.orc = some p_fromP1.out := by kernel_rfl
theorem good_fromP1 (W : World0 Tryz.prog) : Good W T_fromP1 s_fromP1 := straight (l := l_fromP1) (p := p_fromP1) (by exact ⟨good_Mul W, good_Mulx W, good_Muly W, trivial⟩) Tryz.func44 Tryz.call44 r_fromP1 (by kernel_rfl) rfl

def T_P2P3 : Tmpl := ⟨49, [.one (.lf (.ptr 1 0)), .one (.lf (.ptr 0 0))], [(us .u64 0 20), (anys 15)], 20, 0, true, .one (.lf (.ptr 1 0)), [none, some (us .u64 0 15)], []⟩
def p_P2P3 : Path := ⟨(bs 20 0 4503599627370458), [], ⟨.one (.lf (.ptr 1 0)), [(us .u64 0 20), (us .u64 0 15)], ⟨g_P2P3, 20, [.pre 0 (vs 10 5), .pre 0 (vs 5 5), .pre 0 (vs 0 5)], [], [1, 1, 1]⟩⟩, ⟨outs_P2P3, []⟩, 60⟩
theorem r_P2P3 : runBody Tryz.prog [T_Set] [] Tryz.f49 p_P2P3.fuel T_P2P3.args T_P2P3.mem T_P2P3.nin p_P2P3.orc = some p_P2P3.out := by kernel_rfl
theorem good_P2P3 (W : World0 Tryz.prog) : Good W T_P2P3 s_P2P3 := straight (l := l_P2P3) (p := p_P2P3) (by exact ⟨good_Set W, trivial⟩) Tryz.func49 Tryz.call49 r_P2P3 (by kernel_rfl) rfl

def T_P2P1 : Tmpl := ⟨51, [.one (.lf (.ptr 1 0)), .one (.lf (.ptr 0 0))], [(us .u64 0 20), (anys 15)], 20, 15, true, .one (.lf (.ptr 1 0)), [none, some (us .u64 20 15)], []⟩
def p_P2P1 : Path := ⟨(bs 20 0 4503599627370458), [], ⟨.one (.lf (.ptr 1 0)), [(us .u64 0 20), (us .u64 20 15)], ⟨g_P2P1, 35, [.pre 0 (vs 10 10), .pre 0 (vs 5 10), .pre 0 ((vs 0 5) ++ (vs 15 5))], [], [1, 1, 1]⟩⟩, ⟨outs_P2P1, []⟩, 60⟩
theorem r_P2P1 : runBody Tryz.prog [T_Mul, T_Mulx, T_Muly] [] Tryz.f51 p_P2P1.fuel T_P2P1.args T_P2P1.mem T_P2P1.nin p_P2P1.orc = some p_P2P1.out := by kernel_rfl
theorem good_P2P1 (W : World0 Tryz.prog) : Good W T_P2P1 s_P2P1 := straight (l := l_P2P1) (p := p_P2P1) (by exact ⟨good_Mul W, good_Mulx W, good_Muly W, trivial⟩) Tryz.func51 Tryz.call51 r_P2P1 (by kernel_rfl) rfl

def T_Dbl : Tmpl := ⟨50, [.one (.lf (.ptr 1 0)), .one (.lf (.ptr 0 0))], [(us .u64 0 15), (anys 20)], 15, 20, true, .one (.lf (.ptr 1 0)), [none, some (us .u64 15 20)], []⟩
def p_Dbl : Path := ⟨(bs 15 0 4503599627370458), [], ⟨.one (.lf (.ptr 1 0)), [(us .u64 0 15), ((us .u64 55 5) ++ (us .u64 45 10) ++ (us .u64 60 5)), (us .u64 15 5), (us .u64 20 5), (us .u64 30 5), (us .u64 40 5)], ⟨g_Dbl, 65, [.pre 4 ((vs 30 5) ++ (vs 50 5)), .pre 4 (vs 40 10), .pre 4 ((vs 20 5) ++ (vs 15 5)), .pre 2 ((vs 20 5) ++ (vs 15 5)), .pre 1 (vs 35 5), .pre 2 (vs 0 10), .pre 6 (vs 25 5), .pre 0 (vs 10 5), .pre 0 (vs 5 5), .pre 0 (vs 0 5)], [], [1, 1, 1, 1, 5, 5, 4, 4, 3, 2]⟩⟩, ⟨outs_Dbl, []⟩, 60⟩
theorem r_Dbl : runBody Tryz.prog [T_Sq, T_Sqx, T_Add, T_Addx, T_Sub, T_Subx, T_Addd] [] Tryz.f50 p_Dbl.fuel T_Dbl.args T_Dbl.mem T_Dbl.nin p_Dbl.orc = some p_Dbl.out := by kernel_rfl
theorem good_Dbl (W : World0 Tryz.prog) : Good W T_Dbl s_Dbl := straight (l := l_Dbl) (p := p_Dbl) (by exact ⟨good_Sq W, good_Sqx W, good_Add W, good_Addx W, good_Sub W, good_Subx W, good_Addd W, trivial⟩) Tryz.func50 Tryz.call50 r_Dbl (by kernel_rfl) rfl

def T_pCopy : Tmpl := ⟨39, [.one (.lf (.ptr 1 0)), .one (.lf (.ptr 0 0))], [(us .u64 0 20), (anys 20)], 20, 0, true, .one (.lf (.ptr 1 0)), [none, some (us .u64 0 20)], []⟩
def p_pCopy : Path := ⟨(bs 20 0 4503599627370458), [], ⟨.one (.lf (.ptr 1 0)), [(us .u64 0 20), (us .u64 0 20)], ⟨g_pCopy, 20, [], [], [1]⟩⟩, ⟨outs_pCopy, []⟩, 60⟩
theorem r_pCopy : runBody Tryz.prog [] [] Tryz.f39 p_pCopy.fuel T_pCopy.args T_pCopy.mem T_pCopy.nin p_pCopy.orc = some p_pCopy.out := by kernel_rfl
theorem good_pCopy (W : World0 Tryz.prog) : Good W T_pCopy s_pCopy := straight (l := l_pCopy) (p := p_pCopy) (by exact trivial) Tryz.func39 Tryz.call39 r_pCopy (by kernel_rfl) rfl

def T_None : Tmpl := ⟨37, [], [], 0, 2, true, .one (.agg (List.flatten [lits .u32 0 16, [.int .u32 (.v 0)], lits .u32 0 15, [.int .u32 (.v 1)], lits .u32 0 15])), [], []⟩
def p_None : Path := ⟨[], [], ⟨.one (.agg (List.flatten [lits .u32 0 16, [.int .u32 (.v 0)], lits .u32 0 15, [.int .u32 (.v 1)], lits .u32 0 15])), [(List.flatten [lits .u32 0 16, [.int .u32 (.v 0)], lits .u32 0 15, [.int .u32 (.v 1)], lits .u32 0 15])], ⟨g_None, 2, [.pre 0 [(.l 1)], .pre 0 [(.l 1)]], [], [0]⟩⟩, ⟨outs_None, []⟩, 60⟩
theorem r_None : runBody Tryz.prog [T_Small] [] Tryz.f37 p_None.fuel T_None.args T_None.mem T_None.nin p_None.orc = some p_None.out := by kernel_rfl
theorem good_None (W : World0 Tryz.prog) : Good W T_None s_None := straight (l := l_None) (p := p_None) (by exact ⟨good_Small W, trivial⟩) Tryz.func37 Tryz.call37 r_None (by kernel_rfl) rfl

def T_Base : Tmpl := ⟨17, [.one (.agg (us .u32 0 16))], [], 16, 33, true, .one (.agg ((us .u32 16 33) ++ (lits .u32 0 15))), [], []⟩
def p_Base : Path := ⟨(bs 16 0 4294967295), [], ⟨.one (.agg ((us .u32 82 33) ++ (lits .u32 0 15))), [(us .u32 0 16), ((us .u32 82 33) ++ (lits .u32 0 15)), (us .u8 50 32), ((us .u32 82 33) ++ (lits .u32 0 15))], ⟨g_Base, 116, [.pre 4 ((vs 0 16) ++ (vs 50 32)), .pre 0 (vs 34 16), .pre 2 ([(.v 16)] ++ (ls 0 15) ++ (vs 18 16)), .pre 3 ([(.v 17)] ++ (ls 0 15)), .pre 1 [(.l 5)], .pre 1 [(.l 4)]], [], [1, 3]⟩⟩, ⟨outs_Base, []⟩, 60⟩
theorem r_Base : runBody Tryz.prog [T_NBytes, T_Small, T_FMul, T_Inv, T_Dec] [] Tryz.f17 p_Base.fuel T_Base.args T_Base.mem T_Base.nin p_Base.orc = some p_Base.out := by kernel_rfl
theorem good_Base (W : World0 Tryz.prog) : Good W T_Base s_Base := straight (l := l_Base) (p := p_Base) (by exact ⟨good_NBytes W, good_Small W, good_FMul W, good_Inv W, good_Dec W, trivial⟩) Tryz.func17 Tryz.call17 r_Base (by kernel_rfl) rfl

def T_cPlus : Tmpl := ⟨7, [.one (.agg (us .u32 0 16)), .one (.agg (us .u32 16 48)), .one (.agg (us .u32 64 48))], [], 112, 48, true, .one (.agg (us .u32 112 48)), [], []⟩
def p_cPlus : Path := ⟨(bs 112 0 4294967295), [], ⟨.one (.agg ((us .u32 336 16) ++ (us .u32 384 32))), [(us .u32 0 16), (us .u32 16 48), (us .u32 64 48), ((us .u32 336 16) ++ (us .u32 384 32)), (us .u32 112 16), (us .u32 128 16), (us .u32 144 16), (us .u32 160 16), (us .u32 192 16), (us .u32 208 16), (us .u32 224 16), (us .u32 304 16)], ⟨g_cPlus, 416, [.pre 2 (vs 208 32), .pre 2 (vs 352 32), .pre 0 (vs 144 32), .pre 2 ((vs 112 16) ++ (vs 224 16)), .pre 2 ((vs 320 16) ++ (vs 304 16)), .pre 2 ((vs 112 16) ++ (vs 208 16)), .pre 1 ((vs 288 16) ++ (vs 160 16)), .pre 1 ((vs 272 16) ++ (vs 144 16)), .pre 2 (vs 240 32), .pre 0 (vs 64 32), .pre 0 (vs 16 32), .pre 0 ((vs 128 16) ++ (vs 192 16)), .pre 1 ((vs 128 16) ++ (vs 192 16)), .pre 2 ((vs 0 16) ++ (vs 176 16)), .pre 2 (vs 144 32), .pre 2 ((vs 32 16) ++ (vs 80 16)), .pre 2 ((vs 16 16) ++ (vs 64 16)), .pre 2 ((vs 112 16) ++ (vs 112 16)), .pre 2 ((vs 48 16) ++ (vs 96 16))], [], [3, 11, 10, 9, 8, 7, 6, 5, 4]⟩⟩, ⟨outs_cPlus, []⟩, 60⟩
theorem r_cPlus : runBody Tryz.prog [T_FAdd, T_FSub, T_FMul] [] Tryz.f7 p_cPlus.fuel T_cPlus.args T_cPlus.mem T_cPlus.nin p_cPlus.orc = some p_cPlus.out := by kernel_rfl
theorem good_cPlus (W : World0 Tryz.prog) : Good W T_cPlus s_cPlus := straight (l := l_cPlus) (p := p_cPlus) (by exact ⟨good_FAdd W, good_FSub W, good_FMul W, trivial⟩) Tryz.func7 Tryz.call7 r_cPlus (by kernel_rfl) rfl

def T_Turned : Tmpl := ⟨8, [.one (.agg (us .u32 0 16)), .one (.agg (us .u32 16 48))], [], 64, 16, true, .one (.agg ((us .u32 64 16) ++ (us .u32 32 32))), [], []⟩
def p_Turned : Path := ⟨(bs 64 0 4294967295), [], ⟨.one (.agg ((us .u32 64 16) ++ (us .u32 32 32))), [(us .u32 0 16), (us .u32 16 48), ((us .u32 64 16) ++ (us .u32 32 32))], ⟨g_Turned, 80, [.pre 0 (vs 16 16)], [], [2]⟩⟩, ⟨outs_Turned, []⟩, 60⟩
theorem r_Turned : runBody Tryz.prog [T_FNeg] [] Tryz.f8 p_Turned.fuel T_Turned.args T_Turned.mem T_Turned.nin p_Turned.orc = some p_Turned.out := by kernel_rfl
theorem good_Turned (W : World0 Tryz.prog) : Good W T_Turned s_Turned := straight (l := l_Turned) (p := p_Turned) (by exact ⟨good_FNeg W, trivial⟩) Tryz.func8 Tryz.call8 r_Turned (by kernel_rfl) rfl

def T_cSame : Tmpl := ⟨11, [.one (.agg (us .u32 0 16)), .one (.agg (us .u32 16 48)), .one (.agg (us .u32 64 48))], [], 112, 1, true, .one (.lf (.bool (.v 112))), [], []⟩
def p_cSame_0 : Path := ⟨(bs 112 0 4294967295), [true], ⟨.one (.lf (.bool (.v 177))), [(us .u32 0 16), (us .u32 16 48), (us .u32 64 48)], ⟨g_cSame_0, 178, [.pre 0 ((vs 80 16) ++ (vs 48 16)), .pre 0 ((vs 32 16) ++ (vs 96 16)), .cond (.v 144) true, .pre 0 ((vs 64 16) ++ (vs 48 16)), .pre 0 ((vs 16 16) ++ (vs 96 16))], [], []⟩⟩, ⟨outs_cSame_0, []⟩, 60⟩
theorem r_cSame_0 : runBody Tryz.prog [T_FMul] [] Tryz.f11 p_cSame_0.fuel T_cSame.args T_cSame.mem T_cSame.nin p_cSame_0.orc = some p_cSame_0.out := by kernel_rfl
def p_cSame_1 : Path := ⟨(bs 112 0 4294967295), [false], ⟨.one (.lf (.bool (.l 0))), [(us .u32 0 16), (us .u32 16 48), (us .u32 64 48)], ⟨g_cSame_1, 145, [.cond (.v 144) false, .pre 0 ((vs 64 16) ++ (vs 48 16)), .pre 0 ((vs 16 16) ++ (vs 96 16))], [], []⟩⟩, ⟨outs_cSame_1, []⟩, 60⟩
theorem r_cSame_1 : runBody Tryz.prog [T_FMul] [] Tryz.f11 p_cSame_1.fuel T_cSame.args T_cSame.mem T_cSame.nin p_cSame_1.orc = some p_cSame_1.out := by kernel_rfl
theorem good_cSame (W : World0 Tryz.prog) : Good W T_cSame s_cSame := paths (ts := [T_FMul]) (l := l_cSame) (ps := [p_cSame_0, p_cSame_1]) (by exact ⟨good_FMul W, trivial⟩) (by kernel_rfl) Tryz.func11 Tryz.call11 (by kernel_rfl) (by
  intro p hp
  simp only [List.mem_cons, List.not_mem_nil, or_false] at hp
  rcases hp with rfl | rfl
  · exact ⟨r_cSame_0, by kernel_rfl⟩
  · exact ⟨r_cSame_1, by kernel_rfl⟩
  ) (paths_fp cov_cSame (by kernel_rfl))

def T_cTimes : Tmpl := ⟨15, [.one (.agg (us .u32 0 16)), .one (.agg (us .u32 16 16)), .one (.agg (us .u32 32 48))], [], 80, 48, true, .one (.agg (us .u32 80 48)), [], []⟩
def L_cTimes : LoopC := ⟨0, 27, 129, 80, 48, [(3, .one (.lf (.ptr 0 0))), (4, .one (.lf (.ptr 1 0))), (5, .one (.lf (.ptr 2 0))), (6, .one (.lf (.ptr 3 0))), (7, .one (.lf (.ptr 4 0))), (8, .one (.lf (.int .i64 (.v 80)))), (0, .one (.lf (.any))), (1, .one (.lf (.any))), (2, .one (.lf (.any))), (9, .one (.lf (.any))), (10, .one (.lf (.any))), (11, .one (.lf (.any))), (12, .one (.lf (.any))), (13, .one (.lf (.any))), (14, .one (.lf (.any))), (15, .one (.lf (.any))), (16, .one (.lf (.any))), (17, .one (.lf (.any))), (18, .one (.lf (.any))), (19, .one (.lf (.any))), (20, .one (.lf (.any))), (21, .one (.lf (.any))), (22, .one (.lf (.any))), (23, .one (.lf (.any))), (24, .one (.lf (.any))), (25, .one (.lf (.any))), (26, .one (.lf (.any)))], [(us .u32 0 16), (us .u32 16 16), (us .u32 32 48), (lits .u32 0 48), (us .u32 81 48)], [(6, .one (.lf (.ptr 3 0))), (7, .one (.lf (.ptr 4 0))), (0, .one (.lf (.any))), (1, .one (.lf (.any))), (2, .one (.lf (.any))), (3, .one (.lf (.any))), (4, .one (.lf (.any))), (5, .one (.lf (.any))), (8, .one (.lf (.any))), (9, .one (.lf (.any))), (10, .one (.lf (.any))), (11, .one (.lf (.any))), (12, .one (.lf (.any))), (13, .one (.lf (.any))), (14, .one (.lf (.any))), (15, .one (.lf (.any))), (16, .one (.lf (.any))), (17, .one (.lf (.any))), (18, .one (.lf (.any))), (19, .one (.lf (.any))), (20, .one (.lf (.any))), (21, .one (.lf (.any))), (22, .one (.lf (.any))), (23, .one (.lf (.any))), (24, .one (.lf (.any))), (25, .one (.lf (.any))), (26, .one (.lf (.any)))], [(us .u32 0 16), (us .u32 16 16), (us .u32 32 48), (lits .u32 0 48), (us .u32 80 48)], [0, 1, 2, 3, 4], 3⟩
def lp_cTimes_0 : LPath := ⟨((bs 80 0 4294967295) ++ [((-1), (-1))] ++ (bs 48 0 4294967295)), [false], 60, [(11, .one (.lf (.bool (.l 0)))), (11, .one (.lf (.bool (.v 129)))), (10, .one (.lf (.int .i64 (.v 80)))), (3, .one (.lf (.ptr 0 0))), (4, .one (.lf (.ptr 1 0))), (5, .one (.lf (.ptr 2 0))), (6, .one (.lf (.ptr 3 0))), (7, .one (.lf (.ptr 4 0))), (8, .one (.lf (.int .i64 (.v 80)))), (0, .one (.lf (.any))), (1, .one (.lf (.any))), (2, .one (.lf (.any))), (9, .one (.lf (.any))), (10, .one (.lf (.any))), (11, .one (.lf (.any))), (12, .one (.lf (.any))), (13, .one (.lf (.any))), (14, .one (.lf (.any))), (15, .one (.lf (.any))), (16, .one (.lf (.any))), (17, .one (.lf (.any))), (18, .one (.lf (.any))), (19, .one (.lf (.any))), (20, .one (.lf (.any))), (21, .one (.lf (.any))), (22, .one (.lf (.any))), (23, .one (.lf (.any))), (24, .one (.lf (.any))), (25, .one (.lf (.any))), (26, .one (.lf (.any)))], [(us .u32 0 16), (us .u32 16 16), (us .u32 32 48), (lits .u32 0 48), (us .u32 81 48)], ⟨g_timl_0, 130, [.cond (.v 129) false], [], [0, 1, 2, 3, 4]⟩, true, outs_timl_0⟩
theorem lr_cTimes_0 : runCode Tryz.prog [T_Bit, T_None, T_cPlus] [] L_cTimes.nt lp_cTimes_0.fuel (loopBody Tryz.f15 L_cTimes.id) L_cTimes.Tp L_cTimes.Mp ⟨[], L_cTimes.nin, [], lp_cTimes_0.orc, L_cTimes.wr⟩ = some (lEx L_cTimes.id lp_cTimes_0.stop, lp_cTimes_0.T, lp_cTimes_0.M, lp_cTimes_0.g) := by kernel_rfl
def lp_cTimes_1 : LPath := ⟨((bs 80 0 4294967295) ++ [(0, 255)] ++ (bs 48 0 4294967295)), [true, true], 60, [(8, .one (.lf (.int .i64 (.v 228)))), (13, .one (.lf (.int .i64 (.v 228)))), (12, .one (.lf (.int .i64 (.v 80)))), (25, .one (.agg (us .u32 180 48))), (24, .one (.agg (us .u32 32 48))), (23, .one (.agg (us .u32 130 48))), (22, .one (.agg (us .u32 0 16))), (21, .one (.lf (.bool (.l 1)))), (21, .one (.lf (.bool (.v 179)))), (20, .one (.lf (.int .i64 (.v 178)))), (19, .one (.lf (.int .i64 (.v 80)))), (18, .one (.agg (us .u32 16 16))), (17, .one (.agg (us .u32 130 48))), (16, .one (.agg (us .u32 81 48))), (15, .one (.agg (us .u32 81 48))), (14, .one (.agg (us .u32 0 16))), (11, .one (.lf (.bool (.l 1)))), (11, .one (.lf (.bool (.v 129)))), (10, .one (.lf (.int .i64 (.v 80)))), (3, .one (.lf (.ptr 0 0))), (4, .one (.lf (.ptr 1 0))), (5, .one (.lf (.ptr 2 0))), (6, .one (.lf (.ptr 3 0))), (7, .one (.lf (.ptr 4 0))), (8, .one (.lf (.int .i64 (.v 80)))), (0, .one (.lf (.any))), (1, .one (.lf (.any))), (2, .one (.lf (.any))), (9, .one (.lf (.any))), (10, .one (.lf (.any))), (11, .one (.lf (.any))), (12, .one (.lf (.any))), (13, .one (.lf (.any))), (14, .one (.lf (.any))), (15, .one (.lf (.any))), (16, .one (.lf (.any))), (17, .one (.lf (.any))), (18, .one (.lf (.any))), (19, .one (.lf (.any))), (20, .one (.lf (.any))), (21, .one (.lf (.any))), (22, .one (.lf (.any))), (23, .one (.lf (.any))), (24, .one (.lf (.any))), (25, .one (.lf (.any))), (26, .one (.lf (.any)))], [(us .u32 0 16), (us .u32 16 16), (us .u32 32 48), (lits .u32 0 48), (us .u32 180 48)], ⟨g_timl_1, 229, [.pre 2 ((vs 0 16) ++ (vs 130 48) ++ (vs 32 48)), .cond (.v 179) true, .pre 0 ((vs 16 16) ++ [(.v 80)]), .pre 2 ((vs 0 16) ++ (vs 81 48) ++ (vs 81 48)), .cond (.v 129) true], [], [4, 4, 0, 1, 2, 3, 4]⟩, false, outs_timl_1⟩
theorem lr_cTimes_1 : runCode Tryz.prog [T_Bit, T_None, T_cPlus] [] L_cTimes.nt lp_cTimes_1.fuel (loopBody Tryz.f15 L_cTimes.id) L_cTimes.Tp L_cTimes.Mp ⟨[], L_cTimes.nin, [], lp_cTimes_1.orc, L_cTimes.wr⟩ = some (lEx L_cTimes.id lp_cTimes_1.stop, lp_cTimes_1.T, lp_cTimes_1.M, lp_cTimes_1.g) := by kernel_rfl
def lp_cTimes_2 : LPath := ⟨((bs 80 0 4294967295) ++ [(0, 255)] ++ (bs 48 0 4294967295)), [true, false], 60, [(8, .one (.lf (.int .i64 (.v 180)))), (13, .one (.lf (.int .i64 (.v 180)))), (12, .one (.lf (.int .i64 (.v 80)))), (21, .one (.lf (.bool (.l 0)))), (21, .one (.lf (.bool (.v 179)))), (20, .one (.lf (.int .i64 (.v 178)))), (19, .one (.lf (.int .i64 (.v 80)))), (18, .one (.agg (us .u32 16 16))), (17, .one (.agg (us .u32 130 48))), (16, .one (.agg (us .u32 81 48))), (15, .one (.agg (us .u32 81 48))), (14, .one (.agg (us .u32 0 16))), (11, .one (.lf (.bool (.l 1)))), (11, .one (.lf (.bool (.v 129)))), (10, .one (.lf (.int .i64 (.v 80)))), (3, .one (.lf (.ptr 0 0))), (4, .one (.lf (.ptr 1 0))), (5, .one (.lf (.ptr 2 0))), (6, .one (.lf (.ptr 3 0))), (7, .one (.lf (.ptr 4 0))), (8, .one (.lf (.int .i64 (.v 80)))), (0, .one (.lf (.any))), (1, .one (.lf (.any))), (2, .one (.lf (.any))), (9, .one (.lf (.any))), (10, .one (.lf (.any))), (11, .one (.lf (.any))), (12, .one (.lf (.any))), (13, .one (.lf (.any))), (14, .one (.lf (.any))), (15, .one (.lf (.any))), (16, .one (.lf (.any))), (17, .one (.lf (.any))), (18, .one (.lf (.any))), (19, .one (.lf (.any))), (20, .one (.lf (.any))), (21, .one (.lf (.any))), (22, .one (.lf (.any))), (23, .one (.lf (.any))), (24, .one (.lf (.any))), (25, .one (.lf (.any))), (26, .one (.lf (.any)))], [(us .u32 0 16), (us .u32 16 16), (us .u32 32 48), (lits .u32 0 48), (us .u32 130 48)], ⟨g_timl_2, 181, [.cond (.v 179) false, .pre 0 ((vs 16 16) ++ [(.v 80)]), .pre 2 ((vs 0 16) ++ (vs 81 48) ++ (vs 81 48)), .cond (.v 129) true], [], [4, 0, 1, 2, 3, 4]⟩, false, outs_timl_2⟩
theorem lr_cTimes_2 : runCode Tryz.prog [T_Bit, T_None, T_cPlus] [] L_cTimes.nt lp_cTimes_2.fuel (loopBody Tryz.f15 L_cTimes.id) L_cTimes.Tp L_cTimes.Mp ⟨[], L_cTimes.nin, [], lp_cTimes_2.orc, L_cTimes.wr⟩ = some (lEx L_cTimes.id lp_cTimes_2.stop, lp_cTimes_2.T, lp_cTimes_2.M, lp_cTimes_2.g) := by kernel_rfl
def p_cTimes : Path := ⟨(bs 80 0 4294967295), [], ⟨.one (.agg (us .u32 82 48)), [(us .u32 0 16), (us .u32 16 16), (us .u32 32 48), (us .u32 82 48), (us .u32 82 48)], ⟨g_cTimes, 130, [.pre 3 (List.flatten [vs 0 80, [(.l 255)], ls 0 16, [(.v 80)], ls 0 15, [(.v 81)], ls 0 15]), .pre 1 []], [], [3, 0, 1, 2, 3, 4, 4]⟩⟩, ⟨outs_cTimes, []⟩, 60⟩
theorem r_cTimes : runBody Tryz.prog [T_Bit, T_None, T_cPlus] [⟨0, loopT L_cTimes⟩] Tryz.f15 p_cTimes.fuel T_cTimes.args T_cTimes.mem T_cTimes.nin p_cTimes.orc = some p_cTimes.out := by kernel_rfl
theorem good_cTimes (W : World0 Tryz.prog) : Good W T_cTimes s_cTimes := straightL (l := l_cTimes) (p := p_cTimes) (L := L_cTimes) (sL := s_timl) (lps := [lp_cTimes_0, lp_cTimes_1, lp_cTimes_2]) (by exact ⟨good_Bit W, good_None W, good_cPlus W, trivial⟩) Tryz.func15 Tryz.call15 r_cTimes (by kernel_rfl) (by
  intro p hp
  simp only [List.mem_cons, List.not_mem_nil, or_false] at hp
  rcases hp with rfl | rfl | rfl
  · exact ⟨lr_cTimes_0, by kernel_rfl⟩
  · exact ⟨lr_cTimes_1, by kernel_rfl⟩
  · exact ⟨lr_cTimes_2, by kernel_rfl⟩
  ) (by kernel_rfl) lcov_timl rfl

end
end Go.X.Z

set_option maxRecDepth 20000
namespace Go.X

/-! ### sums of the program's points, in limbs -/

abbrev LB3 : Bd := LB ++ (LB ++ LB)

theorem lb4_dec {xs : List Int} (h : InB LB4 xs) : ∃ a b c d, xs = a ++ (b ++ (c ++ d)) ∧ InB LB a ∧ InB LB b ∧ InB LB c ∧ InB LB d := by
  obtain ⟨h0, h1⟩ := InB.split (a := LB) (b := LB ++ (LB ++ LB)) h
  obtain ⟨h1, h2⟩ := InB.split (a := LB) (b := LB ++ LB) h1
  obtain ⟨h2, h3⟩ := InB.split (a := LB) (b := LB) h2
  refine ⟨_, _, _, _, ?_, h0, h1, h2, h3⟩
  rw [List.take_append_drop, List.take_append_drop, List.take_append_drop]

theorem lb3_dec {xs : List Int} (h : InB LB3 xs) : ∃ a b c, xs = a ++ (b ++ c) ∧ InB LB a ∧ InB LB b ∧ InB LB c := by
  obtain ⟨h0, h1⟩ := InB.split (a := LB) (b := LB ++ LB) h
  obtain ⟨h1, h2⟩ := InB.split (a := LB) (b := LB) h1
  refine ⟨_, _, _, ?_, h0, h1, h2⟩
  rw [List.take_append_drop, List.take_append_drop]

theorem limb_segs {v : Nat → Int} {k : Nat} {a b c d : List Int} (h : seg v k 20 = a ++ (b ++ (c ++ d))) (ha : InB LB a) (hb : InB LB b) (hc : InB LB c) : seg v k 5 = a ∧ seg v (k + 5) 5 = b ∧ seg v (k + 10) 5 = c ∧ seg v (k + 15) 5 = d := by
  obtain ⟨h1, h⟩ := seg_two (n := 5) (m := 15) h ha.len
  obtain ⟨h2, h⟩ := seg_two (n := 5) (m := 10) h hb.len
  obtain ⟨h3, h4⟩ := seg_two (n := 5) (m := 5) h hc.len
  exact ⟨h1, h2, h3, h4⟩

theorem segs_limb {v : Nat → Int} {k : Nat} : seg v k 20 = seg v k 5 ++ (seg v (k + 5) 5 ++ (seg v (k + 10) 5 ++ seg v (k + 15) 5)) := by
  have a1 : seg v k 20 = seg v k 5 ++ seg v (k + 5) 15 := seg_add v 5 15 k
  have a2 : seg v (k + 5) 15 = seg v (k + 5) 5 ++ seg v (k + 10) 10 := seg_add v 5 10 (k + 5)
  have a3 : seg v (k + 10) 10 = seg v (k + 10) 5 ++ seg v (k + 15) 5 := seg_add v 5 5 (k + 10)
  rw [a1, a2, a3]

theorem seg10 {v : Nat → Int} (k : Nat) : seg v k 10 = seg v k 5 ++ seg v (k + 5) 5 := seg_add v 5 5 k

theorem limbs3 {a b c : List Int} (ha : a.length = 5) (hb : b.length = 5) (hc : c.length = 5) : pX (a ++ (b ++ c)) = φ (v51 a) ∧ pY (a ++ (b ++ c)) = φ (v51 b) ∧ pZ (a ++ (b ++ c)) = φ (v51 c) := by
  have e10 : (a ++ (b ++ c)).drop 10 = c := by rw [show 10 = 5 + 5 from rfl, ← List.drop_drop, drop5 ha, drop5 hb]
  unfold pX pY pZ
  rw [take5 ha, drop5 ha, take5 hb, e10, List.take_of_length_le (by omega)]
  exact ⟨rfl, rfl, rfl⟩

def eOf (xs : List Int) : E4 := ⟨pX xs, pY xs, pZ xs, pT xs⟩
def qOf (xs : List Int) : Q4 := ⟨pX xs, pY xs, pZ xs, pT xs⟩
def tOf (xs : List Int) : Pt := ⟨pX xs, pY xs, pZ xs⟩

/-! the ways to limbs: what is computed is in bounds and has its value -/

theorem vmul {v : Nat → Int} {k : Nat} {a b : List Int} {x y : Fp} (ha : InB LB a ∧ φ (v51 a) = x) (hb : InB LB b ∧ φ (v51 b) = y) (h : seg v k 5 = gets (s_feMulG.f (a ++ b)) 0 5) : InB LB (seg v k 5) ∧ φ (v51 (seg v k 5)) = x * y := by
  obtain ⟨e, bd⟩ := mulLB ha.1 hb.1
  rw [gets5 bd rfl] at h
  rw [h]; exact ⟨bd, by rw [e, ha.2, hb.2]⟩
theorem vsq {v : Nat → Int} {k : Nat} {a : List Int} {x : Fp} (ha : InB LB a ∧ φ (v51 a) = x) (h : seg v k 5 = gets (s_feSqG.f a) 0 5) : InB LB (seg v k 5) ∧ φ (v51 (seg v k 5)) = x * x := by
  obtain ⟨e, bd⟩ := sqLB ha.1
  rw [gets5 bd rfl] at h
  rw [h]; exact ⟨bd, by rw [e, ha.2]⟩
theorem vadd {v : Nat → Int} {k : Nat} {a b : List Int} {x y : Fp} (ha : InB LB a ∧ φ (v51 a) = x) (hb : InB LB b ∧ φ (v51 b) = y) (h : seg v k 5 = gets (s_Add.f (a ++ b)) 0 5) : InB LB (seg v k 5) ∧ φ (v51 (seg v k 5)) = x + y := by
  obtain ⟨e, bd⟩ := addLB ha.1 hb.1
  rw [gets5 bd rfl] at h
  rw [h]; exact ⟨bd, by rw [e, ha.2, hb.2]⟩
theorem vsub {v : Nat → Int} {k : Nat} {a b : List Int} {x y : Fp} (ha : InB LB a ∧ φ (v51 a) = x) (hb : InB LB b ∧ φ (v51 b) = y) (h : seg v k 5 = gets (s_Sub.f (a ++ b)) 0 5) : InB LB (seg v k 5) ∧ φ (v51 (seg v k 5)) = x - y := by
  obtain ⟨e, bd⟩ := subLB ha.1 hb.1
  rw [gets5 bd rfl] at h
  rw [h]; exact ⟨bd, by rw [e, ha.2, hb.2]⟩

/-- twice an element: as the sum of two -/
theorem Addd_eq {a : List Int} (ha : InB LB a) : s_Addd.f a = s_Add.f (a ++ a) := by
  obtain ⟨v, -, hin, ⟨h5, h6, h7, h8, h9, h10⟩, -, hf⟩ := E_Addd a ha
  obtain ⟨w, -, win, ⟨w10, w11, w12, w13, w14, w15⟩, -, wf⟩ := E_Add (a ++ a) (InB.append ha ha)
  rw [hf, wf, h10, w15]
  obtain ⟨k0, k1⟩ := seg_two (n := 5) (m := 5) win ha.len
  have e0 : ∀ i, i < 5 → v i = a.getD i 0 := by
    intro i hi
    have := seg_getD (v := v) (n := 5) (x := 0) i hi
    rw [hin] at this
    rw [this, Nat.zero_add]
  have e1 : ∀ i, i < 5 → w i = a.getD i 0 := by
    intro i hi
    have := seg_getD (v := w) (n := 5) (x := 0) i hi
    rw [k0] at this
    rw [this, Nat.zero_add]
  have e2 : ∀ i, i < 5 → w (5 + i) = a.getD i 0 := by
    intro i hi
    have := seg_getD (v := w) (n := 5) (x := 5) i hi
    have k1 : seg w 5 5 = a := k1
    rw [k1] at this
    exact this.symm
  have es : seg v 5 5 = seg w 10 5 := by
    show [v 5, v 6, v 7, v 8, v 9] = [w 10, w 11, w 12, w 13, w 14]
    rw [h5, h6, h7, h8, h9, w10, w11, w12, w13, w14, e0 0 (by decide), e0 1 (by decide), e0 2 (by decide), e0 3 (by decide), e0 4 (by decide), e1 0 (by decide), e1 1 (by decide), e1 2 (by decide), e1 3 (by decide), e1 4 (by decide),
      show w 5 = a.getD 0 0 from e2 0 (by decide), show w 6 = a.getD 1 0 from e2 1 (by decide), show w 7 = a.getD 2 0 from e2 2 (by decide), show w 8 = a.getD 3 0 from e2 3 (by decide), show w 9 = a.getD 4 0 from e2 4 (by decide)]
  rw [es]

theorem vdbl {v : Nat → Int} {k : Nat} {a : List Int} {x : Fp} (ha : InB LB a ∧ φ (v51 a) = x) (h : seg v k 5 = gets (s_Addd.f a) 0 5) : InB LB (seg v k 5) ∧ φ (v51 (seg v k 5)) = x + x := by
  rw [Addd_eq ha.1] at h
  exact vadd ha ha h

theorem d2P_val : InB LB (s_d2P.f []) ∧ φ (v51 (s_d2P.f [])) = dF + dF := by
  obtain ⟨v, -, -, ⟨h0, h5, h10⟩, -, hf⟩ := E_d2P [] trivial
  obtain ⟨l, hl, bl, el⟩ := dP_val
  rw [hl, gets5 bl rfl] at h0 h5
  rw [seg10, h0, show seg v (0 + 5) 5 = l from h5] at h10
  rw [hf]; exact vadd ⟨bl, el⟩ ⟨bl, el⟩ h10

theorem P3c_val {xs : List Int} (h : InB LB4 xs) : ∃ a b c, s_P3c.f xs = a ++ (b ++ c) ∧ (InB LB a ∧ φ (v51 a) = pY xs + pX xs) ∧ (InB LB b ∧ φ (v51 b) = pY xs - pX xs) ∧ (InB LB c ∧ φ (v51 c) = pT xs * (dF + dF)) := by
  obtain ⟨v, -, hin, ⟨h20, h25, h30, h35⟩, -, hf⟩ := E_P3c xs h
  obtain ⟨bX, bY, bZ, bT⟩ := pt_parts h hin
  have k20 := vadd bY bX h20
  have k25 := vsub bY bX h25
  have k30 : seg v 30 5 = s_d2P.f [] := by rw [h30, gets5 d2P_val.1 rfl]
  have k30' : InB LB (seg v 30 5) ∧ φ (v51 (seg v 30 5)) = dF + dF := by rw [k30]; exact d2P_val
  have k35 := vmul bT k30' h35
  refine ⟨_, _, _, ?_, k20, k25, k35⟩
  rw [hf, seg10, List.append_assoc]

section
variable {p q : List Int} (hp : InB LB4 p) (hq : InB LB4 q)
include hp hq

theorem P1Add_val : InB LB4 (s_P1Add.f (p ++ q)) ∧ qOf (s_P1Add.f (p ++ q)) = ⟨(pY p + pX p) * pX q - (pY p - pX p) * pY q, (pY p + pX p) * pX q + (pY p - pX p) * pY q, pZ p * pZ q + pZ p * pZ q + pT p * pT q, pZ p * pZ q + pZ p * pZ q - pT p * pT q⟩ := by
  obtain ⟨v, -, hin, ⟨h40, h45, h50, h55, h60, h65, h70, h75, h80, h85, h90⟩, -, hf⟩ := E_P1Add (p ++ q) (InB.append hp hq)
  obtain ⟨a, b, c, d, rfl, ha, hb, hc, hd⟩ := lb4_dec hp
  obtain ⟨a', b', c', d', rfl, ha', hb', hc', hd'⟩ := lb4_dec hq
  obtain ⟨s0, s1⟩ := seg_two (n := 20) (m := 20) hin hp.len
  obtain ⟨s0, s5, s10, s15⟩ := limb_segs s0 ha hb hc
  obtain ⟨s20, s25, s30, s35⟩ := limb_segs s1 ha' hb' hc'
  obtain ⟨x1, x2, x3, x4⟩ := limbs4 (d := d) ha.len hb.len hc.len
  obtain ⟨y1, y2, y3, y4⟩ := limbs4 (d := d') ha'.len hb'.len hc'.len
  have s5 : seg v 5 5 = b := s5
  have s10 : seg v 10 5 = c := s10
  have s15 : seg v 15 5 = d := s15
  have s20 : seg v 20 5 = a' := s20
  have s25 : seg v 25 5 = b' := s25
  have s30 : seg v 30 5 = c' := s30
  have s35 : seg v 35 5 = d' := s35
  rw [x1, x2, x3, x4, y1, y2, y3, y4]
  rw [s5, s0] at h40 h45
  rw [s20] at h50
  rw [s25] at h55
  rw [s15, s35] at h60
  rw [s10, s30] at h65
  have k40 := vadd ⟨hb, rfl⟩ ⟨ha, rfl⟩ h40
  have k45 := vsub ⟨hb, rfl⟩ ⟨ha, rfl⟩ h45
  have k50 := vmul k40 ⟨ha', rfl⟩ h50
  have k55 := vmul k45 ⟨hb', rfl⟩ h55
  have k60 := vmul ⟨hd, rfl⟩ ⟨hd', rfl⟩ h60
  have k65 := vmul ⟨hc, rfl⟩ ⟨hc', rfl⟩ h65
  have k70 := vdbl k65 h70
  rw [seg10] at h75 h80
  have k75 := vsub k50 k55 h75
  have k80 := vadd k50 k55 h80
  have k85 := vadd k70 k60 h85
  have k90 := vsub k70 k60 h90
  have e : seg v 75 20 = seg v 75 5 ++ (seg v 80 5 ++ (seg v 85 5 ++ seg v 90 5)) := segs_limb
  rw [hf, e]
  obtain ⟨z1, z2, z3, z4⟩ := limbs4 (d := seg v 90 5) k75.1.len k80.1.len k85.1.len
  refine ⟨InB.append k75.1 (InB.append k80.1 (InB.append k85.1 k90.1)), ?_⟩
  unfold qOf
  rw [z1, z2, z3, z4, k75.2, k80.2, k85.2, k90.2]

theorem P1Sub_val : InB LB4 (s_P1Sub.f (p ++ q)) ∧ qOf (s_P1Sub.f (p ++ q)) = ⟨(pY p + pX p) * pY q - (pY p - pX p) * pX q, (pY p + pX p) * pY q + (pY p - pX p) * pX q, pZ p * pZ q + pZ p * pZ q - pT p * pT q, pZ p * pZ q + pZ p * pZ q + pT p * pT q⟩ := by
  obtain ⟨v, -, hin, ⟨h40, h45, h50, h55, h60, h65, h70, h75, h80, h85, h90⟩, -, hf⟩ := E_P1Sub (p ++ q) (InB.append hp hq)
  obtain ⟨a, b, c, d, rfl, ha, hb, hc, hd⟩ := lb4_dec hp
  obtain ⟨a', b', c', d', rfl, ha', hb', hc', hd'⟩ := lb4_dec hq
  obtain ⟨s0, s1⟩ := seg_two (n := 20) (m := 20) hin hp.len
  obtain ⟨s0, s5, s10, s15⟩ := limb_segs s0 ha hb hc
  obtain ⟨s20, s25, s30, s35⟩ := limb_segs s1 ha' hb' hc'
  obtain ⟨x1, x2, x3, x4⟩ := limbs4 (d := d) ha.len hb.len hc.len
  obtain ⟨y1, y2, y3, y4⟩ := limbs4 (d := d') ha'.len hb'.len hc'.len
  have s5 : seg v 5 5 = b := s5
  have s10 : seg v 10 5 = c := s10
  have s15 : seg v 15 5 = d := s15
  have s20 : seg v 20 5 = a' := s20
  have s25 : seg v 25 5 = b' := s25
  have s30 : seg v 30 5 = c' := s30
  have s35 : seg v 35 5 = d' := s35
  rw [x1, x2, x3, x4, y1, y2, y3, y4]
  rw [s5, s0] at h40 h45
  rw [s25] at h50
  rw [s20] at h55
  rw [s15, s35] at h60
  rw [s10, s30] at h65
  have k40 := vadd ⟨hb, rfl⟩ ⟨ha, rfl⟩ h40
  have k45 := vsub ⟨hb, rfl⟩ ⟨ha, rfl⟩ h45
  have k50 := vmul k40 ⟨hb', rfl⟩ h50
  have k55 := vmul k45 ⟨ha', rfl⟩ h55
  have k60 := vmul ⟨hd, rfl⟩ ⟨hd', rfl⟩ h60
  have k65 := vmul ⟨hc, rfl⟩ ⟨hc', rfl⟩ h65
  have k70 := vdbl k65 h70
  rw [seg10] at h75 h80
  have k75 := vsub k50 k55 h75
  have k80 := vadd k50 k55 h80
  have k85 := vsub k70 k60 h85
  have k90 := vadd k70 k60 h90
  have e : seg v 75 20 = seg v 75 5 ++ (seg v 80 5 ++ (seg v 85 5 ++ seg v 90 5)) := segs_limb
  rw [hf, e]
  obtain ⟨z1, z2, z3, z4⟩ := limbs4 (d := seg v 90 5) k75.1.len k80.1.len k85.1.len
  refine ⟨InB.append k75.1 (InB.append k80.1 (InB.append k85.1 k90.1)), ?_⟩
  unfold qOf
  rw [z1, z2, z3, z4, k75.2, k80.2, k85.2, k90.2]
end

theorem fromP1_val {xs : List Int} (h : InB LB4 xs) : InB LB4 (s_fromP1.f xs) ∧ eOf (s_fromP1.f xs) = (qOf xs).ex := by
  obtain ⟨v, -, hin, ⟨h20, h25, h30, h35⟩, -, hf⟩ := E_fromP1 xs h
  obtain ⟨bX, bY, bZ, bT⟩ := pt_parts h hin
  rw [seg10] at h25 h30 h35
  have k20 := vmul bX bT h20
  have k25 := vmul bY bZ h25
  have k30 := vmul bZ bT h30
  have k35 := vmul bX bY h35
  have e : seg v 20 20 = seg v 20 5 ++ (seg v 25 5 ++ (seg v 30 5 ++ seg v 35 5)) := segs_limb
  rw [hf, e]
  obtain ⟨z1, z2, z3, z4⟩ := limbs4 (d := seg v 35 5) k20.1.len k25.1.len k30.1.len
  refine ⟨InB.append k20.1 (InB.append k25.1 (InB.append k30.1 k35.1)), ?_⟩
  unfold eOf
  rw [z1, z2, z3, z4, k20.2, k25.2, k30.2, k35.2]; rfl

theorem P2P1_val {xs : List Int} (h : InB LB4 xs) : InB LB3 (s_P2P1.f xs) ∧ tOf (s_P2P1.f xs) = (qOf xs).p2 := by
  obtain ⟨v, -, hin, ⟨h20, h25, h30⟩, -, hf⟩ := E_P2P1 xs h
  obtain ⟨bX, bY, bZ, bT⟩ := pt_parts h hin
  rw [seg10] at h25 h30
  have k20 := vmul bX bT h20
  have k25 := vmul bY bZ h25
  have k30 := vmul bZ bT h30
  have e1 : seg v 20 15 = seg v 20 5 ++ seg v 25 10 := seg_add v 5 10 20
  have e : seg v 20 15 = seg v 20 5 ++ (seg v 25 5 ++ seg v 30 5) := by rw [e1, seg10]
  rw [hf, e]
  obtain ⟨z1, z2, z3⟩ := limbs3 k20.1.len k25.1.len k30.1.len
  refine ⟨InB.append k20.1 (InB.append k25.1 k30.1), ?_⟩
  unfold tOf
  rw [z1, z2, z3, k20.2, k25.2, k30.2]; rfl

theorem Dbl_val {xs : List Int} (h : InB LB3 xs) : InB LB4 (s_Dbl.f xs) ∧ qOf (s_Dbl.f xs) = (tOf xs).dbl := by
  obtain ⟨v, -, hin, ⟨h15, h20, h25, h30, h35, h40, h45, h50, h55, h60⟩, -, hf⟩ := E_Dbl xs h
  obtain ⟨a, b, c, rfl, ha, hb, hc⟩ := lb3_dec h
  obtain ⟨s0, s1⟩ := seg_two (n := 5) (m := 10) hin ha.len
  obtain ⟨s5, s10⟩ := seg_two (n := 5) (m := 5) s1 hb.len
  have s5 : seg v 5 5 = b := s5
  have s10 : seg v 10 5 = c := s10
  obtain ⟨x1, x2, x3⟩ := limbs3 ha.len hb.len hc.len
  rw [s0] at h15
  rw [s5] at h20
  rw [s10] at h25
  rw [seg10, s0, show seg v (0 + 5) 5 = b from s5] at h35
  have k15 := vsq ⟨ha, rfl⟩ h15
  have k20 := vsq ⟨hb, rfl⟩ h20
  have k25 := vsq ⟨hc, rfl⟩ h25
  have k30 := vdbl k25 h30
  have k35 := vadd ⟨ha, rfl⟩ ⟨hb, rfl⟩ h35
  have k40 := vsq k35 h40
  have k45 := vadd k20 k15 h45
  have k50 := vsub k20 k15 h50
  rw [seg10] at h55
  have k55 := vsub k40 k45 h55
  have k60 := vsub k30 k50 h60
  rw [hf, seg10 45, List.append_assoc, List.append_assoc]
  have k50' : InB LB (seg v (45 + 5) 5) ∧ φ (v51 (seg v (45 + 5) 5)) = φ (v51 b) * φ (v51 b) - φ (v51 a) * φ (v51 a) := k50
  obtain ⟨z1, z2, z3, z4⟩ := limbs4 (d := seg v 60 5) k55.1.len k45.1.len k50'.1.len
  refine ⟨InB.append k55.1 (InB.append k45.1 (InB.append k50'.1 k60.1)), ?_⟩
  unfold qOf tOf
  rw [z1, z2, z3, z4, k55.2, k45.2, k50'.2, k60.2, x1, x2, x3]; rfl

theorem Turned_val (d : Fp) (p : Pt) : s_Turned.f (nF d ++ pL p) = nF (-p.X) := by
  obtain ⟨v, -, hin, h64, -, hf⟩ := E_Turned (nF d ++ pL p) (InB.append (a := WB 16) (b := WB 48) (nF_in _) (pL_in _))
  obtain ⟨-, k1⟩ := seg_two (n := 16) (m := 48) hin (nF_len _)
  obtain ⟨x1, -, -⟩ := seg_pL k1
  have x1 : seg v 16 16 = _ := x1
  rw [x1, FNeg_val, gets_all (nF_len _)] at h64
  rw [hf, h64]

end Go.X

set_option maxRecDepth 20000
namespace Go.X

/-! ### sums of points: what the program's functions give -/

def pL1 (xs : List Int) : List Int := xs.take 20
def pL2 (xs : List Int) : List Int := xs.drop 20
/-- the second point, made ready -/
def cch (q : List Int) : List Int := (s_P3c.f q).take 10 ++ ((q.drop 10).take 5 ++ (s_P3c.f q).drop 10)

def two (xs : List Int) : Prop := InB LB4 (pL1 xs) ∧ InB LB4 (pL2 xs) ∧ nz (pL1 xs) ∧ nz (pL2 xs)

def sp_chk2 : SemP := ⟨fun _ => [], fun xs => nz (pL1 xs) ∧ nz (pL2 xs)⟩
def sp_pAdd : SemP := ⟨fun xs => s_fromP1.f (s_P1Add.f (pL1 xs ++ cch (pL2 xs))), two⟩
def sp_pSub : SemP := ⟨fun xs => s_fromP1.f (s_P1Sub.f (pL1 xs ++ cch (pL2 xs))), two⟩
def sp_pNeg : SemP := ⟨fun xs => s_Neg.f (xs.take 5) ++ s_Neg.f (xs.drop 15), fun xs => InB LB4 xs ∧ nz xs⟩
def sp_pCof : SemP := ⟨fun xs => s_fromP1.f (s_Dbl.f (s_P2P1.f (s_Dbl.f (s_P2P1.f (s_Dbl.f (xs.take 15)))))), fun xs => InB LB4 xs ∧ nz xs⟩
def eqF (p q : E4) : Prop := p.X * q.Z = q.X * p.Z ∧ p.Y * q.Z = q.Y * p.Z
instance (p q : E4) : Decidable (eqF p q) := inferInstanceAs (Decidable (_ ∧ _))
def sp_pEql : SemP := ⟨fun xs => [if eqF (eOf (pL1 xs)) (eOf (pL2 xs)) then 1 else 0], two⟩

theorem cch_val {q : List Int} (h : InB LB4 q) : InB LB4 (cch q) ∧ pX (cch q) = pY q + pX q ∧ pY (cch q) = pY q - pX q ∧ pZ (cch q) = pZ q ∧ pT (cch q) = pT q * (dF + dF) := by
  obtain ⟨a, b, c, e, ha, hb, hc⟩ := P3c_val h
  obtain ⟨a', b', c', d', rfl, ia, ib, ic, id⟩ := lb4_dec h
  obtain ⟨-, -, z3, -⟩ := limbs4 (d := d') ia.len ib.len ic.len
  have e10 : (a' ++ (b' ++ (c' ++ d'))).drop 10 = c' ++ d' := by rw [show 10 = 5 + 5 from rfl, ← List.drop_drop, drop5 ia.len, drop5 ib.len]
  have hl : (a ++ b).length = 10 := by rw [List.length_append, ha.1.len, hb.1.len]; rfl
  have ec : cch (a' ++ (b' ++ (c' ++ d'))) = a ++ (b ++ (c' ++ c)) := by
    unfold cch
    rw [e, e10, take5 ic.len, ← List.append_assoc a b c, List.take_left' hl, List.drop_left' hl, List.append_assoc]
  obtain ⟨y1, y2, y3, y4⟩ := limbs4 (d := c) ha.1.len hb.1.len ic.len
  rw [ec, y1, y2, y3, y4, ha.2, hb.2, hc.2, z3]
  exact ⟨InB.append ha.1 (InB.append hb.1 (InB.append ic hc.1)), rfl, rfl, rfl, rfl⟩

theorem pAdd_val {xs : List Int} (h : two xs) : InB LB4 (s_P1Add.f (pL1 xs ++ cch (pL2 xs))) ∧ InB LB4 (sp_pAdd.f xs) ∧ eOf (sp_pAdd.f xs) = ((eOf (pL1 xs)).plus dF (eOf (pL2 xs))).ex := by
  obtain ⟨h1, h2, -, -⟩ := h
  obtain ⟨c0, c1, c2, c3, c4⟩ := cch_val h2
  obtain ⟨b, e⟩ := P1Add_val h1 c0
  obtain ⟨b', e'⟩ := fromP1_val b
  refine ⟨b, b', ?_⟩
  show eOf (s_fromP1.f (s_P1Add.f (pL1 xs ++ cch (pL2 xs)))) = _
  rw [e', e, c1, c2, c3, c4]; rfl

theorem pSub_val {xs : List Int} (h : two xs) : InB LB4 (s_P1Sub.f (pL1 xs ++ cch (pL2 xs))) ∧ InB LB4 (sp_pSub.f xs) ∧ eOf (sp_pSub.f xs) = ((eOf (pL1 xs)).minus dF (eOf (pL2 xs))).ex := by
  obtain ⟨h1, h2, -, -⟩ := h
  obtain ⟨c0, c1, c2, c3, c4⟩ := cch_val h2
  obtain ⟨b, e⟩ := P1Sub_val h1 c0
  obtain ⟨b', e'⟩ := fromP1_val b
  refine ⟨b, b', ?_⟩
  show eOf (s_fromP1.f (s_P1Sub.f (pL1 xs ++ cch (pL2 xs)))) = _
  rw [e', e, c1, c2, c3, c4]; rfl

theorem take15 {xs : List Int} (h : InB LB4 xs) : InB LB3 (xs.take 15) ∧ tOf (xs.take 15) = (eOf xs).pt := by
  obtain ⟨a, b, c, d, rfl, ha, hb, hc, hd⟩ := lb4_dec h
  have e : (a ++ (b ++ (c ++ d))).take 15 = a ++ (b ++ c) := by
    have : a ++ (b ++ (c ++ d)) = (a ++ (b ++ c)) ++ d := by simp only [List.append_assoc]
    rw [this]
    exact List.take_left' (by rw [List.length_append, List.length_append, ha.len, hb.len, hc.len]; rfl)
  obtain ⟨x1, x2, x3, -⟩ := limbs4 (d := d) ha.len hb.len hc.len
  obtain ⟨y1, y2, y3⟩ := limbs3 ha.len hb.len hc.len
  rw [e]
  refine ⟨InB.append ha (InB.append hb hc), ?_⟩
  unfold tOf eOf E4.pt
  dsimp only
  rw [x1, x2, x3, y1, y2, y3]

/-- the point of the curve that a sum is -/
def eight (x y : Fp) : Fp × Fp := 
  let a := (aX dF x y x y, aY dF x y x y)
  let b := (aX dF a.1 a.2 a.1 a.2, aY dF a.1 a.2 a.1 a.2)
  (aX dF b.1 b.2 b.1 b.2, aY dF b.1 b.2 b.1 b.2)

theorem pCof_val {xs : List Int} (h : InB LB4 xs) (hok : (eOf xs).ok dF) : ∃ a b c d e, a = s_Dbl.f (xs.take 15) ∧ b = s_P2P1.f a ∧ c = s_Dbl.f b ∧ d = s_P2P1.f c ∧ e = s_Dbl.f d ∧ sp_pCof.f xs = s_fromP1.f e ∧
    InB LB3 (xs.take 15) ∧ InB LB4 a ∧ InB LB3 b ∧ InB LB4 c ∧ InB LB3 d ∧ InB LB4 e ∧ InB LB4 (s_fromP1.f e) ∧ (eOf (s_fromP1.f e)).ok dF ∧ (eOf (s_fromP1.f e)).pt.x = (eight (eOf xs).pt.x (eOf xs).pt.y).1 ∧ (eOf (s_fromP1.f e)).pt.y = (eight (eOf xs).pt.x (eOf xs).pt.y).2 := by
  obtain ⟨i0, e0⟩ := take15 h
  obtain ⟨i1, e1⟩ := Dbl_val i0
  obtain ⟨i2, e2⟩ := P2P1_val i1
  obtain ⟨i3, e3⟩ := Dbl_val i2
  obtain ⟨i4, e4⟩ := P2P1_val i3
  obtain ⟨i5, e5⟩ := Dbl_val i4
  obtain ⟨i6, e6⟩ := fromP1_val i5
  obtain ⟨-, g1, x1, y1⟩ := Pt.dbl_good d_nsq hok.1
  rw [e1, e0] at e2
  rw [← e2] at g1 x1 y1
  obtain ⟨-, g2, x2, y2⟩ := Pt.dbl_good d_nsq g1
  rw [e3] at e4
  rw [← e4] at g2 x2 y2
  obtain ⟨g3, -, x3, y3⟩ := Pt.dbl_good d_nsq g2
  rw [e5] at e6
  rw [← e6] at g3
  have hx : (eOf (s_fromP1.f (s_Dbl.f (s_P2P1.f (s_Dbl.f (s_P2P1.f (s_Dbl.f (xs.take 15)))))))).pt.x = (tOf (s_P2P1.f (s_Dbl.f (s_P2P1.f (s_Dbl.f (xs.take 15)))))).dbl.p2.x := by rw [e6]; rfl
  have hy : (eOf (s_fromP1.f (s_Dbl.f (s_P2P1.f (s_Dbl.f (s_P2P1.f (s_Dbl.f (xs.take 15)))))))).pt.y = (tOf (s_P2P1.f (s_Dbl.f (s_P2P1.f (s_Dbl.f (xs.take 15)))))).dbl.p2.y := by rw [e6]; rfl
  refine ⟨_, _, _, _, _, rfl, rfl, rfl, rfl, rfl, rfl, i0, i1, i2, i3, i4, i5, i6, g3, ?_, ?_⟩
  · rw [hx, x3, x2, y2, x1, y1]; rfl
  · rw [hy, y3, x2, y2, x1, y1]; rfl

/-! the program's point out of bytes -/

theorem ptL_eOf {xs : List Int} (h : InB (BB 32) xs) : eOf (ptL xs) = ⟨xF (eF xs) (sgB xs), eF xs, 1, xF (eF xs) (sgB xs) * eF xs⟩ := by
  obtain ⟨h1, h2, h3, h4⟩ := ptL_val h
  unfold eOf
  rw [h1, h2, h3, h4]

theorem ptL_ok {xs : List Int} (h : InB (BB 32) xs) (hp : isPt xs) : (eOf (ptL xs)).ok dF ∧ (eOf (ptL xs)).pt.x = xF (eF xs) (sgB xs) ∧ (eOf (ptL xs)).pt.y = eF xs := by
  rw [ptL_eOf h]
  refine ⟨⟨Pt.one_ok (dec_on hp), ?_⟩, (Pt.one_x _ _).1, (Pt.one_x _ _).2⟩
  show xF (eF xs) (sgB xs) * eF xs = 1 * (xF (eF xs) (sgB xs) * eF xs)
  rw [Fin.one_mul]

theorem eOf_nz {xs : List Int} (h : (eOf xs).ok dF) : nz xs := nz_of (Pt.nz h.1)

/-- bytes of a point of the program -/
theorem byt_val {xs : List Int} : sp_byt.f xs = encB (eOf xs).pt.x (eOf xs).pt.y := rfl

/-- four sums, and whether two points are one -/
def f_iSums (xs : List Int) : List Int :=
  let x1 := xF (eF (xs.take 32)) (sgB (xs.take 32)); let y1 := eF (xs.take 32)
  let x2 := xF (eF (xs.drop 32)) (sgB (xs.drop 32)); let y2 := eF (xs.drop 32)
  [if x1 = x2 ∧ y1 = y2 then 1 else 0] ++ (encB (aX dF x1 y1 x2 y2) (aY dF x1 y1 x2 y2) ++ (encB (aX dF x1 y1 (-x2) y2) (aY dF x1 y1 (-x2) y2) ++ (encB (-x1) y1 ++ encB (eight x1 y1).1 (eight x1 y1).2)))

def sp_iSums : SemP := ⟨f_iSums, fun xs => (InB (BB 32) (xs.take 32) ∧ isPt (xs.take 32)) ∧ (InB (BB 32) (xs.drop 32) ∧ isPt (xs.drop 32))⟩

end Go.X
