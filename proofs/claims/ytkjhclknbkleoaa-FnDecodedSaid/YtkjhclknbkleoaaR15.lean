/-
  A part of the proof of Ytkjhclknbkleoaa: texts LP1, LP2, LP3. No conditions.
-/
import Derived.Test.YtkjhclknbkleoaaR14
set_option maxRecDepth 20000
namespace Go.X.Y
open Go.Proofs
def T_chk : Tmpl := ⟨100, [.one (.lf (.slc 0 0 1 none))], [[.ptr 1 0], (us .u64 0 20)], 20, 0, true, .tup [], [none, none], []⟩
def g_chk_0 : List (Nat × Ins) := [(20, .eqs false (vs 0 5) (ls 0 5))]
def p_chk_0 : Out := ⟨.tup [], [[.ptr 1 0], (us .u64 0 20)], ⟨g_chk_0, 21, [.cond (.v 20) false], [], []⟩⟩
theorem r_chk_0 : runBody Try.prog [] [] Try.f100 60 T_chk.args T_chk.mem T_chk.nin [false] = some p_chk_0 := by kernel_rfl
def ft_chk_0 : Fit := ⟨[], []⟩
theorem w_chk_0 : (fitsB T_chk p_chk_0 ft_chk_0 && wfS T_chk.nin p_chk_0.g.ssa p_chk_0.g.n) = true := by kernel_rfl
theorem E_chk_0 {F : Fns} {v : Nat → Int} (h : StHold F v (rawSt p_chk_0.g.ssa)) : (v 20 = b2i ((seg v 0 5) == ([0, 0, 0, 0, 0]))) := Eq.mp (by kernel_rfl) h
theorem A_chk_0 {pr : Prs} {v : Nat → Int} (h : ((v 20 != 0) = false) ∧ True) : HoldL pr v p_chk_0.g.asm := Eq.mp (by kernel_rfl) h

def g_chk_1 : List (Nat × Ins) := [(21, .eqs false (vs 5 5) (ls 0 5)),
  (20, .eqs false (vs 0 5) (ls 0 5))]
def p_chk_1 : Out := ⟨.tup [], [[.ptr 1 0], (us .u64 0 20)], ⟨g_chk_1, 22, [.cond (.v 21) false, .cond (.v 20) true], [], []⟩⟩
theorem r_chk_1 : runBody Try.prog [] [] Try.f100 60 T_chk.args T_chk.mem T_chk.nin [true, false] = some p_chk_1 := by kernel_rfl
def ft_chk_1 : Fit := ⟨[], []⟩
theorem w_chk_1 : (fitsB T_chk p_chk_1 ft_chk_1 && wfS T_chk.nin p_chk_1.g.ssa p_chk_1.g.n) = true := by kernel_rfl
theorem E_chk_1 {F : Fns} {v : Nat → Int} (h : StHold F v (rawSt p_chk_1.g.ssa)) : (v 20 = b2i ((seg v 0 5) == ([0, 0, 0, 0, 0]))) ∧ (v 21 = b2i ((seg v 5 5) == ([0, 0, 0, 0, 0]))) := Eq.mp (by kernel_rfl) h
theorem A_chk_1 {pr : Prs} {v : Nat → Int} (h : ((v 21 != 0) = false) ∧ ((v 20 != 0) = true) ∧ True) : HoldL pr v p_chk_1.g.asm := Eq.mp (by kernel_rfl) h

def T_pSet : Tmpl := ⟨57, [.one (.lf (.ptr 1 0)), .one (.lf (.slc 0 0 32 none))], [(us .u8 0 32), [.any, .any, .any, .any, .any, .any, .any, .any, .any, .any, .any, .any, .any, .any, .any, .any, .any, .any, .any, .any]], 32, 15, true, .tup [.lf (.ptr 1 0), .lf (.cst .nilIface)], [none, some ((us .u64 32 10) ++ [.int .u64 (.l 1), .int .u64 (.l 0), .int .u64 (.l 0), .int .u64 (.l 0), .int .u64 (.l 0)] ++ (us .u64 42 5))], []⟩
def g_pSet_0 : List (Nat × Ins) := (List.flatten [apps 0 ((vs 76 5) ++ (vs 32 5)) 81 5, apps 13 ((vs 69 5) ++ (vs 63 5) ++ [(.v 75)]) 76 5, [(75, .conv .i64 (.v 74)), (74, .op2 .shr .u8 (.v 31) (.l 7))], apps 9 (vs 63 5) 69 5, [(68, .op2 .eql .i64 (.v 62) (.l 0))], apps 15 ((vs 42 5) ++ (vs 57 5)) 62 6, apps 6 ((vs 52 5) ++ [(.l 1)] ++ (ls 0 4)) 57 5, apps 0 ((vs 37 5) ++ (vs 47 5)) 52 5, apps 17 [] 47 5, apps 7 ((vs 37 5) ++ [(.l 1)] ++ (ls 0 4)) 42 5, apps 3 (vs 32 5) 37 5, apps 14 (vs 0 32) 32 5])
def p_pSet_0 : Out := ⟨.tup [.lf (.ptr 1 0), .lf (.cst .nilIface)], [(us .u8 0 32), (List.flatten [us .u64 76 5, us .u64 32 5, [.int .u64 (.l 1), .int .u64 (.l 0), .int .u64 (.l 0), .int .u64 (.l 0), .int .u64 (.l 0)], us .u64 81 5]), (us .u64 32 5), (us .u64 37 5), (us .u64 42 5), [.int .u64 (.l 1), .int .u64 (.l 0), .int .u64 (.l 0), .int .u64 (.l 0), .int .u64 (.l 0)], (us .u64 57 5), (us .u64 47 5), [.int .u64 (.l 1), .int .u64 (.l 0), .int .u64 (.l 0), .int .u64 (.l 0), .int .u64 (.l 0)], (us .u64 76 5), (us .u64 69 5)], ⟨g_pSet_0, 86, [.pre 0 ((vs 76 5) ++ (vs 32 5)), .pre 10 [], .pre 11 (vs 32 5), .pre 11 (vs 76 5), .pre 13 ((vs 69 5) ++ (vs 63 5) ++ [(.v 75)]), .pre 9 (vs 63 5), .cond (.v 68) false, .pre 15 ((vs 42 5) ++ (vs 57 5)), .pre 6 ((vs 52 5) ++ [(.l 1)] ++ (ls 0 4)), .pre 16 [], .pre 0 ((vs 37 5) ++ (vs 47 5)), .pre 17 [], .pre 7 ((vs 37 5) ++ [(.l 1)] ++ (ls 0 4)), .pre 16 [], .pre 3 (vs 32 5), .pre 14 (vs 0 32)], [], [1, 1, 1, 1, 9, 10, 9, 6, 6, 4, 3, 2]⟩⟩
theorem r_pSet_0 : runBody Try.prog [T_Mul, T_Mulx, T_Muly, T_Sq, T_Sqx, T_Add, T_Addx, T_Sub, T_Subx, T_Neg, T_One, T_Set, T_Sel, T_Sely, T_SetBytes, T_SqrtRatio, T_feOneP, T_dP, T_errNew] [] Try.f57 60 T_pSet.args T_pSet.mem T_pSet.nin [false] = some p_pSet_0 := by kernel_rfl
def ft_pSet_0 : Fit := ⟨((vs 76 5) ++ (vs 32 5) ++ (vs 81 5)), []⟩
theorem w_pSet_0 : (fitsB T_pSet p_pSet_0 ft_pSet_0 && wfS T_pSet.nin p_pSet_0.g.ssa p_pSet_0.g.n) = true := by kernel_rfl
theorem E_pSet_0 {F : Fns} {v : Nat → Int} (h : StHold F v (rawSt p_pSet_0.g.ssa)) : (seg v 32 5 = gets (F 14 (seg v 0 32)) 0 5) ∧ (seg v 37 5 = gets (F 3 (seg v 32 5)) 0 5) ∧ (seg v 42 5 = gets (F 7 (seg v 37 5 ++ [1, 0, 0, 0, 0])) 0 5) ∧ (seg v 47 5 = gets (F 17 ([] : List Int)) 0 5) ∧ (seg v 52 5 = gets (F 0 (seg v 37 5 ++ seg v 47 5)) 0 5) ∧ (seg v 57 5 = gets (F 6 (seg v 52 5 ++ [1, 0, 0, 0, 0])) 0 5) ∧ (seg v 62 6 = gets (F 15 (seg v 42 5 ++ seg v 57 5)) 0 6) ∧ (v 68 = op2 .eql .i64 (v 62) 0) ∧ (seg v 69 5 = gets (F 9 (seg v 63 5)) 0 5) ∧ (v 74 = op2 .shr .u8 (v 31) 7) ∧ (v 75 = IntKind.wrap .i64 (v 74)) ∧ (seg v 76 5 = gets (F 13 (seg v 69 5 ++ seg v 63 5 ++ [v 75])) 0 5) ∧ (seg v 81 5 = gets (F 0 (seg v 76 5 ++ seg v 32 5)) 0 5) := Eq.mp (by kernel_rfl) h
theorem A_pSet_0 {pr : Prs} {v : Nat → Int} (h : (pr 0 (seg v 76 5 ++ seg v 32 5)) ∧ (pr 10 ([] : List Int)) ∧ (pr 11 (seg v 32 5)) ∧ (pr 11 (seg v 76 5)) ∧ (pr 13 (seg v 69 5 ++ seg v 63 5 ++ [v 75])) ∧ (pr 9 (seg v 63 5)) ∧ ((v 68 != 0) = false) ∧ (pr 15 (seg v 42 5 ++ seg v 57 5)) ∧ (pr 6 (seg v 52 5 ++ [1, 0, 0, 0, 0])) ∧ (pr 16 ([] : List Int)) ∧ (pr 0 (seg v 37 5 ++ seg v 47 5)) ∧ (pr 17 ([] : List Int)) ∧ (pr 7 (seg v 37 5 ++ [1, 0, 0, 0, 0])) ∧ (pr 16 ([] : List Int)) ∧ (pr 3 (seg v 32 5)) ∧ (pr 14 (seg v 0 32)) ∧ True) : HoldL pr v p_pSet_0.g.asm := Eq.mp (by kernel_rfl) h

def T_pByt_ : Tmpl := ⟨83, [.one (.lf (.ptr 0 0)), .one (.lf (.ptr 1 0))], [(us .u64 0 20), [.any, .any, .any, .any, .any, .any, .any, .any, .any, .any, .any, .any, .any, .any, .any, .any, .any, .any, .any, .any, .any, .any, .any, .any, .any, .any, .any, .any, .any, .any, .any, .any]], 20, 32, true, .one (.lf (.slc 1 0 32 (some 32))), [none, some (us .u8 20 32)], []⟩
def g_pByt__0 : List (Nat × Ins) := (List.flatten [[(70, .op2 .or .u8 (.v 66) (.v 69)), (69, .conv .u8 (.v 68)), (68, .op2 .shl .i64 (.v 67) (.l 7)), (67, .app 3 (vs 25 5) 0)], apps 6 (vs 30 5) 35 32, apps 0 ((vs 5 5) ++ (vs 20 5)) 30 5, apps 0 ((vs 0 5) ++ (vs 20 5)) 25 5, apps 4 (vs 10 5) 20 5])
def p_pByt__0 : Out := ⟨.one (.lf (.slc 1 0 32 (some 32))), [(us .u64 0 20), ((us .u8 35 31) ++ [.int .u8 (.v 70)]), [.ptr 0 0], (us .u64 20 5), (us .u64 25 5), (us .u64 30 5)], ⟨g_pByt__0, 71, [.pre 3 (vs 25 5), .pre 6 (vs 30 5), .pre 0 ((vs 5 5) ++ (vs 20 5)), .pre 0 ((vs 0 5) ++ (vs 20 5)), .pre 4 (vs 10 5), .pre 7 (vs 0 20)], [], [1, 1, 5, 4, 3]⟩⟩
theorem r_pByt__0 : runBody Try.prog [T_Mul, T_Mulx, T_Muly, T_IsNeg, T_Invert, T_Invertx, T_cpEl, T_chk] [] Try.f83 60 T_pByt_.args T_pByt_.mem T_pByt_.nin [] = some p_pByt__0 := by kernel_rfl
def ft_pByt__0 : Fit := ⟨((vs 35 31) ++ [(.v 70)]), []⟩
theorem w_pByt__0 : (fitsB T_pByt_ p_pByt__0 ft_pByt__0 && wfS T_pByt_.nin p_pByt__0.g.ssa p_pByt__0.g.n) = true := by kernel_rfl
theorem E_pByt__0 {F : Fns} {v : Nat → Int} (h : StHold F v (rawSt p_pByt__0.g.ssa)) : (seg v 20 5 = gets (F 4 (seg v 10 5)) 0 5) ∧ (seg v 25 5 = gets (F 0 (seg v 0 5 ++ seg v 20 5)) 0 5) ∧ (seg v 30 5 = gets (F 0 (seg v 5 5 ++ seg v 20 5)) 0 5) ∧ (seg v 35 32 = gets (F 6 (seg v 30 5)) 0 32) ∧ (v 67 = (F 3 (seg v 25 5)).getD 0 0) ∧ (v 68 = op2 .shl .i64 (v 67) 7) ∧ (v 69 = IntKind.wrap .u8 (v 68)) ∧ (v 70 = op2 .or .u8 (v 66) (v 69)) := Eq.mp (by kernel_rfl) h
theorem A_pByt__0 {pr : Prs} {v : Nat → Int} (h : (pr 3 (seg v 25 5)) ∧ (pr 6 (seg v 30 5)) ∧ (pr 0 (seg v 5 5 ++ seg v 20 5)) ∧ (pr 0 (seg v 0 5 ++ seg v 20 5)) ∧ (pr 4 (seg v 10 5)) ∧ (pr 7 (seg v 0 20)) ∧ True) : HoldL pr v p_pByt__0.g.asm := Eq.mp (by kernel_rfl) h

def T_pMon_ : Tmpl := ⟨84, [.one (.lf (.ptr 0 0)), .one (.lf (.ptr 1 0))], [(us .u64 0 20), [.any, .any, .any, .any, .any, .any, .any, .any, .any, .any, .any, .any, .any, .any, .any, .any, .any, .any, .any, .any, .any, .any, .any, .any, .any, .any, .any, .any, .any, .any, .any, .any]], 20, 32, true, .one (.lf (.slc 1 0 32 (some 32))), [none, some (us .u8 20 32)], []⟩
def g_pMon__0 : List (Nat × Ins) := (List.flatten [apps 9 (vs 35 5) 40 32, apps 0 ((vs 20 5) ++ (vs 30 5)) 35 5, apps 8 (vs 25 5) 30 5, apps 5 ((vs 10 5) ++ (vs 5 5)) 25 5, apps 3 ((vs 10 5) ++ (vs 5 5)) 20 5])
def p_pMon__0 : Out := ⟨.one (.lf (.slc 1 0 32 (some 32))), [(us .u64 0 20), (us .u8 40 32), [.ptr 0 0], (us .u64 20 5), (us .u64 30 5), (us .u64 35 5)], ⟨g_pMon__0, 72, [.pre 9 (vs 35 5), .pre 0 ((vs 20 5) ++ (vs 30 5)), .pre 8 (vs 25 5), .pre 5 ((vs 10 5) ++ (vs 5 5)), .pre 3 ((vs 10 5) ++ (vs 5 5)), .pre 10 (vs 0 20)], [], [1, 5, 4, 4, 3]⟩⟩
theorem r_pMon__0 : runBody Try.prog [T_Mul, T_Mulx, T_Muly, T_Add, T_Addx, T_Sub, T_Subx, T_Invert, T_Invertx, T_cpEl, T_chk] [] Try.f84 60 T_pMon_.args T_pMon_.mem T_pMon_.nin [] = some p_pMon__0 := by kernel_rfl
def ft_pMon__0 : Fit := ⟨(vs 40 32), []⟩
theorem w_pMon__0 : (fitsB T_pMon_ p_pMon__0 ft_pMon__0 && wfS T_pMon_.nin p_pMon__0.g.ssa p_pMon__0.g.n) = true := by kernel_rfl
theorem E_pMon__0 {F : Fns} {v : Nat → Int} (h : StHold F v (rawSt p_pMon__0.g.ssa)) : (seg v 20 5 = gets (F 3 (seg v 10 5 ++ seg v 5 5)) 0 5) ∧ (seg v 25 5 = gets (F 5 (seg v 10 5 ++ seg v 5 5)) 0 5) ∧ (seg v 30 5 = gets (F 8 (seg v 25 5)) 0 5) ∧ (seg v 35 5 = gets (F 0 (seg v 20 5 ++ seg v 30 5)) 0 5) ∧ (seg v 40 32 = gets (F 9 (seg v 35 5)) 0 32) := Eq.mp (by kernel_rfl) h
theorem A_pMon__0 {pr : Prs} {v : Nat → Int} (h : (pr 9 (seg v 35 5)) ∧ (pr 0 (seg v 20 5 ++ seg v 30 5)) ∧ (pr 8 (seg v 25 5)) ∧ (pr 5 (seg v 10 5 ++ seg v 5 5)) ∧ (pr 3 (seg v 10 5 ++ seg v 5 5)) ∧ (pr 10 (seg v 0 20)) ∧ True) : HoldL pr v p_pMon__0.g.asm := Eq.mp (by kernel_rfl) h

def T_pByt : Tmpl := ⟨58, [.one (.lf (.ptr 0 0))], [(us .u64 0 20)], 20, 32, true, .one (.lf (.slc 1 0 32 (some 32))), [none], [(us .u8 20 32)]⟩
def g_pByt_0 : List (Nat × Ins) := (apps 0 (vs 0 20) 20 32)
def p_pByt_0 : Out := ⟨.one (.lf (.slc 1 0 32 (some 32))), [(us .u64 0 20), (us .u8 20 32)], ⟨g_pByt_0, 52, [.pre 0 (vs 0 20)], [], [1]⟩⟩
theorem r_pByt_0 : runBody Try.prog [T_pByt_] [] Try.f58 60 T_pByt.args T_pByt.mem T_pByt.nin [] = some p_pByt_0 := by kernel_rfl
def ft_pByt_0 : Fit := ⟨(vs 20 32), [1]⟩
theorem w_pByt_0 : (fitsB T_pByt p_pByt_0 ft_pByt_0 && wfS T_pByt.nin p_pByt_0.g.ssa p_pByt_0.g.n) = true := by kernel_rfl
theorem E_pByt_0 {F : Fns} {v : Nat → Int} (h : StHold F v (rawSt p_pByt_0.g.ssa)) : (seg v 20 32 = gets (F 0 (seg v 0 20)) 0 32) := Eq.mp (by kernel_rfl) h
theorem A_pByt_0 {pr : Prs} {v : Nat → Int} (h : (pr 0 (seg v 0 20)) ∧ True) : HoldL pr v p_pByt_0.g.asm := Eq.mp (by kernel_rfl) h

def T_pMon : Tmpl := ⟨59, [.one (.lf (.ptr 0 0))], [(us .u64 0 20)], 20, 32, true, .one (.lf (.slc 1 0 32 (some 32))), [none], [(us .u8 20 32)]⟩
def g_pMon_0 : List (Nat × Ins) := (apps 0 (vs 0 20) 20 32)
def p_pMon_0 : Out := ⟨.one (.lf (.slc 1 0 32 (some 32))), [(us .u64 0 20), (us .u8 20 32)], ⟨g_pMon_0, 52, [.pre 0 (vs 0 20)], [], [1]⟩⟩
theorem r_pMon_0 : runBody Try.prog [T_pMon_] [] Try.f59 60 T_pMon.args T_pMon.mem T_pMon.nin [] = some p_pMon_0 := by kernel_rfl
def ft_pMon_0 : Fit := ⟨(vs 20 32), [1]⟩
theorem w_pMon_0 : (fitsB T_pMon p_pMon_0 ft_pMon_0 && wfS T_pMon.nin p_pMon_0.g.ssa p_pMon_0.g.n) = true := by kernel_rfl
theorem E_pMon_0 {F : Fns} {v : Nat → Int} (h : StHold F v (rawSt p_pMon_0.g.ssa)) : (seg v 20 32 = gets (F 0 (seg v 0 20)) 0 32) := Eq.mp (by kernel_rfl) h
theorem A_pMon_0 {pr : Prs} {v : Nat → Int} (h : (pr 0 (seg v 0 20)) ∧ True) : HoldL pr v p_pMon_0.g.asm := Eq.mp (by kernel_rfl) h

def T_pSetF : Tmpl := ⟨57, [.one (.lf (.ptr 1 0)), .one (.lf (.slc 0 0 32 none))], [(us .u8 0 32), [.any, .any, .any, .any, .any, .any, .any, .any, .any, .any, .any, .any, .any, .any, .any, .any, .any, .any, .any, .any]], 32, 0, true, .tup [.lf (.cst (.pointer none)), .lf (.ifp 117 2 0)], [none, none], [[.cst (.string ⟨#[101, 100, 119, 97, 114, 100, 115, 50, 53, 53, 49, 57, 58, 32, 105, 110, 118, 97, 108, 105, 100, 32, 112, 111, 105, 110, 116, 32, 101, 110, 99, 111, 100, 105, 110, 103]⟩)]]⟩
def g_pSetF_0 : List (Nat × Ins) := (List.flatten [[(68, .op2 .eql .i64 (.v 62) (.l 0))], apps 15 ((vs 42 5) ++ (vs 57 5)) 62 6, apps 6 ((vs 52 5) ++ [(.l 1)] ++ (ls 0 4)) 57 5, apps 0 ((vs 37 5) ++ (vs 47 5)) 52 5, apps 17 [] 47 5, apps 7 ((vs 37 5) ++ [(.l 1)] ++ (ls 0 4)) 42 5, apps 3 (vs 32 5) 37 5, apps 14 (vs 0 32) 32 5])
def p_pSetF_0 : Out := ⟨.tup [.lf (.cst (.pointer none)), .lf (.ifp 117 10 0)], [(us .u8 0 32), [.any, .any, .any, .any, .any, .any, .any, .any, .any, .any, .any, .any, .any, .any, .any, .any, .any, .any, .any, .any], (us .u64 32 5), (us .u64 37 5), (us .u64 42 5), [.int .u64 (.l 1), .int .u64 (.l 0), .int .u64 (.l 0), .int .u64 (.l 0), .int .u64 (.l 0)], (us .u64 57 5), (us .u64 47 5), [.int .u64 (.l 1), .int .u64 (.l 0), .int .u64 (.l 0), .int .u64 (.l 0), .int .u64 (.l 0)], (us .u64 63 5), [.cst (.string ⟨#[101, 100, 119, 97, 114, 100, 115, 50, 53, 53, 49, 57, 58, 32, 105, 110, 118, 97, 108, 105, 100, 32, 112, 111, 105, 110, 116, 32, 101, 110, 99, 111, 100, 105, 110, 103]⟩)]], ⟨g_pSetF_0, 69, [.pre 18 [], .cond (.v 68) true, .pre 15 ((vs 42 5) ++ (vs 57 5)), .pre 6 ((vs 52 5) ++ [(.l 1)] ++ (ls 0 4)), .pre 16 [], .pre 0 ((vs 37 5) ++ (vs 47 5)), .pre 17 [], .pre 7 ((vs 37 5) ++ [(.l 1)] ++ (ls 0 4)), .pre 16 [], .pre 3 (vs 32 5), .pre 14 (vs 0 32)], [], [9, 6, 6, 4, 3, 2]⟩⟩
theorem r_pSetF_0 : runBody Try.prog [T_Mul, T_Mulx, T_Muly, T_Sq, T_Sqx, T_Add, T_Addx, T_Sub, T_Subx, T_Neg, T_One, T_Set, T_Sel, T_Sely, T_SetBytes, T_SqrtRatio, T_feOneP, T_dP, T_errNew] [] Try.f57 60 T_pSetF.args T_pSetF.mem T_pSetF.nin [true] = some p_pSetF_0 := by kernel_rfl
def ft_pSetF_0 : Fit := ⟨[], [10]⟩
theorem w_pSetF_0 : (fitsB T_pSetF p_pSetF_0 ft_pSetF_0 && wfS T_pSetF.nin p_pSetF_0.g.ssa p_pSetF_0.g.n) = true := by kernel_rfl
theorem E_pSetF_0 {F : Fns} {v : Nat → Int} (h : StHold F v (rawSt p_pSetF_0.g.ssa)) : (seg v 32 5 = gets (F 14 (seg v 0 32)) 0 5) ∧ (seg v 37 5 = gets (F 3 (seg v 32 5)) 0 5) ∧ (seg v 42 5 = gets (F 7 (seg v 37 5 ++ [1, 0, 0, 0, 0])) 0 5) ∧ (seg v 47 5 = gets (F 17 ([] : List Int)) 0 5) ∧ (seg v 52 5 = gets (F 0 (seg v 37 5 ++ seg v 47 5)) 0 5) ∧ (seg v 57 5 = gets (F 6 (seg v 52 5 ++ [1, 0, 0, 0, 0])) 0 5) ∧ (seg v 62 6 = gets (F 15 (seg v 42 5 ++ seg v 57 5)) 0 6) ∧ (v 68 = op2 .eql .i64 (v 62) 0) := Eq.mp (by kernel_rfl) h
theorem A_pSetF_0 {pr : Prs} {v : Nat → Int} (h : (pr 18 ([] : List Int)) ∧ ((v 68 != 0) = true) ∧ (pr 15 (seg v 42 5 ++ seg v 57 5)) ∧ (pr 6 (seg v 52 5 ++ [1, 0, 0, 0, 0])) ∧ (pr 16 ([] : List Int)) ∧ (pr 0 (seg v 37 5 ++ seg v 47 5)) ∧ (pr 17 ([] : List Int)) ∧ (pr 7 (seg v 37 5 ++ [1, 0, 0, 0, 0])) ∧ (pr 16 ([] : List Int)) ∧ (pr 3 (seg v 32 5)) ∧ (pr 14 (seg v 0 32)) ∧ True) : HoldL pr v p_pSetF_0.g.asm := Eq.mp (by kernel_rfl) h

def T_pDecF : Tmpl := ⟨23, [.one (.lf (.slc 0 0 32 none))], [(us .u8 0 32)], 32, 0, true, .tup [.lf (.any), .lf (.any), .lf (.bool (.l 0))], [none], []⟩
def g_pDecF_0 : List (Nat × Ins) := []
def p_pDecF_0 : Out := ⟨.tup [.lf (.cst (.slice none 0 0)), .lf (.cst (.slice none 0 0)), .lf (.bool (.l 0))], [(us .u8 0 32), [.int .u64 (.l 0), .int .u64 (.l 0), .int .u64 (.l 0), .int .u64 (.l 0), .int .u64 (.l 0), .int .u64 (.l 0), .int .u64 (.l 0), .int .u64 (.l 0), .int .u64 (.l 0), .int .u64 (.l 0), .int .u64 (.l 0), .int .u64 (.l 0), .int .u64 (.l 0), .int .u64 (.l 0), .int .u64 (.l 0), .int .u64 (.l 0), .int .u64 (.l 0), .int .u64 (.l 0), .int .u64 (.l 0), .int .u64 (.l 0)], [.cst (.string ⟨#[101, 100, 119, 97, 114, 100, 115, 50, 53, 53, 49, 57, 58, 32, 105, 110, 118, 97, 108, 105, 100, 32, 112, 111, 105, 110, 116, 32, 101, 110, 99, 111, 100, 105, 110, 103]⟩)]], ⟨g_pDecF_0, 32, [.pre 2 (vs 0 32)], [], []⟩⟩
theorem r_pDecF_0 : runBody Try.prog [T_pByt, T_pMon, T_pSetF] [] Try.f23 60 T_pDecF.args T_pDecF.mem T_pDecF.nin [] = some p_pDecF_0 := by kernel_rfl
def ft_pDecF_0 : Fit := ⟨[], []⟩
theorem w_pDecF_0 : (fitsB T_pDecF p_pDecF_0 ft_pDecF_0 && wfS T_pDecF.nin p_pDecF_0.g.ssa p_pDecF_0.g.n) = true := by kernel_rfl
theorem A_pDecF_0 {pr : Prs} {v : Nat → Int} (h : (pr 2 (seg v 0 32)) ∧ True) : HoldL pr v p_pDecF_0.g.asm := Eq.mp (by kernel_rfl) h

def T_pDec : Tmpl := ⟨23, [.one (.lf (.slc 0 0 32 none))], [(us .u8 0 32)], 32, 64, true, .tup [.lf (.slc 1 0 32 (some 32)), .lf (.slc 2 0 32 (some 32)), .lf (.bool (.l 1))], [none], [(us .u8 32 32), (us .u8 64 32)]⟩
def g_pDec_0 : List (Nat × Ins) := ((apps 2 (List.flatten [vs 32 10, [(.l 1)], ls 0 4, vs 42 5]) 79 32) ++ (apps 1 (List.flatten [vs 32 10, [(.l 1)], ls 0 4, vs 42 5]) 47 32) ++ (apps 0 (vs 0 32) 32 15))
def p_pDec_0 : Out := ⟨.tup [.lf (.slc 2 0 32 (some 32)), .lf (.slc 3 0 32 (some 32)), .lf (.bool (.l 1))], [(us .u8 0 32), ((us .u64 32 10) ++ [.int .u64 (.l 1), .int .u64 (.l 0), .int .u64 (.l 0), .int .u64 (.l 0), .int .u64 (.l 0)] ++ (us .u64 42 5)), (us .u8 47 32), (us .u8 79 32)], ⟨g_pDec_0, 111, [.pre 2 (List.flatten [vs 32 10, [(.l 1)], ls 0 4, vs 42 5]), .pre 1 (List.flatten [vs 32 10, [(.l 1)], ls 0 4, vs 42 5]), .pre 0 (vs 0 32)], [false], [1]⟩⟩
theorem r_pDec_0 : runBody Try.prog [T_pSet, T_pByt, T_pMon] [] Try.f23 60 T_pDec.args T_pDec.mem T_pDec.nin [false] = some p_pDec_0 := by kernel_rfl
def ft_pDec_0 : Fit := ⟨(vs 47 64), [2, 3]⟩
theorem w_pDec_0 : (fitsB T_pDec p_pDec_0 ft_pDec_0 && wfS T_pDec.nin p_pDec_0.g.ssa p_pDec_0.g.n) = true := by kernel_rfl
theorem E_pDec_0 {F : Fns} {v : Nat → Int} (h : StHold F v (rawSt p_pDec_0.g.ssa)) : (seg v 32 15 = gets (F 0 (seg v 0 32)) 0 15) ∧ (seg v 47 32 = gets (F 1 (seg v 32 10 ++ [1, 0, 0, 0, 0] ++ seg v 42 5)) 0 32) ∧ (seg v 79 32 = gets (F 2 (seg v 32 10 ++ [1, 0, 0, 0, 0] ++ seg v 42 5)) 0 32) := Eq.mp (by kernel_rfl) h
theorem A_pDec_0 {pr : Prs} {v : Nat → Int} (h : (pr 2 (seg v 32 10 ++ [1, 0, 0, 0, 0] ++ seg v 42 5)) ∧ (pr 1 (seg v 32 10 ++ [1, 0, 0, 0, 0] ++ seg v 42 5)) ∧ (pr 0 (seg v 0 32)) ∧ True) : HoldL pr v p_pDec_0.g.asm := Eq.mp (by kernel_rfl) h

end Go.X.Y

set_option maxRecDepth 20000
namespace Go.X.Y
open Go.Proofs

/-! ### points: the program's functions -/

theorem out_of {l : List Int} {ft : List A} {ρ : Nat → Int} (h : l = ft.map (A.ev ρ)) (j : Nat) (a : A) (ha : ft[j]? = some a) : l.getD j 0 = a.ev ρ := by
  rw [h, List.getD_eq_getElem?_getD, List.getElem?_map, ha]; rfl

theorem seg_of {v : Nat → Int} {xs : List Int} {n : Nat} (hl : xs.length = n) (h : ∀ x, x < n → v x = xs.getD x 0) : seg v 0 n = xs := by
  have := seg_xs (v := v) (xs := xs) n 0 (by omega) (fun x hx => h x (by omega))
  rw [this]; rfl

theorem encB_len (x y : Fp) : (encB x y).length = 32 := by
  unfold encB
  by_cases h : x.val % 2 = 1
  · rw [if_pos h, List.length_append, List.length_take, bB_len, List.length_singleton]; decide
  · rw [if_neg h]; exact bB_len _

theorem good_chk (W : World0 Try.prog) : GoodP W T_chk sp_chk := by
  refine lawP_sound (ts := []) (l := []) (W := W) trivial (by decide) Try.func100 Try.call100 (by kernel_rfl) rfl ?_
  intro xs hlen hx
  have hx : nz xs := hx
  by_cases h0 : xs.take 5 = ZZ5
  · refine ⟨_, _, _, _, r_chk_1, w_chk_1, ?_⟩
    intro ρ hin hst
    obtain ⟨e20, e21⟩ := E_chk_1 hst
    have hs := seg_of (n := 20) hlen hin
    have s0 : seg ρ 0 5 = xs.take 5 := by rw [← hs, seg_take _ (by decide)]
    have s1 : seg ρ 5 5 = (xs.drop 5).take 5 := by rw [← hs, seg_drop _ (by decide), seg_take _ (by decide)]
    have h1 : ¬ (xs.drop 5).take 5 = ZZ5 := fun e => hx ⟨h0, e⟩
    rw [s0, b2i_beq] at e20
    rw [s1, b2i_beq] at e21
    have e20 : ρ 20 = 1 := e20.trans (if_pos h0)
    have e21 : ρ 21 = 0 := e21.trans (if_neg h1)
    exact ⟨out_of rfl, A_chk_1 ⟨by rw [e21]; rfl, by rw [e20]; rfl, trivial⟩⟩
  · refine ⟨_, _, _, _, r_chk_0, w_chk_0, ?_⟩
    intro ρ hin hst
    have e20 := E_chk_0 hst
    have hs := seg_of (n := 20) hlen hin
    have s0 : seg ρ 0 5 = xs.take 5 := by rw [← hs, seg_take _ (by decide)]
    rw [s0, b2i_beq] at e20
    have e20 : ρ 20 = 0 := e20.trans (if_neg h0)
    exact ⟨out_of rfl, A_chk_0 ⟨by rw [e20]; rfl, trivial⟩⟩

theorem good_pByt_ (W : World0 Try.prog) : GoodP W T_pByt_ sp_byt := by
  refine lawP_sound (ts := [T_Mul, T_Mulx, T_Muly, T_IsNeg, T_Invert, T_Invertx, T_cpEl, T_chk]) (l := [s_feMulG.toP, s_feMulG.toP, s_feMulG.toP, s_IsNeg.toP, s_Invert.toP, s_Invert.toP, s_cpEl.toP, sp_chk]) (W := W)
    ⟨(good_Mul W).toP, (good_Mulx W).toP, (good_Muly W).toP, (good_IsNeg W).toP, (good_Invert W).toP, (good_Invertx W).toP, (good_cpEl W).toP, good_chk W, trivial⟩ (by decide) Try.func83 Try.call83 (by kernel_rfl) rfl ?_
  intro xs hlen hx
  obtain ⟨hx, hnz⟩ : InB LB4 xs ∧ nz xs := hx
  refine ⟨_, _, _, _, r_pByt__0, w_pByt__0, ?_⟩
  intro ρ hin hst
  obtain ⟨e20, e25, e30, e35, e67, e68, e69, e70⟩ := E_pByt__0 hst
  clear hst
  have hs := seg_of (n := 20) hlen hin
  obtain ⟨⟨bX, fX⟩, ⟨bY, fY⟩, ⟨bZ, fZ⟩, -⟩ := pt_parts hx hs
  obtain ⟨fi, bi⟩ := invLB bZ
  have e20 : seg ρ 20 5 = gets (s_Invert.f (seg ρ 10 5)) 0 5 := e20
  rw [gets5 bi rfl] at e20
  rw [← e20, fZ] at fi; rw [← e20] at bi
  obtain ⟨fx, bx⟩ := mulLB bX bi
  have e25 : seg ρ 25 5 = gets (s_feMulG.f (seg ρ 0 5 ++ seg ρ 20 5)) 0 5 := e25
  rw [gets5 bx rfl] at e25
  rw [← e25, fX, fi] at fx; rw [← e25] at bx
  obtain ⟨fy, b_y⟩ := mulLB bY bi
  have e30 : seg ρ 30 5 = gets (s_feMulG.f (seg ρ 5 5 ++ seg ρ 20 5)) 0 5 := e30
  rw [gets5 b_y rfl] at e30
  rw [← e30, fY, fi] at fy; rw [← e30] at b_y
  have e35 : seg ρ 35 32 = gets (s_cpEl.f (seg ρ 30 5)) 0 32 := e35
  have hcp : s_cpEl.f (seg ρ 30 5) = bB (pY xs * inv (pZ xs)) := by
    obtain ⟨v, -, hin', h5, -, hf⟩ := E_cpEl (seg ρ 30 5) b_y
    rw [hin', bytesF b_y fy, gets_all (bB_len _)] at h5
    rw [hf, h5]
  rw [hcp, gets_all (bB_len _)] at e35
  have e67 : ρ 67 = (s_IsNeg.f (seg ρ 25 5)).getD 0 0 := e67
  rw [IsNeg_val _ bx, List.getD_cons_zero, ← φ_val, fx] at e67
  have e67 : ρ 67 = if (pX xs * inv (pZ xs)).val % 2 = 1 then 1 else 0 := by
    rw [e67]
    by_cases h : (pX xs * inv (pZ xs)).val % 2 = 1
    · rw [if_pos h]; omega
    · rw [if_neg h]; omega
  rw [e69, e68] at e70
  have ho := enc_out e35 e67 e70
  refine ⟨out_of (ρ := ρ) (ft := ft_pByt__0.outs) ?_, A_pByt__0 ⟨?_, ?_, ?_, ?_, ?_, ?_, trivial⟩⟩
  · have hf : sp_byt.f xs = encB (pX xs * inv (pZ xs)) (pY xs * inv (pZ xs)) := rfl
    rw [hf]
    have h1 : ∀ v : Nat → Int, ft_pByt__0.outs.map (A.ev v) = seg v 35 31 ++ [v 70] := fun v => by kernel_rfl
    rw [← ho, h1]
  · exact bx
  · exact b_y
  · exact InB.append bY bi
  · exact InB.append bX bi
  · exact bZ
  · show nz (seg ρ 0 20)
    rw [hs]; exact hnz

theorem good_pMon_ (W : World0 Try.prog) : GoodP W T_pMon_ sp_mon := by
  refine lawP_sound (ts := [T_Mul, T_Mulx, T_Muly, T_Add, T_Addx, T_Sub, T_Subx, T_Invert, T_Invertx, T_cpEl, T_chk]) (l := [s_feMulG.toP, s_feMulG.toP, s_feMulG.toP, s_Add.toP, s_Add.toP, s_Sub.toP, s_Sub.toP, s_Invert.toP, s_Invert.toP, s_cpEl.toP, sp_chk]) (W := W)
    ⟨(good_Mul W).toP, (good_Mulx W).toP, (good_Muly W).toP, (good_Add W).toP, (good_Addx W).toP, (good_Sub W).toP, (good_Subx W).toP, (good_Invert W).toP, (good_Invertx W).toP, (good_cpEl W).toP, good_chk W, trivial⟩ (by decide) Try.func84 Try.call84 (by kernel_rfl) rfl ?_
  intro xs hlen hx
  obtain ⟨hx, hnz⟩ : InB LB4 xs ∧ nz xs := hx
  refine ⟨_, _, _, _, r_pMon__0, w_pMon__0, ?_⟩
  intro ρ hin hst
  obtain ⟨e20, e25, e30, e35, e40⟩ := E_pMon__0 hst
  clear hst
  have hs := seg_of (n := 20) hlen hin
  obtain ⟨-, ⟨bY, fY⟩, ⟨bZ, fZ⟩, -⟩ := pt_parts hx hs
  obtain ⟨f1, b1⟩ := addLB bZ bY
  have e20 : seg ρ 20 5 = gets (s_Add.f (seg ρ 10 5 ++ seg ρ 5 5)) 0 5 := e20
  rw [gets5 b1 rfl] at e20
  rw [← e20, fZ, fY] at f1; rw [← e20] at b1
  obtain ⟨f2, b2⟩ := subLB bZ bY
  have e25 : seg ρ 25 5 = gets (s_Sub.f (seg ρ 10 5 ++ seg ρ 5 5)) 0 5 := e25
  rw [gets5 b2 rfl] at e25
  rw [← e25, fZ, fY] at f2; rw [← e25] at b2
  obtain ⟨f3, b3⟩ := invLB b2
  have e30 : seg ρ 30 5 = gets (s_Invert.f (seg ρ 25 5)) 0 5 := e30
  rw [gets5 b3 rfl] at e30
  rw [← e30, f2] at f3; rw [← e30] at b3
  obtain ⟨f4, b4⟩ := mulLB b1 b3
  have e35 : seg ρ 35 5 = gets (s_feMulG.f (seg ρ 20 5 ++ seg ρ 30 5)) 0 5 := e35
  rw [gets5 b4 rfl] at e35
  rw [← e35, f1, f3] at f4; rw [← e35] at b4
  have e40 : seg ρ 40 32 = gets (s_cpEl.f (seg ρ 35 5)) 0 32 := e40
  have hcp : s_cpEl.f (seg ρ 35 5) = bB ((pZ xs + pY xs) * inv (pZ xs - pY xs)) := by
    obtain ⟨v, -, hin', h5, -, hf⟩ := E_cpEl (seg ρ 35 5) b4
    rw [hin', bytesF b4 f4, gets_all (bB_len _)] at h5
    rw [hf, h5]
  rw [hcp, gets_all (bB_len _)] at e40
  refine ⟨out_of (ρ := ρ) (ft := ft_pMon__0.outs) ?_, A_pMon__0 ⟨?_, ?_, ?_, ?_, ?_, ?_, trivial⟩⟩
  · have hf : sp_mon.f xs = bB ((pZ xs + pY xs) * inv (pZ xs - pY xs)) := rfl
    rw [hf]
    have h1 : ∀ v : Nat → Int, ft_pMon__0.outs.map (A.ev v) = seg v 40 32 := fun v => by kernel_rfl
    rw [← e40, h1]
  · exact b4
  · exact InB.append b1 b3
  · exact b2
  · exact InB.append bZ bY
  · exact InB.append bZ bY
  · show nz (seg ρ 0 20)
    rw [hs]; exact hnz

theorem good_pByt (W : World0 Try.prog) : GoodP W T_pByt sp_byt := by
  refine lawP_sound (ts := [T_pByt_]) (l := [sp_byt]) (W := W) ⟨good_pByt_ W, trivial⟩ (by decide) Try.func58 Try.call58 (by kernel_rfl) rfl ?_
  intro xs hlen hx
  refine ⟨_, _, _, _, r_pByt_0, w_pByt_0, ?_⟩
  intro ρ hin hst
  have e20 := E_pByt_0 hst
  have hs := seg_of (n := 20) hlen hin
  have e20 : seg ρ 20 32 = gets (sp_byt.f (seg ρ 0 20)) 0 32 := e20
  have hl : (sp_byt.f xs).length = 32 := encB_len _ _
  rw [hs, gets_all hl] at e20
  refine ⟨out_of (ρ := ρ) (ft := ft_pByt_0.outs) ?_, A_pByt_0 ⟨?_, trivial⟩⟩
  · have h1 : ∀ v : Nat → Int, ft_pByt_0.outs.map (A.ev v) = seg v 20 32 := fun v => by kernel_rfl
    rw [← e20, h1]
  · show sp_byt.pre (seg ρ 0 20)
    rw [hs]; exact hx

theorem good_pMon (W : World0 Try.prog) : GoodP W T_pMon sp_mon := by
  refine lawP_sound (ts := [T_pMon_]) (l := [sp_mon]) (W := W) ⟨good_pMon_ W, trivial⟩ (by decide) Try.func59 Try.call59 (by kernel_rfl) rfl ?_
  intro xs hlen hx
  refine ⟨_, _, _, _, r_pMon_0, w_pMon_0, ?_⟩
  intro ρ hin hst
  have e20 := E_pMon_0 hst
  have hs := seg_of (n := 20) hlen hin
  have e20 : seg ρ 20 32 = gets (sp_mon.f (seg ρ 0 20)) 0 32 := e20
  rw [hs, gets_all (show (sp_mon.f xs).length = 32 from bB_len _)] at e20
  refine ⟨out_of (ρ := ρ) (ft := ft_pMon_0.outs) ?_, A_pMon_0 ⟨?_, trivial⟩⟩
  · have h1 : ∀ v : Nat → Int, ft_pMon_0.outs.map (A.ev v) = seg v 20 32 := fun v => by kernel_rfl
    rw [← e20, h1]
  · show sp_mon.pre (seg ρ 0 20)
    rw [hs]; exact hx

end Go.X.Y

set_option maxRecDepth 20000
namespace Go.X.Y
open Go.Proofs

theorem shr7 {a : Int} (h : 0 ≤ a ∧ a < 256) : IntKind.wrap .i64 (op2 .shr .u8 a 7) = a / 128 := by
  have e : op2 .shr .u8 a 7 = a.fdiv (2 ^ min (7 : Int).toNat 8) := rfl
  have e2 : (2 : Int) ^ min (7 : Int).toNat 8 = 128 := by decide
  rw [e, e2, Int.fdiv_eq_ediv_of_nonneg _ (by decide), IntKind.wrap_i64]
  omega

theorem eql0 {P : Prop} [Decidable P] {t u : Int} (ht : t = if P then 1 else 0) (hu : u = op2 .eql .i64 t 0) : (u != 0) = !decide P := by
  by_cases h : P
  · rw [if_pos h] at ht
    subst ht hu
    rw [decide_eq_true h]; rfl
  · rw [if_neg h] at ht
    subst ht hu
    rw [decide_eq_false h]; rfl

section
variable {ρ : Nat → Int} {xs : List Int}

/-- the way to the root, common to both ends -/
theorem set_head (hx : InB (BB 32) xs) (hs : seg ρ 0 32 = xs)
    (e32 : seg ρ 32 5 = gets (s_SetBytes.f (seg ρ 0 32)) 0 5) (e37 : seg ρ 37 5 = gets (s_feSqG.f (seg ρ 32 5)) 0 5) (e42 : seg ρ 42 5 = gets (s_Sub.f (seg ρ 37 5 ++ one5)) 0 5)
    (e47 : seg ρ 47 5 = gets (s_dP.f []) 0 5) (e52 : seg ρ 52 5 = gets (s_feMulG.f (seg ρ 37 5 ++ seg ρ 47 5)) 0 5) (e57 : seg ρ 57 5 = gets (s_Add.f (seg ρ 52 5 ++ one5)) 0 5)
    (e62 : seg ρ 62 6 = gets (s_SqrtRatio.f (seg ρ 42 5 ++ seg ρ 57 5)) 0 6) :
    seg ρ 32 5 = qY xs ∧ seg ρ 37 5 = qY2 xs ∧ seg ρ 42 5 = qU xs ∧ seg ρ 47 5 = s_dP.f [] ∧ seg ρ 52 5 = s_feMulG.f (qY2 xs ++ s_dP.f []) ∧ seg ρ 57 5 = qV xs ∧ ρ 62 = (qR xs).getD 0 0 ∧ seg ρ 63 5 = (qR xs).drop 1 := by
  obtain ⟨b1, ⟨bu, -⟩, ⟨bd, bm⟩, ⟨bv, -⟩⟩ := qUV_val hx
  obtain ⟨lR, -⟩ := qR_val hx
  have by_ := (qY_val hx).1
  rw [hs] at e32
  have e32 : seg ρ 32 5 = gets (qY xs) 0 5 := e32
  rw [gets5 by_ rfl] at e32
  rw [e32] at e37
  have e37 : seg ρ 37 5 = gets (qY2 xs) 0 5 := e37
  rw [gets5 b1 rfl] at e37
  rw [e37] at e42
  have e42 : seg ρ 42 5 = gets (qU xs) 0 5 := e42
  rw [gets5 bu rfl] at e42
  rw [gets5 bd rfl] at e47
  rw [e37, e47, gets5 bm rfl] at e52
  rw [e52] at e57
  have e57 : seg ρ 57 5 = gets (qV xs) 0 5 := e57
  rw [gets5 bv rfl] at e57
  rw [e42, e57] at e62
  have e62 : seg ρ 62 6 = gets (qR xs) 0 6 := e62
  rw [gets_all lR] at e62
  refine ⟨e32, e37, e42, e47, e52, e57, ?_, ?_⟩
  · rw [← e62, seg_getD 0 (by decide)]
  · rw [← e62, seg_drop _ (by decide)]

end

theorem good_pSet (W : World0 Try.prog) : GoodP W T_pSet sp_set := by
  refine lawP_sound (ts := [T_Mul, T_Mulx, T_Muly, T_Sq, T_Sqx, T_Add, T_Addx, T_Sub, T_Subx, T_Neg, T_One, T_Set, T_Sel, T_Sely, T_SetBytes, T_SqrtRatio, T_feOneP, T_dP, T_errNew])
    (l := [s_feMulG.toP, s_feMulG.toP, s_feMulG.toP, s_feSqG.toP, s_feSqG.toP, s_Add.toP, s_Add.toP, s_Sub.toP, s_Sub.toP, s_Neg.toP, s_One.toP, s_Set.toP, s_Sel.toP, s_Sel.toP, s_SetBytes.toP, s_SqrtRatio.toP, s_feOneP.toP, s_dP.toP, s_errNew.toP]) (W := W)
    ⟨(good_Mul W).toP, (good_Mulx W).toP, (good_Muly W).toP, (good_Sq W).toP, (good_Sqx W).toP, (good_Add W).toP, (good_Addx W).toP, (good_Sub W).toP, (good_Subx W).toP, (good_Neg W).toP, (good_One W).toP, (good_Set W).toP, (good_Sel W).toP, (good_Sely W).toP, (good_SetBytes W).toP, (good_SqrtRatio W).toP, (good_feOneP W).toP, (good_dP W).toP, (good_errNew W).toP, trivial⟩ (by decide) Try.func57 Try.call57 (by kernel_rfl) rfl ?_
  intro xs hlen hx
  obtain ⟨hx, hp⟩ : InB (BB 32) xs ∧ isPt xs := hx
  refine ⟨_, _, _, _, r_pSet_0, w_pSet_0, ?_⟩
  intro ρ hin hst
  obtain ⟨e32, e37, e42, e47, e52, e57, e62, e68, e69, e74, e75, e76, e81⟩ := E_pSet_0 hst
  clear hst
  have hs := seg_of (n := 32) hlen hin
  obtain ⟨k32, k37, k42, k47, k52, k57, k62, k63⟩ := set_head hx hs e32 e37 e42 e47 e52 e57 e62
  clear e32 e37 e42 e47 e52 e57 e62
  obtain ⟨b1, ⟨bu, -⟩, ⟨bd, bm⟩, ⟨bv, -⟩⟩ := qUV_val hx
  obtain ⟨-, okR, bR, -⟩ := qR_val hx
  have by_ := (qY_val hx).1
  have bX := (qX_val hx).1
  have bT := (qT_in hx).1
  rw [okR] at k62
  have e68 := eql0 k62 e68
  rw [decide_eq_true (show okF (uF (eF xs)) (vF (eF xs)) from hp)] at e68
  have hN := negLB bR
  have e69 : seg ρ 69 5 = gets (s_Neg.f (seg ρ 63 5)) 0 5 := e69
  rw [k63, gets5 hN.2 rfl] at e69
  have d0 : InD 256 (seg ρ 0 32) := by rw [hs]; exact BB_in hx
  have t31 : 0 ≤ ρ 31 ∧ ρ 31 < 256 := seg_InD d0 31 (by decide) (by decide)
  have tb := top_bit d0
  have tb : ρ 31 / 128 = ofD 256 (seg ρ 0 32) / 57896044618658097711785492504343953926634992332820282019728792003956564819968 := tb
  rw [hs] at tb
  rw [e74, shr7 t31, tb] at e75
  have e75 : ρ 75 = sgB xs := e75
  have e76 : seg ρ 76 5 = gets (s_Sel.f (seg ρ 69 5 ++ seg ρ 63 5 ++ [ρ 75])) 0 5 := e76
  rw [e69, k63, e75] at e76
  have e76 : seg ρ 76 5 = gets (qX xs) 0 5 := e76
  rw [gets5 bX rfl] at e76
  have e81 : seg ρ 81 5 = gets (s_feMulG.f (seg ρ 76 5 ++ seg ρ 32 5)) 0 5 := e81
  rw [e76, k32] at e81
  have e81 : seg ρ 81 5 = gets (qT xs) 0 5 := e81
  rw [gets5 bT rfl] at e81
  have hsg : 0 ≤ sgB xs ∧ sgB xs ≤ 1 := by rcases sgB_01 hx with h | h <;> omega
  refine ⟨out_of (ρ := ρ) (ft := ft_pSet_0.outs) ?_, A_pSet_0 ⟨?_, trivial, ?_, ?_, ?_, ?_, e68, ?_, ?_, trivial, ?_, trivial, ?_, trivial, ?_, ?_, trivial⟩⟩
  · have h1 : ∀ v : Nat → Int, ft_pSet_0.outs.map (A.ev v) = seg v 76 5 ++ seg v 32 5 ++ seg v 81 5 := fun v => by kernel_rfl
    rw [h1, e76, k32, e81]; rfl
  · rw [e76, k32]; exact InB.append bX by_
  · rw [k32]; exact by_
  · rw [e76]; exact bX
  · rw [e69, k63, e75]; exact InB.append (a := LB ++ LB) (b := [(0, 1)]) (InB.append hN.2 bR) ⟨hsg.1, hsg.2, trivial⟩
  · rw [k63]; exact bR
  · rw [k42, k57]; exact InB.append bu bv
  · rw [k52]; exact InB.append bm one5_in
  · rw [k37, k47]; exact InB.append b1 bd
  · rw [k37]; exact InB.append b1 one5_in
  · rw [k32]; exact by_
  · rw [hs]; exact hx

theorem good_pSetF (W : World0 Try.prog) : GoodP W T_pSetF sp_setF := by
  refine lawP_sound (ts := [T_Mul, T_Mulx, T_Muly, T_Sq, T_Sqx, T_Add, T_Addx, T_Sub, T_Subx, T_Neg, T_One, T_Set, T_Sel, T_Sely, T_SetBytes, T_SqrtRatio, T_feOneP, T_dP, T_errNew])
    (l := [s_feMulG.toP, s_feMulG.toP, s_feMulG.toP, s_feSqG.toP, s_feSqG.toP, s_Add.toP, s_Add.toP, s_Sub.toP, s_Sub.toP, s_Neg.toP, s_One.toP, s_Set.toP, s_Sel.toP, s_Sel.toP, s_SetBytes.toP, s_SqrtRatio.toP, s_feOneP.toP, s_dP.toP, s_errNew.toP]) (W := W)
    ⟨(good_Mul W).toP, (good_Mulx W).toP, (good_Muly W).toP, (good_Sq W).toP, (good_Sqx W).toP, (good_Add W).toP, (good_Addx W).toP, (good_Sub W).toP, (good_Subx W).toP, (good_Neg W).toP, (good_One W).toP, (good_Set W).toP, (good_Sel W).toP, (good_Sely W).toP, (good_SetBytes W).toP, (good_SqrtRatio W).toP, (good_feOneP W).toP, (good_dP W).toP, (good_errNew W).toP, trivial⟩ (by decide) Try.func57 Try.call57 (by kernel_rfl) rfl ?_
  intro xs hlen hx
  obtain ⟨hx, hp⟩ : InB (BB 32) xs ∧ ¬ isPt xs := hx
  refine ⟨_, _, _, _, r_pSetF_0, w_pSetF_0, ?_⟩
  intro ρ hin hst
  obtain ⟨e32, e37, e42, e47, e52, e57, e62, e68⟩ := E_pSetF_0 hst
  clear hst
  have hs := seg_of (n := 32) hlen hin
  obtain ⟨k32, k37, k42, k47, k52, k57, k62, k63⟩ := set_head hx hs e32 e37 e42 e47 e52 e57 e62
  clear e32 e37 e42 e47 e52 e57 e62
  obtain ⟨b1, ⟨bu, -⟩, ⟨bd, bm⟩, ⟨bv, -⟩⟩ := qUV_val hx
  obtain ⟨-, okR, -, -⟩ := qR_val hx
  have by_ := (qY_val hx).1
  rw [okR] at k62
  have e68 := eql0 k62 e68
  rw [decide_eq_false (show ¬ okF (uF (eF xs)) (vF (eF xs)) from hp)] at e68
  refine ⟨out_of (ρ := ρ) (ft := ft_pSetF_0.outs) rfl, A_pSetF_0 ⟨trivial, e68, ?_, ?_, trivial, ?_, trivial, ?_, trivial, ?_, ?_, trivial⟩⟩
  · rw [k42, k57]; exact InB.append bu bv
  · rw [k52]; exact InB.append bm one5_in
  · rw [k37, k47]; exact InB.append b1 bd
  · rw [k37]; exact InB.append b1 one5_in
  · rw [k32]; exact by_
  · rw [hs]; exact hx

/-! impl.Decoded -/

theorem dec_pt {xs : List Int} (hx : InB (BB 32) xs) (hp : isPt xs) : InB LB4 (qX xs ++ (qY xs ++ (one5 ++ qT xs))) ∧ nz (qX xs ++ (qY xs ++ (one5 ++ qT xs))) ∧ pX (qX xs ++ (qY xs ++ (one5 ++ qT xs))) = xF (eF xs) (sgB xs) ∧ pY (qX xs ++ (qY xs ++ (one5 ++ qT xs))) = eF xs ∧ pZ (qX xs ++ (qY xs ++ (one5 ++ qT xs))) = 1 := by
  obtain ⟨bX, fX⟩ := qX_val hx
  obtain ⟨b_y, fY⟩ := qY_val hx
  obtain ⟨bT, fT⟩ := qT_in hx
  have lX : (qX xs).length = 5 := bX.len
  have lY : (qY xs).length = 5 := b_y.len
  have t0 : (qX xs ++ (qY xs ++ (one5 ++ qT xs))).take 5 = qX xs := List.take_left' lX
  have d5 : (qX xs ++ (qY xs ++ (one5 ++ qT xs))).drop 5 = qY xs ++ (one5 ++ qT xs) := List.drop_left' lX
  have t1 : (qY xs ++ (one5 ++ qT xs)).take 5 = qY xs := List.take_left' lY
  have d10 : (qX xs ++ (qY xs ++ (one5 ++ qT xs))).drop 10 = one5 ++ qT xs := by
    rw [show 10 = 5 + 5 from rfl, ← List.drop_drop, d5]; exact List.drop_left' lY
  have t2 : (one5 ++ qT xs).take 5 = one5 := List.take_left' rfl
  refine ⟨InB.append bX (InB.append b_y (InB.append one5_in bT)), ?_, ?_, ?_, ?_⟩
  · unfold nz
    rw [t0, d5, t1]
    exact xy_nz hx hp
  · unfold pX; rw [t0]; exact fX
  · unfold pY; rw [d5, t1]; exact fY
  · unfold pZ; rw [d10, t2]; exact one5_φ

theorem inv_one : inv 1 = 1 := by
  have := inv_mul one_ne
  have g : ∀ b : Fp, 1 * b = 1 → b = 1 := by intro b h; grind
  exact g _ this

theorem mul_one_F (x : Fp) : x * 1 = x := by grind

theorem good_pDec (W : World0 Try.prog) : GoodP W T_pDec sp_dec := by
  refine lawP_sound (ts := [T_pSet, T_pByt, T_pMon]) (l := [sp_set, sp_byt, sp_mon]) (W := W) ⟨good_pSet W, good_pByt W, good_pMon W, trivial⟩ (by decide) Try.func23 Try.call23 (by kernel_rfl) rfl ?_
  intro xs hlen hx
  obtain ⟨hx, hp⟩ : InB (BB 32) xs ∧ isPt xs := hx
  refine ⟨_, _, _, _, r_pDec_0, w_pDec_0, ?_⟩
  intro ρ hin hst
  obtain ⟨e32, e47, e79⟩ := E_pDec_0 hst
  clear hst
  have hs := seg_of (n := 32) hlen hin
  obtain ⟨hP, hz, fX, fY, fZ⟩ := dec_pt hx hp
  have bX := (qX_val hx).1
  have b_y := (qY_val hx).1
  have bT := (qT_in hx).1
  have e32 : seg ρ 32 15 = gets (qX (seg ρ 0 32) ++ qY (seg ρ 0 32) ++ qT (seg ρ 0 32)) 0 15 := e32
  have l15 : (qX xs ++ qY xs ++ qT xs).length = 15 := (InB.append (InB.append bX b_y) bT).len
  rw [hs, gets_all l15] at e32
  obtain ⟨s1, s2⟩ := seg_two (n := 10) (m := 5) e32 (InB.append bX b_y).len
  have s2 : seg ρ 42 5 = qT xs := s2
  have ea : seg ρ 32 10 ++ [1, 0, 0, 0, 0] ++ seg ρ 42 5 = qX xs ++ (qY xs ++ (one5 ++ qT xs)) := by
    rw [s1, s2, List.append_assoc, List.append_assoc]; rfl
  have e47 : seg ρ 47 32 = gets (sp_byt.f (seg ρ 32 10 ++ [1, 0, 0, 0, 0] ++ seg ρ 42 5)) 0 32 := e47
  have e79 : seg ρ 79 32 = gets (sp_mon.f (seg ρ 32 10 ++ [1, 0, 0, 0, 0] ++ seg ρ 42 5)) 0 32 := e79
  have v1 : sp_byt.f (qX xs ++ (qY xs ++ (one5 ++ qT xs))) = encB (xF (eF xs) (sgB xs)) (eF xs) := by
    have : sp_byt.f (qX xs ++ (qY xs ++ (one5 ++ qT xs))) = encB (pX (qX xs ++ (qY xs ++ (one5 ++ qT xs))) * inv (pZ (qX xs ++ (qY xs ++ (one5 ++ qT xs))))) (pY (qX xs ++ (qY xs ++ (one5 ++ qT xs))) * inv (pZ (qX xs ++ (qY xs ++ (one5 ++ qT xs))))) := rfl
    rw [this, fX, fY, fZ, inv_one, mul_one_F, mul_one_F]
  have v2 : sp_mon.f (qX xs ++ (qY xs ++ (one5 ++ qT xs))) = bB ((1 + eF xs) * inv (1 - eF xs)) := by
    have : sp_mon.f (qX xs ++ (qY xs ++ (one5 ++ qT xs))) = bB ((pZ (qX xs ++ (qY xs ++ (one5 ++ qT xs))) + pY (qX xs ++ (qY xs ++ (one5 ++ qT xs)))) * inv (pZ (qX xs ++ (qY xs ++ (one5 ++ qT xs))) - pY (qX xs ++ (qY xs ++ (one5 ++ qT xs))))) := rfl
    rw [this, fY, fZ]
  rw [ea, v1, gets_all (encB_len _ _)] at e47
  rw [ea, v2, gets_all (bB_len _)] at e79
  refine ⟨out_of (ρ := ρ) (ft := ft_pDec_0.outs) ?_, A_pDec_0 ⟨?_, ?_, ?_, trivial⟩⟩
  · have h1 : ∀ v : Nat → Int, ft_pDec_0.outs.map (A.ev v) = seg v 47 64 := fun v => by kernel_rfl
    have h2 : seg ρ 47 64 = seg ρ 47 32 ++ seg ρ 79 32 := seg_add ρ 32 32 47
    rw [h1, h2, e47, e79]; rfl
  · rw [ea]; exact ⟨hP, hz⟩
  · rw [ea]; exact ⟨hP, hz⟩
  · show sp_set.pre (seg ρ 0 32)
    rw [hs]; exact ⟨hx, hp⟩

theorem good_pDecF (W : World0 Try.prog) : GoodP W T_pDecF sp_decF := by
  refine lawP_sound (ts := [T_pByt, T_pMon, T_pSetF]) (l := [sp_byt, sp_mon, sp_setF]) (W := W) ⟨good_pByt W, good_pMon W, good_pSetF W, trivial⟩ (by decide) Try.func23 Try.call23 (by kernel_rfl) rfl ?_
  intro xs hlen hx
  refine ⟨_, _, _, _, r_pDecF_0, w_pDecF_0, ?_⟩
  intro ρ hin _
  have hs := seg_of (n := 32) hlen hin
  refine ⟨out_of (ρ := ρ) (ft := ft_pDecF_0.outs) rfl, A_pDecF_0 ⟨?_, trivial⟩⟩
  show sp_setF.pre (seg ρ 0 32)
  rw [hs]; exact hx

end Go.X.Y
