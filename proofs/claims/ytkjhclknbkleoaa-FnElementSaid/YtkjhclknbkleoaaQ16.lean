/-
  A part of the proof of Ytkjhclknbkleoaa: texts LE1, LE2. No conditions.
-/
import Derived.Test.YtkjhclknbkleoaaQ15
set_option maxRecDepth 20000
namespace Go.X.Y
open Go.Proofs
def T_FnElement : Tmpl := ⟨4, [.one (.lf (.gho 0)), .one (.lf (.gho 1)), .one (.lf (.int .u32 (.v 0)))], [], 1, 1, true, .one (.lf (.bool (.v 1))), [], []⟩
def g_FnElement_0 : List (Nat × Ins) := [(2, .op2 .gtr .i64 (.v 1) (.l 2147483647)),
  (1, .app 1000000 [] 0)]
def p_FnElement_0 : Out := ⟨.one (.lf (.bool (.l 1))), [], ⟨g_FnElement_0, 3, [.cond (.v 2) true], [], []⟩⟩
theorem r_FnElement_0 : runBody Try.prog [T_NBytes, T_Of32, T_Of64, T_Field, T_FAdd, T_FSub, T_FMul, T_FNeg, T_Odd, T_same32, T_Inv, T_sz64r, T_ElSums, T_szA, T_szB] [] Try.f4 400 T_FnElement.args T_FnElement.mem T_FnElement.nin [true] = some p_FnElement_0 := by kernel_rfl
def ft_FnElement_0 : Fit := ⟨[(.l 1)], []⟩
theorem w_FnElement_0 : (fitsB T_FnElement p_FnElement_0 ft_FnElement_0 && wfS T_FnElement.nin p_FnElement_0.g.ssa p_FnElement_0.g.n) = true := by kernel_rfl
theorem E_FnElement_0 {F : Fns} {v : Nat → Int} (h : StHold F v (rawSt p_FnElement_0.g.ssa)) : (v 1 = (F 1000000 []).getD 0 0) ∧ (v 2 = op2 .gtr .i64 (v 1) 2147483647) := Eq.mp (by kernel_rfl) h
theorem A_FnElement_0 {pr : Prs} {v : Nat → Int} (h : ((v 2 != 0) = true) ∧ True) : HoldL pr v p_FnElement_0.g.asm := Eq.mp (by kernel_rfl) h

def g_FnElement_1 : List (Nat × Ins) := [(4, .op2 .gtr .i64 (.v 3) (.l 2147483647)),
  (3, .app 1000001 [] 0),
  (2, .op2 .gtr .i64 (.v 1) (.l 2147483647)),
  (1, .app 1000000 [] 0)]
def p_FnElement_1 : Out := ⟨.one (.lf (.bool (.l 1))), [], ⟨g_FnElement_1, 5, [.cond (.v 4) true, .cond (.v 2) false], [], []⟩⟩
theorem r_FnElement_1 : runBody Try.prog [T_NBytes, T_Of32, T_Of64, T_Field, T_FAdd, T_FSub, T_FMul, T_FNeg, T_Odd, T_same32, T_Inv, T_sz64r, T_ElSums, T_szA, T_szB] [] Try.f4 400 T_FnElement.args T_FnElement.mem T_FnElement.nin [false, true] = some p_FnElement_1 := by kernel_rfl
def ft_FnElement_1 : Fit := ⟨[(.l 1)], []⟩
theorem w_FnElement_1 : (fitsB T_FnElement p_FnElement_1 ft_FnElement_1 && wfS T_FnElement.nin p_FnElement_1.g.ssa p_FnElement_1.g.n) = true := by kernel_rfl
theorem E_FnElement_1 {F : Fns} {v : Nat → Int} (h : StHold F v (rawSt p_FnElement_1.g.ssa)) : (v 1 = (F 1000000 []).getD 0 0) ∧ (v 2 = op2 .gtr .i64 (v 1) 2147483647) ∧ (v 3 = (F 1000001 []).getD 0 0) ∧ (v 4 = op2 .gtr .i64 (v 3) 2147483647) := Eq.mp (by kernel_rfl) h
theorem A_FnElement_1 {pr : Prs} {v : Nat → Int} (h : ((v 4 != 0) = true) ∧ ((v 2 != 0) = false) ∧ True) : HoldL pr v p_FnElement_1.g.asm := Eq.mp (by kernel_rfl) h

def g_FnElement_2 : List (Nat × Ins) := (List.flatten [[(1077, .ite (.v 248) (.v 1075) (.v 1076)), (1076, .ite (.v 1074) (.l 0) (.l 1)), (1075, .ite (.v 1074) (.l 1) (.l 0)), (1074, .eqs false (vs 87 16) (vs 103 16)), (1073, .ite (.v 247) (.v 1071) (.v 1072)), (1072, .ite (.v 1070) (.l 0) (.l 1)), (1071, .ite (.v 1070) (.l 1) (.l 0)), (1070, .app 8 (vs 87 16) 0), (1069, .ite (.v 1068) (.l 0) (.l 1)), (1068, .app 9 ((vs 537 32) ++ (vs 1036 32)) 0)], apps 0 (vs 714 16) 1036 32, [(1035, .ite (.v 1034) (.l 0) (.l 1)), (1034, .app 9 ((vs 505 32) ++ (vs 1002 32)) 0)], apps 0 (vs 697 16) 1002 32, [(1001, .ite (.v 1000) (.l 0) (.l 1)), (1000, .app 9 ((vs 473 32) ++ (vs 968 32)) 0)], apps 0 (vs 665 16) 968 32, [(967, .ite (.v 966) (.l 0) (.l 1)), (966, .app 9 ((vs 441 32) ++ (vs 934 32)) 0)], apps 0 (vs 649 16) 934 32, [(933, .ite (.v 932) (.l 0) (.l 1)), (932, .app 9 ((vs 409 32) ++ (vs 900 32)) 0)], apps 0 (vs 633 16) 900 32, [(899, .ite (.v 898) (.l 0) (.l 1)), (898, .app 9 ((vs 377 32) ++ (vs 866 32)) 0)], apps 0 (vs 617 16) 866 32, [(865, .ite (.v 864) (.l 0) (.l 1)), (864, .app 9 ((vs 345 32) ++ (vs 832 32)) 0)], apps 0 (vs 601 16) 832 32, [(831, .ite (.v 830) (.l 0) (.l 1)), (830, .app 9 ((vs 313 32) ++ (vs 798 32)) 0)], apps 0 (vs 585 16) 798 32, [(797, .ite (.v 796) (.l 0) (.l 1)), (796, .app 9 ((vs 281 32) ++ (vs 764 32)) 0)], apps 0 (vs 569 16) 764 32, [(763, .ite (.v 762) (.l 0) (.l 1)), (762, .app 9 ((vs 249 32) ++ (vs 730 32)) 0)], apps 0 (vs 87 16) 730 32, apps 7 (vs 87 16) 714 16, [(713, .app 8 (vs 87 16) 0)], apps 3 (vs 681 16) 697 16, apps 2 (vs 119 64) 681 16, apps 6 ((vs 87 16) ++ [(.v 0)] ++ (ls 0 15)) 665 16, apps 10 (vs 87 16) 649 16, apps 6 ((vs 87 16) ++ (vs 87 16)) 633 16, apps 6 (vs 87 32) 617 16, apps 7 (vs 87 16) 601 16, apps 5 (vs 87 32) 585 16, apps 4 (vs 87 32) 569 16, apps 12 ((vs 183 64) ++ (vs 119 64) ++ [(.v 0)]) 247 322, apps 14 [] 215 32, apps 13 [] 183 32, apps 14 [] 151 32, apps 13 [] 119 32, apps 3 ((vs 77 7) ++ [(.v 86)] ++ (ls 0 8)) 103 16, apps 3 ((vs 37 7) ++ [(.v 85)] ++ (ls 0 8)) 87 16, [(86, .op2 .and .u32 (.v 84) (.l 2147483647)), (85, .op2 .and .u32 (.v 44) (.l 2147483647))], apps 1 (vs 45 32) 77 8, apps 14 [] 45 32, apps 1 (vs 5 32) 37 8, apps 13 [] 5 32, [(4, .op2 .gtr .i64 (.v 3) (.l 2147483647)), (3, .app 1000001 [] 0), (2, .op2 .gtr .i64 (.v 1) (.l 2147483647)), (1, .app 1000000 [] 0)]])
def p_FnElement_2 : Out := ⟨.one (.lf (.bool (.v 1077))), [(us .u8 5 32), (us .u8 45 32), (us .u32 87 16), (us .u32 103 16), (us .u8 119 32), (us .u8 151 32), (us .u8 119 64), (us .u8 119 64), (us .u8 183 32), (us .u8 215 32), [.slc 11 0 32 (some 32), .slc 12 0 32 (some 32), .slc 13 0 32 (some 32), .slc 14 0 32 (some 32), .slc 15 0 32 (some 32), .slc 16 0 32 (some 32), .slc 17 0 32 (some 32), .slc 18 0 32 (some 32), .slc 19 0 32 (some 32), .slc 20 0 32 (some 32)], (us .u8 249 32), (us .u8 281 32), (us .u8 313 32), (us .u8 345 32), (us .u8 377 32), (us .u8 409 32), (us .u8 441 32), (us .u8 473 32), (us .u8 505 32), (us .u8 537 32), [.slc 10 0 10 (some 10), .bool (.v 247), .bool (.v 248)], (List.flatten [us .u32 87 16, us .u32 569 112, us .u32 697 16, us .u32 714 16]), (us .u32 87 16), (us .u8 730 32), (us .u32 569 16), (us .u8 764 32), (us .u32 585 16), (us .u8 798 32), (us .u32 601 16), (us .u8 832 32), (us .u32 617 16), (us .u8 866 32), (us .u32 633 16), (us .u8 900 32), (us .u32 649 16), (us .u8 934 32), (us .u32 665 16), (us .u8 968 32), (us .u32 697 16), (us .u8 1002 32), (us .u32 714 16), (us .u8 1036 32)], ⟨g_FnElement_2, 1078, [.cond (.v 1073) true, .pre 8 (vs 87 16), .cond (.v 1069) false, .pre 9 ((vs 537 32) ++ (vs 1036 32)), .pre 0 (vs 714 16), .cond (.v 1035) false, .pre 9 ((vs 505 32) ++ (vs 1002 32)), .pre 0 (vs 697 16), .cond (.v 1001) false, .pre 9 ((vs 473 32) ++ (vs 968 32)), .pre 0 (vs 665 16), .cond (.v 967) false, .pre 9 ((vs 441 32) ++ (vs 934 32)), .pre 0 (vs 649 16), .cond (.v 933) false, .pre 9 ((vs 409 32) ++ (vs 900 32)), .pre 0 (vs 633 16), .cond (.v 899) false, .pre 9 ((vs 377 32) ++ (vs 866 32)), .pre 0 (vs 617 16), .cond (.v 865) false, .pre 9 ((vs 345 32) ++ (vs 832 32)), .pre 0 (vs 601 16), .cond (.v 831) false, .pre 9 ((vs 313 32) ++ (vs 798 32)), .pre 0 (vs 585 16), .cond (.v 797) false, .pre 9 ((vs 281 32) ++ (vs 764 32)), .pre 0 (vs 569 16), .cond (.v 763) false, .pre 9 ((vs 249 32) ++ (vs 730 32)), .pre 0 (vs 87 16), .pre 7 (vs 87 16), .cond (.v 713) true, .pre 8 (vs 87 16), .pre 3 (vs 681 16), .pre 2 (vs 119 64), .pre 6 ((vs 87 16) ++ [(.v 0)] ++ (ls 0 15)), .pre 10 (vs 87 16), .pre 6 ((vs 87 16) ++ (vs 87 16)), .pre 6 (vs 87 32), .pre 7 (vs 87 16), .pre 5 (vs 87 32), .pre 4 (vs 87 32), .pre 12 ((vs 183 64) ++ (vs 119 64) ++ [(.v 0)]), .pre 14 [], .pre 13 [], .pre 11 (vs 119 64), .pre 14 [], .pre 13 [], .pre 3 ((vs 77 7) ++ [(.v 86)] ++ (ls 0 8)), .pre 3 ((vs 37 7) ++ [(.v 85)] ++ (ls 0 8)), .pre 1 (vs 45 32), .pre 14 [], .pre 1 (vs 5 32), .pre 13 [], .cond (.v 4) false, .cond (.v 2) false], [], [41, 39, 37, 35, 33, 31, 29, 27, 25, 23, 22, 21, 3, 2, 3, 2, 3, 2]⟩⟩
theorem r_FnElement_2 : runBody Try.prog [T_NBytes, T_Of32, T_Of64, T_Field, T_FAdd, T_FSub, T_FMul, T_FNeg, T_Odd, T_same32, T_Inv, T_sz64r, T_ElSums, T_szA, T_szB] [] Try.f4 400 T_FnElement.args T_FnElement.mem T_FnElement.nin [false, false, true, false, false, false, false, false, false, false, false, false, false, true] = some p_FnElement_2 := by kernel_rfl
def ft_FnElement_2 : Fit := ⟨[(.v 1077)], []⟩
theorem w_FnElement_2 : (fitsB T_FnElement p_FnElement_2 ft_FnElement_2 && wfS T_FnElement.nin p_FnElement_2.g.ssa p_FnElement_2.g.n) = true := by kernel_rfl
theorem E_FnElement_2 {F : Fns} {v : Nat → Int} (h : StHold F v (rawSt p_FnElement_2.g.ssa)) : (v 1 = (F 1000000 []).getD 0 0) ∧ (v 2 = op2 .gtr .i64 (v 1) 2147483647) ∧ (v 3 = (F 1000001 []).getD 0 0) ∧ (v 4 = op2 .gtr .i64 (v 3) 2147483647) ∧ (seg v 5 32 = gets (F 13 ([] : List Int)) 0 32) ∧ (seg v 37 8 = gets (F 1 (seg v 5 32)) 0 8) ∧ (seg v 45 32 = gets (F 14 ([] : List Int)) 0 32) ∧ (seg v 77 8 = gets (F 1 (seg v 45 32)) 0 8) ∧ (v 85 = op2 .and .u32 (v 44) 2147483647) ∧ (v 86 = op2 .and .u32 (v 84) 2147483647) ∧ (seg v 87 16 = gets (F 3 (seg v 37 7 ++ [v 85, 0, 0, 0, 0, 0, 0, 0, 0])) 0 16) ∧ (seg v 103 16 = gets (F 3 (seg v 77 7 ++ [v 86, 0, 0, 0, 0, 0, 0, 0, 0])) 0 16) ∧ (seg v 119 32 = gets (F 13 ([] : List Int)) 0 32) ∧ (seg v 151 32 = gets (F 14 ([] : List Int)) 0 32) ∧ (seg v 183 32 = gets (F 13 ([] : List Int)) 0 32) ∧ (seg v 215 32 = gets (F 14 ([] : List Int)) 0 32) ∧ (seg v 247 322 = gets (F 12 (seg v 183 64 ++ seg v 119 64 ++ [v 0])) 0 322) ∧ (seg v 569 16 = gets (F 4 (seg v 87 32)) 0 16) ∧ (seg v 585 16 = gets (F 5 (seg v 87 32)) 0 16) ∧ (seg v 601 16 = gets (F 7 (seg v 87 16)) 0 16) ∧ (seg v 617 16 = gets (F 6 (seg v 87 32)) 0 16) ∧ (seg v 633 16 = gets (F 6 (seg v 87 16 ++ seg v 87 16)) 0 16) ∧ (seg v 649 16 = gets (F 10 (seg v 87 16)) 0 16) ∧ (seg v 665 16 = gets (F 6 (seg v 87 16 ++ [v 0, 0, 0, 0, 0, 0, 0, 0, 0, 0, 0, 0, 0, 0, 0, 0])) 0 16) ∧ (seg v 681 16 = gets (F 2 (seg v 119 64)) 0 16) ∧ (seg v 697 16 = gets (F 3 (seg v 681 16)) 0 16) ∧ (v 713 = (F 8 (seg v 87 16)).getD 0 0) ∧ (seg v 714 16 = gets (F 7 (seg v 87 16)) 0 16) ∧ (seg v 730 32 = gets (F 0 (seg v 87 16)) 0 32) ∧ (v 762 = (F 9 (seg v 249 32 ++ seg v 730 32)).getD 0 0) ∧ (v 763 = (if v 762 ≠ 0 then 0 else 1)) ∧ (seg v 764 32 = gets (F 0 (seg v 569 16)) 0 32) ∧ (v 796 = (F 9 (seg v 281 32 ++ seg v 764 32)).getD 0 0) ∧ (v 797 = (if v 796 ≠ 0 then 0 else 1)) ∧ (seg v 798 32 = gets (F 0 (seg v 585 16)) 0 32) ∧ (v 830 = (F 9 (seg v 313 32 ++ seg v 798 32)).getD 0 0) ∧ (v 831 = (if v 830 ≠ 0 then 0 else 1)) ∧ (seg v 832 32 = gets (F 0 (seg v 601 16)) 0 32) ∧ (v 864 = (F 9 (seg v 345 32 ++ seg v 832 32)).getD 0 0) ∧ (v 865 = (if v 864 ≠ 0 then 0 else 1)) ∧ (seg v 866 32 = gets (F 0 (seg v 617 16)) 0 32) ∧ (v 898 = (F 9 (seg v 377 32 ++ seg v 866 32)).getD 0 0) ∧ (v 899 = (if v 898 ≠ 0 then 0 else 1)) ∧ (seg v 900 32 = gets (F 0 (seg v 633 16)) 0 32) ∧ (v 932 = (F 9 (seg v 409 32 ++ seg v 900 32)).getD 0 0) ∧ (v 933 = (if v 932 ≠ 0 then 0 else 1)) ∧ (seg v 934 32 = gets (F 0 (seg v 649 16)) 0 32) ∧ (v 966 = (F 9 (seg v 441 32 ++ seg v 934 32)).getD 0 0) ∧ (v 967 = (if v 966 ≠ 0 then 0 else 1)) ∧ (seg v 968 32 = gets (F 0 (seg v 665 16)) 0 32) ∧ (v 1000 = (F 9 (seg v 473 32 ++ seg v 968 32)).getD 0 0) ∧ (v 1001 = (if v 1000 ≠ 0 then 0 else 1)) ∧ (seg v 1002 32 = gets (F 0 (seg v 697 16)) 0 32) ∧ (v 1034 = (F 9 (seg v 505 32 ++ seg v 1002 32)).getD 0 0) ∧ (v 1035 = (if v 1034 ≠ 0 then 0 else 1)) ∧ (seg v 1036 32 = gets (F 0 (seg v 714 16)) 0 32) ∧ (v 1068 = (F 9 (seg v 537 32 ++ seg v 1036 32)).getD 0 0) ∧ (v 1069 = (if v 1068 ≠ 0 then 0 else 1)) ∧ (v 1070 = (F 8 (seg v 87 16)).getD 0 0) ∧ (v 1071 = (if v 1070 ≠ 0 then 1 else 0)) ∧ (v 1072 = (if v 1070 ≠ 0 then 0 else 1)) ∧ (v 1073 = (if v 247 ≠ 0 then v 1071 else v 1072)) ∧ (v 1074 = b2i ((seg v 87 16) == (seg v 103 16))) ∧ (v 1075 = (if v 1074 ≠ 0 then 1 else 0)) ∧ (v 1076 = (if v 1074 ≠ 0 then 0 else 1)) ∧ (v 1077 = (if v 248 ≠ 0 then v 1075 else v 1076)) := Eq.mp (by kernel_rfl) h
theorem A_FnElement_2 {pr : Prs} {v : Nat → Int} (h : ((v 1073 != 0) = true) ∧ (pr 8 (seg v 87 16)) ∧ ((v 1069 != 0) = false) ∧ (pr 9 (seg v 537 32 ++ seg v 1036 32)) ∧ (pr 0 (seg v 714 16)) ∧ ((v 1035 != 0) = false) ∧ (pr 9 (seg v 505 32 ++ seg v 1002 32)) ∧ (pr 0 (seg v 697 16)) ∧ ((v 1001 != 0) = false) ∧ (pr 9 (seg v 473 32 ++ seg v 968 32)) ∧ (pr 0 (seg v 665 16)) ∧ ((v 967 != 0) = false) ∧ (pr 9 (seg v 441 32 ++ seg v 934 32)) ∧ (pr 0 (seg v 649 16)) ∧ ((v 933 != 0) = false) ∧ (pr 9 (seg v 409 32 ++ seg v 900 32)) ∧ (pr 0 (seg v 633 16)) ∧ ((v 899 != 0) = false) ∧ (pr 9 (seg v 377 32 ++ seg v 866 32)) ∧ (pr 0 (seg v 617 16)) ∧ ((v 865 != 0) = false) ∧ (pr 9 (seg v 345 32 ++ seg v 832 32)) ∧ (pr 0 (seg v 601 16)) ∧ ((v 831 != 0) = false) ∧ (pr 9 (seg v 313 32 ++ seg v 798 32)) ∧ (pr 0 (seg v 585 16)) ∧ ((v 797 != 0) = false) ∧ (pr 9 (seg v 281 32 ++ seg v 764 32)) ∧ (pr 0 (seg v 569 16)) ∧ ((v 763 != 0) = false) ∧ (pr 9 (seg v 249 32 ++ seg v 730 32)) ∧ (pr 0 (seg v 87 16)) ∧ (pr 7 (seg v 87 16)) ∧ ((v 713 != 0) = true) ∧ (pr 8 (seg v 87 16)) ∧ (pr 3 (seg v 681 16)) ∧ (pr 2 (seg v 119 64)) ∧ (pr 6 (seg v 87 16 ++ [v 0, 0, 0, 0, 0, 0, 0, 0, 0, 0, 0, 0, 0, 0, 0, 0])) ∧ (pr 10 (seg v 87 16)) ∧ (pr 6 (seg v 87 16 ++ seg v 87 16)) ∧ (pr 6 (seg v 87 32)) ∧ (pr 7 (seg v 87 16)) ∧ (pr 5 (seg v 87 32)) ∧ (pr 4 (seg v 87 32)) ∧ (pr 12 (seg v 183 64 ++ seg v 119 64 ++ [v 0])) ∧ (pr 14 ([] : List Int)) ∧ (pr 13 ([] : List Int)) ∧ (pr 11 (seg v 119 64)) ∧ (pr 14 ([] : List Int)) ∧ (pr 13 ([] : List Int)) ∧ (pr 3 (seg v 77 7 ++ [v 86, 0, 0, 0, 0, 0, 0, 0, 0])) ∧ (pr 3 (seg v 37 7 ++ [v 85, 0, 0, 0, 0, 0, 0, 0, 0])) ∧ (pr 1 (seg v 45 32)) ∧ (pr 14 ([] : List Int)) ∧ (pr 1 (seg v 5 32)) ∧ (pr 13 ([] : List Int)) ∧ ((v 4 != 0) = false) ∧ ((v 2 != 0) = false) ∧ True) : HoldL pr v p_FnElement_2.g.asm := Eq.mp (by kernel_rfl) h

def g_FnElement_3 : List (Nat × Ins) := (List.flatten [[(1061, .ite (.v 248) (.v 1059) (.v 1060)), (1060, .ite (.v 1058) (.l 0) (.l 1)), (1059, .ite (.v 1058) (.l 1) (.l 0)), (1058, .eqs false (vs 87 16) (vs 103 16)), (1057, .ite (.v 247) (.v 1055) (.v 1056)), (1056, .ite (.v 1054) (.l 0) (.l 1)), (1055, .ite (.v 1054) (.l 1) (.l 0)), (1054, .app 8 (vs 87 16) 0), (1053, .ite (.v 1052) (.l 0) (.l 1)), (1052, .app 9 ((vs 537 32) ++ (vs 1020 32)) 0)], apps 0 (vs 87 16) 1020 32, [(1019, .ite (.v 1018) (.l 0) (.l 1)), (1018, .app 9 ((vs 505 32) ++ (vs 986 32)) 0)], apps 0 (vs 697 16) 986 32, [(985, .ite (.v 984) (.l 0) (.l 1)), (984, .app 9 ((vs 473 32) ++ (vs 952 32)) 0)], apps 0 (vs 665 16) 952 32, [(951, .ite (.v 950) (.l 0) (.l 1)), (950, .app 9 ((vs 441 32) ++ (vs 918 32)) 0)], apps 0 (vs 649 16) 918 32, [(917, .ite (.v 916) (.l 0) (.l 1)), (916, .app 9 ((vs 409 32) ++ (vs 884 32)) 0)], apps 0 (vs 633 16) 884 32, [(883, .ite (.v 882) (.l 0) (.l 1)), (882, .app 9 ((vs 377 32) ++ (vs 850 32)) 0)], apps 0 (vs 617 16) 850 32, [(849, .ite (.v 848) (.l 0) (.l 1)), (848, .app 9 ((vs 345 32) ++ (vs 816 32)) 0)], apps 0 (vs 601 16) 816 32, [(815, .ite (.v 814) (.l 0) (.l 1)), (814, .app 9 ((vs 313 32) ++ (vs 782 32)) 0)], apps 0 (vs 585 16) 782 32, [(781, .ite (.v 780) (.l 0) (.l 1)), (780, .app 9 ((vs 281 32) ++ (vs 748 32)) 0)], apps 0 (vs 569 16) 748 32, [(747, .ite (.v 746) (.l 0) (.l 1)), (746, .app 9 ((vs 249 32) ++ (vs 714 32)) 0)], apps 0 (vs 87 16) 714 32, [(713, .app 8 (vs 87 16) 0)], apps 3 (vs 681 16) 697 16, apps 2 (vs 119 64) 681 16, apps 6 ((vs 87 16) ++ [(.v 0)] ++ (ls 0 15)) 665 16, apps 10 (vs 87 16) 649 16, apps 6 ((vs 87 16) ++ (vs 87 16)) 633 16, apps 6 (vs 87 32) 617 16, apps 7 (vs 87 16) 601 16, apps 5 (vs 87 32) 585 16, apps 4 (vs 87 32) 569 16, apps 12 ((vs 183 64) ++ (vs 119 64) ++ [(.v 0)]) 247 322, apps 14 [] 215 32, apps 13 [] 183 32, apps 14 [] 151 32, apps 13 [] 119 32, apps 3 ((vs 77 7) ++ [(.v 86)] ++ (ls 0 8)) 103 16, apps 3 ((vs 37 7) ++ [(.v 85)] ++ (ls 0 8)) 87 16, [(86, .op2 .and .u32 (.v 84) (.l 2147483647)), (85, .op2 .and .u32 (.v 44) (.l 2147483647))], apps 1 (vs 45 32) 77 8, apps 14 [] 45 32, apps 1 (vs 5 32) 37 8, apps 13 [] 5 32, [(4, .op2 .gtr .i64 (.v 3) (.l 2147483647)), (3, .app 1000001 [] 0), (2, .op2 .gtr .i64 (.v 1) (.l 2147483647)), (1, .app 1000000 [] 0)]])
def p_FnElement_3 : Out := ⟨.one (.lf (.bool (.v 1061))), [(us .u8 5 32), (us .u8 45 32), (us .u32 87 16), (us .u32 103 16), (us .u8 119 32), (us .u8 151 32), (us .u8 119 64), (us .u8 119 64), (us .u8 183 32), (us .u8 215 32), [.slc 11 0 32 (some 32), .slc 12 0 32 (some 32), .slc 13 0 32 (some 32), .slc 14 0 32 (some 32), .slc 15 0 32 (some 32), .slc 16 0 32 (some 32), .slc 17 0 32 (some 32), .slc 18 0 32 (some 32), .slc 19 0 32 (some 32), .slc 20 0 32 (some 32)], (us .u8 249 32), (us .u8 281 32), (us .u8 313 32), (us .u8 345 32), (us .u8 377 32), (us .u8 409 32), (us .u8 441 32), (us .u8 473 32), (us .u8 505 32), (us .u8 537 32), [.slc 10 0 10 (some 10), .bool (.v 247), .bool (.v 248)], (List.flatten [us .u32 87 16, us .u32 569 112, us .u32 697 16, us .u32 87 16]), (us .u32 87 16), (us .u8 714 32), (us .u32 569 16), (us .u8 748 32), (us .u32 585 16), (us .u8 782 32), (us .u32 601 16), (us .u8 816 32), (us .u32 617 16), (us .u8 850 32), (us .u32 633 16), (us .u8 884 32), (us .u32 649 16), (us .u8 918 32), (us .u32 665 16), (us .u8 952 32), (us .u32 697 16), (us .u8 986 32), (us .u32 87 16), (us .u8 1020 32)], ⟨g_FnElement_3, 1062, [.cond (.v 1057) true, .pre 8 (vs 87 16), .cond (.v 1053) false, .pre 9 ((vs 537 32) ++ (vs 1020 32)), .pre 0 (vs 87 16), .cond (.v 1019) false, .pre 9 ((vs 505 32) ++ (vs 986 32)), .pre 0 (vs 697 16), .cond (.v 985) false, .pre 9 ((vs 473 32) ++ (vs 952 32)), .pre 0 (vs 665 16), .cond (.v 951) false, .pre 9 ((vs 441 32) ++ (vs 918 32)), .pre 0 (vs 649 16), .cond (.v 917) false, .pre 9 ((vs 409 32) ++ (vs 884 32)), .pre 0 (vs 633 16), .cond (.v 883) false, .pre 9 ((vs 377 32) ++ (vs 850 32)), .pre 0 (vs 617 16), .cond (.v 849) false, .pre 9 ((vs 345 32) ++ (vs 816 32)), .pre 0 (vs 601 16), .cond (.v 815) false, .pre 9 ((vs 313 32) ++ (vs 782 32)), .pre 0 (vs 585 16), .cond (.v 781) false, .pre 9 ((vs 281 32) ++ (vs 748 32)), .pre 0 (vs 569 16), .cond (.v 747) false, .pre 9 ((vs 249 32) ++ (vs 714 32)), .pre 0 (vs 87 16), .cond (.v 713) false, .pre 8 (vs 87 16), .pre 3 (vs 681 16), .pre 2 (vs 119 64), .pre 6 ((vs 87 16) ++ [(.v 0)] ++ (ls 0 15)), .pre 10 (vs 87 16), .pre 6 ((vs 87 16) ++ (vs 87 16)), .pre 6 (vs 87 32), .pre 7 (vs 87 16), .pre 5 (vs 87 32), .pre 4 (vs 87 32), .pre 12 ((vs 183 64) ++ (vs 119 64) ++ [(.v 0)]), .pre 14 [], .pre 13 [], .pre 11 (vs 119 64), .pre 14 [], .pre 13 [], .pre 3 ((vs 77 7) ++ [(.v 86)] ++ (ls 0 8)), .pre 3 ((vs 37 7) ++ [(.v 85)] ++ (ls 0 8)), .pre 1 (vs 45 32), .pre 14 [], .pre 1 (vs 5 32), .pre 13 [], .cond (.v 4) false, .cond (.v 2) false], [], [41, 39, 37, 35, 33, 31, 29, 27, 25, 23, 21, 3, 2, 3, 2, 3, 2]⟩⟩
theorem r_FnElement_3 : runBody Try.prog [T_NBytes, T_Of32, T_Of64, T_Field, T_FAdd, T_FSub, T_FMul, T_FNeg, T_Odd, T_same32, T_Inv, T_sz64r, T_ElSums, T_szA, T_szB] [] Try.f4 400 T_FnElement.args T_FnElement.mem T_FnElement.nin [false, false, false, false, false, false, false, false, false, false, false, false, false, true] = some p_FnElement_3 := by kernel_rfl
def ft_FnElement_3 : Fit := ⟨[(.v 1061)], []⟩
theorem w_FnElement_3 : (fitsB T_FnElement p_FnElement_3 ft_FnElement_3 && wfS T_FnElement.nin p_FnElement_3.g.ssa p_FnElement_3.g.n) = true := by kernel_rfl
theorem E_FnElement_3 {F : Fns} {v : Nat → Int} (h : StHold F v (rawSt p_FnElement_3.g.ssa)) : (v 1 = (F 1000000 []).getD 0 0) ∧ (v 2 = op2 .gtr .i64 (v 1) 2147483647) ∧ (v 3 = (F 1000001 []).getD 0 0) ∧ (v 4 = op2 .gtr .i64 (v 3) 2147483647) ∧ (seg v 5 32 = gets (F 13 ([] : List Int)) 0 32) ∧ (seg v 37 8 = gets (F 1 (seg v 5 32)) 0 8) ∧ (seg v 45 32 = gets (F 14 ([] : List Int)) 0 32) ∧ (seg v 77 8 = gets (F 1 (seg v 45 32)) 0 8) ∧ (v 85 = op2 .and .u32 (v 44) 2147483647) ∧ (v 86 = op2 .and .u32 (v 84) 2147483647) ∧ (seg v 87 16 = gets (F 3 (seg v 37 7 ++ [v 85, 0, 0, 0, 0, 0, 0, 0, 0])) 0 16) ∧ (seg v 103 16 = gets (F 3 (seg v 77 7 ++ [v 86, 0, 0, 0, 0, 0, 0, 0, 0])) 0 16) ∧ (seg v 119 32 = gets (F 13 ([] : List Int)) 0 32) ∧ (seg v 151 32 = gets (F 14 ([] : List Int)) 0 32) ∧ (seg v 183 32 = gets (F 13 ([] : List Int)) 0 32) ∧ (seg v 215 32 = gets (F 14 ([] : List Int)) 0 32) ∧ (seg v 247 322 = gets (F 12 (seg v 183 64 ++ seg v 119 64 ++ [v 0])) 0 322) ∧ (seg v 569 16 = gets (F 4 (seg v 87 32)) 0 16) ∧ (seg v 585 16 = gets (F 5 (seg v 87 32)) 0 16) ∧ (seg v 601 16 = gets (F 7 (seg v 87 16)) 0 16) ∧ (seg v 617 16 = gets (F 6 (seg v 87 32)) 0 16) ∧ (seg v 633 16 = gets (F 6 (seg v 87 16 ++ seg v 87 16)) 0 16) ∧ (seg v 649 16 = gets (F 10 (seg v 87 16)) 0 16) ∧ (seg v 665 16 = gets (F 6 (seg v 87 16 ++ [v 0, 0, 0, 0, 0, 0, 0, 0, 0, 0, 0, 0, 0, 0, 0, 0])) 0 16) ∧ (seg v 681 16 = gets (F 2 (seg v 119 64)) 0 16) ∧ (seg v 697 16 = gets (F 3 (seg v 681 16)) 0 16) ∧ (v 713 = (F 8 (seg v 87 16)).getD 0 0) ∧ (seg v 714 32 = gets (F 0 (seg v 87 16)) 0 32) ∧ (v 746 = (F 9 (seg v 249 32 ++ seg v 714 32)).getD 0 0) ∧ (v 747 = (if v 746 ≠ 0 then 0 else 1)) ∧ (seg v 748 32 = gets (F 0 (seg v 569 16)) 0 32) ∧ (v 780 = (F 9 (seg v 281 32 ++ seg v 748 32)).getD 0 0) ∧ (v 781 = (if v 780 ≠ 0 then 0 else 1)) ∧ (seg v 782 32 = gets (F 0 (seg v 585 16)) 0 32) ∧ (v 814 = (F 9 (seg v 313 32 ++ seg v 782 32)).getD 0 0) ∧ (v 815 = (if v 814 ≠ 0 then 0 else 1)) ∧ (seg v 816 32 = gets (F 0 (seg v 601 16)) 0 32) ∧ (v 848 = (F 9 (seg v 345 32 ++ seg v 816 32)).getD 0 0) ∧ (v 849 = (if v 848 ≠ 0 then 0 else 1)) ∧ (seg v 850 32 = gets (F 0 (seg v 617 16)) 0 32) ∧ (v 882 = (F 9 (seg v 377 32 ++ seg v 850 32)).getD 0 0) ∧ (v 883 = (if v 882 ≠ 0 then 0 else 1)) ∧ (seg v 884 32 = gets (F 0 (seg v 633 16)) 0 32) ∧ (v 916 = (F 9 (seg v 409 32 ++ seg v 884 32)).getD 0 0) ∧ (v 917 = (if v 916 ≠ 0 then 0 else 1)) ∧ (seg v 918 32 = gets (F 0 (seg v 649 16)) 0 32) ∧ (v 950 = (F 9 (seg v 441 32 ++ seg v 918 32)).getD 0 0) ∧ (v 951 = (if v 950 ≠ 0 then 0 else 1)) ∧ (seg v 952 32 = gets (F 0 (seg v 665 16)) 0 32) ∧ (v 984 = (F 9 (seg v 473 32 ++ seg v 952 32)).getD 0 0) ∧ (v 985 = (if v 984 ≠ 0 then 0 else 1)) ∧ (seg v 986 32 = gets (F 0 (seg v 697 16)) 0 32) ∧ (v 1018 = (F 9 (seg v 505 32 ++ seg v 986 32)).getD 0 0) ∧ (v 1019 = (if v 1018 ≠ 0 then 0 else 1)) ∧ (seg v 1020 32 = gets (F 0 (seg v 87 16)) 0 32) ∧ (v 1052 = (F 9 (seg v 537 32 ++ seg v 1020 32)).getD 0 0) ∧ (v 1053 = (if v 1052 ≠ 0 then 0 else 1)) ∧ (v 1054 = (F 8 (seg v 87 16)).getD 0 0) ∧ (v 1055 = (if v 1054 ≠ 0 then 1 else 0)) ∧ (v 1056 = (if v 1054 ≠ 0 then 0 else 1)) ∧ (v 1057 = (if v 247 ≠ 0 then v 1055 else v 1056)) ∧ (v 1058 = b2i ((seg v 87 16) == (seg v 103 16))) ∧ (v 1059 = (if v 1058 ≠ 0 then 1 else 0)) ∧ (v 1060 = (if v 1058 ≠ 0 then 0 else 1)) ∧ (v 1061 = (if v 248 ≠ 0 then v 1059 else v 1060)) := Eq.mp (by kernel_rfl) h
theorem A_FnElement_3 {pr : Prs} {v : Nat → Int} (h : ((v 1057 != 0) = true) ∧ (pr 8 (seg v 87 16)) ∧ ((v 1053 != 0) = false) ∧ (pr 9 (seg v 537 32 ++ seg v 1020 32)) ∧ (pr 0 (seg v 87 16)) ∧ ((v 1019 != 0) = false) ∧ (pr 9 (seg v 505 32 ++ seg v 986 32)) ∧ (pr 0 (seg v 697 16)) ∧ ((v 985 != 0) = false) ∧ (pr 9 (seg v 473 32 ++ seg v 952 32)) ∧ (pr 0 (seg v 665 16)) ∧ ((v 951 != 0) = false) ∧ (pr 9 (seg v 441 32 ++ seg v 918 32)) ∧ (pr 0 (seg v 649 16)) ∧ ((v 917 != 0) = false) ∧ (pr 9 (seg v 409 32 ++ seg v 884 32)) ∧ (pr 0 (seg v 633 16)) ∧ ((v 883 != 0) = false) ∧ (pr 9 (seg v 377 32 ++ seg v 850 32)) ∧ (pr 0 (seg v 617 16)) ∧ ((v 849 != 0) = false) ∧ (pr 9 (seg v 345 32 ++ seg v 816 32)) ∧ (pr 0 (seg v 601 16)) ∧ ((v 815 != 0) = false) ∧ (pr 9 (seg v 313 32 ++ seg v 782 32)) ∧ (pr 0 (seg v 585 16)) ∧ ((v 781 != 0) = false) ∧ (pr 9 (seg v 281 32 ++ seg v 748 32)) ∧ (pr 0 (seg v 569 16)) ∧ ((v 747 != 0) = false) ∧ (pr 9 (seg v 249 32 ++ seg v 714 32)) ∧ (pr 0 (seg v 87 16)) ∧ ((v 713 != 0) = false) ∧ (pr 8 (seg v 87 16)) ∧ (pr 3 (seg v 681 16)) ∧ (pr 2 (seg v 119 64)) ∧ (pr 6 (seg v 87 16 ++ [v 0, 0, 0, 0, 0, 0, 0, 0, 0, 0, 0, 0, 0, 0, 0, 0])) ∧ (pr 10 (seg v 87 16)) ∧ (pr 6 (seg v 87 16 ++ seg v 87 16)) ∧ (pr 6 (seg v 87 32)) ∧ (pr 7 (seg v 87 16)) ∧ (pr 5 (seg v 87 32)) ∧ (pr 4 (seg v 87 32)) ∧ (pr 12 (seg v 183 64 ++ seg v 119 64 ++ [v 0])) ∧ (pr 14 ([] : List Int)) ∧ (pr 13 ([] : List Int)) ∧ (pr 11 (seg v 119 64)) ∧ (pr 14 ([] : List Int)) ∧ (pr 13 ([] : List Int)) ∧ (pr 3 (seg v 77 7 ++ [v 86, 0, 0, 0, 0, 0, 0, 0, 0])) ∧ (pr 3 (seg v 37 7 ++ [v 85, 0, 0, 0, 0, 0, 0, 0, 0])) ∧ (pr 1 (seg v 45 32)) ∧ (pr 14 ([] : List Int)) ∧ (pr 1 (seg v 5 32)) ∧ (pr 13 ([] : List Int)) ∧ ((v 4 != 0) = false) ∧ ((v 2 != 0) = false) ∧ True) : HoldL pr v p_FnElement_3.g.asm := Eq.mp (by kernel_rfl) h

end Go.X.Y

set_option maxRecDepth 20000
namespace Go.X.Y
open Go.Proofs

/-! ### the law of elements -/

section
variable {a0 : Option Addr} {len0 cap0 : Nat} {z0 : List Int} {a1 : Option Addr} {len1 cap1 : Nat} {z1 : List Int} {w : World}
  (h0 : SOk w a0 len0 cap0 z0) (h1 : SOk w a1 len1 cap1 z1)

abbrev lE : List X.Sem := [s_NBytes, s_Of32, s_Of64, s_Field, s_FAdd, s_FSub, s_FMul, s_FNeg, s_Odd, s_same32, s_Inv, s_sz64r, s_ElSums, sA h0, sB h1]

def s_FnElement : X.Sem := X.Sem.of (fun _ => [1]) [(0, 4294967295)] [(1, 1)] (fun _ _ => ⟨by decide, by decide, trivial⟩)

/-- the element of 32 bytes, as it is said -/
theorem masked_val {ρ : Nat → Int} {x : Nat} {A : List Int} {m : Int} (hA : InB (BB 32) A) (hx : seg ρ x 8 = s_Of32.f A) (hm : m = op2 .and .u32 (ρ (x + 7)) 2147483647) :
    φ (ofD 4294967296 (seg ρ x 7 ++ [m, 0, 0, 0, 0, 0, 0, 0, 0])) = eF A := by
  have hd : InD 4294967296 (seg ρ x 8) := by rw [hx]; exact InB_InD (b := 4294967296) (n := 8) (of32_in hA)
  have hv : ofD 4294967296 (seg ρ x 8) = ofD 256 A := by
    obtain ⟨A0, A1⟩ := ofD_bound (b := 256) (by decide) (BB_in hA)
    rw [hA.len] at A1
    rw [hx, Of32_val A hA, ofD_toD (by decide)]
    exact Int.emod_eq_of_lt A0 A1
  have e : seg ρ x 8 = seg ρ x 7 ++ [ρ (x + 7)] := seg_add ρ 7 1 x
  rw [e] at hd hv
  obtain ⟨l0, l1⟩ := ofD_bound (b := 4294967296) (by decide) (InD_left hd)
  rw [seg_len] at l1
  have hr := InD_right hd
  have t0 := hr.1
  have t1 := hr.2.1
  rw [ofD_append, seg_len] at hv ⊢
  have e1 : ofD 4294967296 [ρ (x + 7)] = ρ (x + 7) + 4294967296 * 0 := rfl
  have e2 : ofD 4294967296 [m, 0, 0, 0, 0, 0, 0, 0, 0] = m + 4294967296 * ofD 4294967296 (List.replicate 8 0) := rfl
  rw [e1] at hv
  rw [e2, tz, hm, mask31 t0 t1]
  unfold eF
  rw [el_val, ← hv]
  have l1 : ofD 4294967296 (seg ρ x 7) < 26959946667150639794667015087019630673637144422540572481103610249216 := l1
  have e7 : (4294967296 : Int) ^ 7 = 26959946667150639794667015087019630673637144422540572481103610249216 := by decide
  rw [e7]
  generalize ofD 4294967296 (seg ρ x 7) = L at *
  generalize ρ (x + 7) = t at *
  congr 1
  omega

theorem notsame {P : Prop} [Decidable P] {t u : Int} (ht : t = if P then 1 else 0) (hu : u = if t ≠ 0 then 0 else 1) (hP : P) : (u != 0) = false := by
  rw [if_pos hP] at ht
  subst ht hu; rfl

/-- the pieces of ElementSums -/
theorem el_split {ρ : Nat → Int} {x : Nat} {n e : Int} {b0 b1 b2 b3 b4 b5 b6 b7 b8 b9 : Fp}
    (h : seg ρ x 322 = [n, e] ++ bB b0 ++ bB b1 ++ bB b2 ++ bB b3 ++ bB b4 ++ bB b5 ++ bB b6 ++ (bB b7 ++ bB b8) ++ bB b9) :
    ρ x = n ∧ ρ (x + 1) = e ∧ seg ρ (x + 2) 32 = bB b0 ∧ seg ρ (x + 34) 32 = bB b1 ∧ seg ρ (x + 66) 32 = bB b2 ∧ seg ρ (x + 98) 32 = bB b3 ∧ seg ρ (x + 130) 32 = bB b4 ∧ seg ρ (x + 162) 32 = bB b5 ∧ seg ρ (x + 194) 32 = bB b6 ∧ seg ρ (x + 226) 32 = bB b7 ∧ seg ρ (x + 258) 32 = bB b8 ∧ seg ρ (x + 290) 32 = bB b9 := by
  have hl := bB_len
  obtain ⟨h, k9⟩ := seg_two (n := 290) (m := 32) h (by simp only [List.length_append, hl, List.length_cons, List.length_nil])
  obtain ⟨h, k78⟩ := seg_two (n := 226) (m := 64) h (by simp only [List.length_append, hl, List.length_cons, List.length_nil])
  obtain ⟨k7, k8⟩ := seg_two (n := 32) (m := 32) k78 (hl _)
  obtain ⟨h, k6⟩ := seg_two (n := 194) (m := 32) h (by simp only [List.length_append, hl, List.length_cons, List.length_nil])
  obtain ⟨h, k5⟩ := seg_two (n := 162) (m := 32) h (by simp only [List.length_append, hl, List.length_cons, List.length_nil])
  obtain ⟨h, k4⟩ := seg_two (n := 130) (m := 32) h (by simp only [List.length_append, hl, List.length_cons, List.length_nil])
  obtain ⟨h, k3⟩ := seg_two (n := 98) (m := 32) h (by simp only [List.length_append, hl, List.length_cons, List.length_nil])
  obtain ⟨h, k2⟩ := seg_two (n := 66) (m := 32) h (by simp only [List.length_append, hl, List.length_cons, List.length_nil])
  obtain ⟨h, k1⟩ := seg_two (n := 34) (m := 32) h (by simp only [List.length_append, hl, List.length_cons, List.length_nil])
  obtain ⟨h, k0⟩ := seg_two (n := 2) (m := 32) h rfl
  have e1 : ρ x = n := (List.cons.inj h).1
  have e2 : ρ (x + 1) = e := (List.cons.inj (List.cons.inj h).2).1
  exact ⟨e1, e2, k0, k1, k2, k3, k4, k5, k6, k7, by rw [show x + 258 = x + 226 + 32 from rfl]; exact k8, k9⟩

theorem ok1 {P : Prop} [Decidable P] {a b c d e : Int} (ha : a = if P then 1 else 0) (hb : b = if P then 1 else 0) (hc : c = if a ≠ 0 then 1 else 0) (hd : d = if a ≠ 0 then 0 else 1) (he : e = if b ≠ 0 then c else d) : e = 1 := by
  by_cases h : P
  · rw [if_pos h] at ha hb
    subst ha hb hc hd he; rfl
  · rw [if_neg h] at ha hb
    subst ha hb hc hd he; rfl

theorem small_nF {m : Int} (h : 0 ≤ m ∧ m ≤ 4294967295) : [m, 0, 0, 0, 0, 0, 0, 0, 0, 0, 0, 0, 0, 0, 0, 0] = nF (φ m) := by
  have hl : InB (WB 16) [m, 0, 0, 0, 0, 0, 0, 0, 0, 0, 0, 0, 0, 0, 0, 0] := InD_InB (b := 4294967296) rfl ⟨h.1, by omega, by decide, by decide, by decide, by decide, by decide, by decide, by decide, by decide, by decide, by decide, by decide, by decide, by decide, by decide, by decide, by decide, by decide, by decide, by decide, by decide, by decide, by decide, by decide, by decide, by decide, by decide, by decide, by decide, by decide, by decide, trivial⟩
  have e : ofD 4294967296 [m, 0, 0, 0, 0, 0, 0, 0, 0, 0, 0, 0, 0, 0, 0, 0] = m := by
    show m + 4294967296 * ofD 4294967296 (List.replicate 15 0) = m
    rw [tz]; omega
  have := nF_of hl (by rw [e]; omega)
  rw [e] at this
  exact this

theorem same_1 {P : Prop} {ρ : Nat → Int} {x y : Nat} {b : Fp} {t u : Int} (hx : seg ρ x 32 = bB b) (hy : seg ρ y 32 = bB b) (ht : t = (s_same32.f (seg ρ x 32 ++ seg ρ y 32)).getD 0 0) (hu : u = if t ≠ 0 then 0 else 1) (_ : P) : (u != 0) = false := by
  rw [hx, hy, same32_val (bB_in _) (bB_in _), if_pos rfl] at ht
  have ht : t = 1 := ht
  subst ht hu; rfl

include h0 h1 in
theorem good_FnElement : Good (W2 a0 len0 cap0 a1 len1 cap1 w) T_FnElement s_FnElement := by
  refine law_sound (ts := [T_NBytes, T_Of32, T_Of64, T_Field, T_FAdd, T_FSub, T_FMul, T_FNeg, T_Odd, T_same32, T_Inv, T_sz64r, T_ElSums, T_szA, T_szB]) (l := lE h0 h1) (W := W2 a0 len0 cap0 a1 len1 cap1 w) ⟨good_NBytes _, good_Of32 _, good_Of64 _, good_Field _, good_FAdd _, good_FSub _, good_FMul _, good_FNeg _, good_Odd _, good_same32 _, good_Inv _, good_sz64r _, good_ElSums _, good_szA h0, good_szB h1, trivial⟩ (show 15 ≤ 1000000 by decide) Try.func4 Try.call4 (by kernel_rfl) rfl ?_
  intro xs hx
  have hm : 0 ≤ xs.getD 0 0 ∧ xs.getD 0 0 ≤ 4294967295 := InB.get (b := [(0, 4294967295)]) hx 0 (0, 4294967295) rfl
  by_cases g0 : (len0 : Int) > 2147483647
  · refine ⟨_, _, _, _, r_FnElement_0, w_FnElement_0, ?_⟩
    intro ρ _ hst
    obtain ⟨h1, h2⟩ := E_FnElement_0 hst
    have h1 : ρ 1 = (len0 : Int) := h1
    rw [h1, gtr_b, decide_eq_true g0] at h2
    exact ⟨fun j a ha => one_out rfl j a ha, A_FnElement_0 ⟨by rw [h2]; rfl, trivial⟩⟩
  by_cases g1 : (len1 : Int) > 2147483647
  · refine ⟨_, _, _, _, r_FnElement_1, w_FnElement_1, ?_⟩
    intro ρ _ hst
    obtain ⟨h1, h2, h3, h4⟩ := E_FnElement_1 hst
    have h1 : ρ 1 = (len0 : Int) := h1
    have h3 : ρ 3 = (len1 : Int) := h3
    rw [h1, gtr_b, decide_eq_false g0] at h2
    rw [h3, gtr_b, decide_eq_true g1] at h4
    exact ⟨fun j a ha => one_out rfl j a ha, A_FnElement_1 ⟨by rw [h4]; rfl, by rw [h2]; rfl, trivial⟩⟩
  have bA : InB (BB 32) (pad 32 len0 z0) := pad_in h0.len h0.bytes
  have bB' : InB (BB 32) (pad 32 len1 z1) := pad_in h1.len h1.bytes
  by_cases hodd : (eF (pad 32 len0 z0)).val % 2 = 1
  · refine ⟨_, _, _, _, r_FnElement_2, w_FnElement_2, ?_⟩
    intro ρ hin hst
    have hρ0 : ρ 0 = xs.getD 0 0 := hin 0 (by decide)
    obtain ⟨e1, e2, e3, e4, e5, e37, e45, e77, e85, e86, e87, e103, e119, e151, e183, e215, e247, e569, e585, e601, e617, e633, e649, e665, e681, e697, e713, e714, e730, e762, e763, e764, e796, e797, e798, e830, e831, e832, e864, e865, e866, e898, e899, e900, e932, e933, e934, e966, e967, e968, e1000, e1001, e1002, e1034, e1035, e1036, e1068, e1069, e1070, e1071, e1072, e1073, e1074, e1075, e1076, e1077⟩ := E_FnElement_2 hst
    clear hst
    have e1 : ρ 1 = (len0 : Int) := e1
    have e3 : ρ 3 = (len1 : Int) := e3
    rw [e1, gtr_b, decide_eq_false g0] at e2
    rw [e3, gtr_b, decide_eq_false g1] at e4
    have e5 : seg ρ 5 32 = gets (pad 32 len0 z0) 0 32 := e5
    rw [gets_all (show _ = 32 from bA.len)] at e5
    have e45 : seg ρ 45 32 = gets (pad 32 len1 z1) 0 32 := e45
    rw [gets_all (show _ = 32 from bB'.len)] at e45
    have e119 : seg ρ 119 32 = gets (pad 32 len0 z0) 0 32 := e119
    rw [gets_all (show _ = 32 from bA.len)] at e119
    have e151 : seg ρ 151 32 = gets (pad 32 len1 z1) 0 32 := e151
    rw [gets_all (show _ = 32 from bB'.len)] at e151
    have e183 : seg ρ 183 32 = gets (pad 32 len0 z0) 0 32 := e183
    rw [gets_all (show _ = 32 from bA.len)] at e183
    have e215 : seg ρ 215 32 = gets (pad 32 len1 z1) 0 32 := e215
    rw [gets_all (show _ = 32 from bB'.len)] at e215
    have e37 : seg ρ 37 8 = gets (s_Of32.f (seg ρ 5 32)) 0 8 := e37
    rw [e5, gets_all (show _ = 8 from (of32_in bA).len)] at e37
    have e77 : seg ρ 77 8 = gets (s_Of32.f (seg ρ 45 32)) 0 8 := e77
    rw [e45, gets_all (show _ = 8 from (of32_in bB').len)] at e77
    have m0 := masked_in (v := ρ) (x := 37) (by rw [e37]; exact of32_in bA) e85
    have m1 := masked_in (v := ρ) (x := 77) (by rw [e77]; exact of32_in bB') e86
    have x0 := masked_val bA e37 e85
    have x1 := masked_val bB' e77 e86
    have e87 : seg ρ 87 16 = gets (s_Field.f (seg ρ 37 7 ++ [ρ 85, 0, 0, 0, 0, 0, 0, 0, 0])) 0 16 := e87
    have e103 : seg ρ 103 16 = gets (s_Field.f (seg ρ 77 7 ++ [ρ 86, 0, 0, 0, 0, 0, 0, 0, 0])) 0 16 := e103
    rw [Field_val _ m0, x0, gets_all (nF_len _)] at e87
    rw [Field_val _ m1, x1, gets_all (nF_len _)] at e103
    have c119 : seg ρ 119 64 = pad 32 len0 z0 ++ pad 32 len1 z1 := by rw [← e119, ← e151]; exact seg_add ρ 32 32 119
    have c183 : seg ρ 183 64 = pad 32 len0 z0 ++ pad 32 len1 z1 := by rw [← e183, ← e215]; exact seg_add ρ 32 32 183
    have e247 : seg ρ 247 322 = gets (s_ElSums.f (seg ρ 183 64 ++ seg ρ 119 64 ++ [ρ 0])) 0 322 := e247
    rw [c183, c119, hρ0, ElSums_val bA bB' bA bB' hm, gets_all (by simp only [List.length_append, bB_len, List.length_cons, List.length_nil])] at e247
    obtain ⟨f247, f248, g0_, g1_, g2_, g3_, g4_, g5_, g6_, g7_, g8_, g9_⟩ := el_split e247
    have hsm : [ρ 0, 0, 0, 0, 0, 0, 0, 0, 0, 0, 0, 0, 0, 0, 0, 0] = nF (φ (xs.getD 0 0)) := by rw [hρ0]; exact small_nF hm
    have c87 : seg ρ 87 32 = nF (eF (pad 32 len0 z0)) ++ nF (eF (pad 32 len1 z1)) := by rw [← e87, ← e103]; exact seg_add ρ 16 16 87
    have hwide : φ (ofD 4294967296 (toD 4294967296 16 (ofD 256 (pad 32 len0 z0 ++ pad 32 len1 z1)))) = φ (ofD 256 (pad 32 len0 z0 ++ pad 32 len1 z1)) := by
      obtain ⟨A0, A1⟩ := ofD_bound (b := 256) (by decide) (InD_append (BB_in bA) (BB_in bB'))
      rw [List.length_append, bA.len, bB'.len] at A1
      rw [ofD_toD (by decide)]
      congr 1
      exact Int.emod_eq_of_lt A0 A1
    have b64 : InB (BB 64) (pad 32 len0 z0 ++ pad 32 len1 z1) := InB.append (a := BB 32) (b := BB 32) bA bB'
    clear x0 x1
    generalize eF (pad 32 len0 z0) = X at *
    generalize eF (pad 32 len1 z1) = Y at *
    have e569 : seg ρ 569 16 = gets (s_FAdd.f (seg ρ 87 32)) 0 16 := e569
    rw [c87, FAdd_val, gets_all (nF_len _)] at e569
    have e585 : seg ρ 585 16 = gets (s_FSub.f (seg ρ 87 32)) 0 16 := e585
    rw [c87, FSub_val, gets_all (nF_len _)] at e585
    have e601 : seg ρ 601 16 = gets (s_FNeg.f (seg ρ 87 16)) 0 16 := e601
    rw [e87, FNeg_val, gets_all (nF_len _)] at e601
    have e617 : seg ρ 617 16 = gets (s_FMul.f (seg ρ 87 32)) 0 16 := e617
    rw [c87, FMul_val, gets_all (nF_len _)] at e617
    have e633 : seg ρ 633 16 = gets (s_FMul.f (seg ρ 87 16 ++ seg ρ 87 16)) 0 16 := e633
    rw [e87, FMul_val, gets_all (nF_len _)] at e633
    have e649 : seg ρ 649 16 = gets (s_Inv.f (seg ρ 87 16)) 0 16 := e649
    rw [e87, Inv_val, gets_all (nF_len _)] at e649
    have e665 : seg ρ 665 16 = gets (s_FMul.f (seg ρ 87 16 ++ [ρ 0, 0, 0, 0, 0, 0, 0, 0, 0, 0, 0, 0, 0, 0, 0, 0])) 0 16 := e665
    rw [e87, hsm, FMul_val, gets_all (nF_len _)] at e665
    have e681 : seg ρ 681 16 = gets (s_Of64.f (seg ρ 119 64)) 0 16 := e681
    rw [c119, Of64_val _ b64, gets_all (toD_len _ _ _)] at e681
    have e697 : seg ρ 697 16 = gets (s_Field.f (seg ρ 681 16)) 0 16 := e697
    rw [e681, Field_val _ (fold_bo _), hwide, gets_all (nF_len _)] at e697
    have e713 : ρ 713 = (s_Odd.f (seg ρ 87 16)).getD 0 0 := e713
    rw [e87, Odd_val, List.getD_cons_zero] at e713
    have e714 : seg ρ 714 16 = gets (s_FNeg.f (seg ρ 87 16)) 0 16 := e714
    rw [e87, FNeg_val, gets_all (nF_len _)] at e714
    rw [show absF X = -X from if_pos hodd] at g9_
    have e730 : seg ρ 730 32 = gets (s_NBytes.f (seg ρ 87 16)) 0 32 := e730
    rw [e87, NBytes_nF, gets_all (toD_len _ _ _)] at e730
    have e730 : seg ρ 730 32 = bB _ := e730
    have g0_ : seg ρ 249 32 = bB _ := g0_
    have n763 := same_1 g0_ e730 e762 e763 trivial
    have e764 : seg ρ 764 32 = gets (s_NBytes.f (seg ρ 569 16)) 0 32 := e764
    rw [e569, NBytes_nF, gets_all (toD_len _ _ _)] at e764
    have e764 : seg ρ 764 32 = bB _ := e764
    have g1_ : seg ρ 281 32 = bB _ := g1_
    have n797 := same_1 g1_ e764 e796 e797 trivial
    have e798 : seg ρ 798 32 = gets (s_NBytes.f (seg ρ 585 16)) 0 32 := e798
    rw [e585, NBytes_nF, gets_all (toD_len _ _ _)] at e798
    have e798 : seg ρ 798 32 = bB _ := e798
    have g2_ : seg ρ 313 32 = bB _ := g2_
    have n831 := same_1 g2_ e798 e830 e831 trivial
    have e832 : seg ρ 832 32 = gets (s_NBytes.f (seg ρ 601 16)) 0 32 := e832
    rw [e601, NBytes_nF, gets_all (toD_len _ _ _)] at e832
    have e832 : seg ρ 832 32 = bB _ := e832
    have g3_ : seg ρ 345 32 = bB _ := g3_
    have n865 := same_1 g3_ e832 e864 e865 trivial
    have e866 : seg ρ 866 32 = gets (s_NBytes.f (seg ρ 617 16)) 0 32 := e866
    rw [e617, NBytes_nF, gets_all (toD_len _ _ _)] at e866
    have e866 : seg ρ 866 32 = bB _ := e866
    have g4_ : seg ρ 377 32 = bB _ := g4_
    have n899 := same_1 g4_ e866 e898 e899 trivial
    have e900 : seg ρ 900 32 = gets (s_NBytes.f (seg ρ 633 16)) 0 32 := e900
    rw [e633, NBytes_nF, gets_all (toD_len _ _ _)] at e900
    have e900 : seg ρ 900 32 = bB _ := e900
    have g5_ : seg ρ 409 32 = bB _ := g5_
    have n933 := same_1 g5_ e900 e932 e933 trivial
    have e934 : seg ρ 934 32 = gets (s_NBytes.f (seg ρ 649 16)) 0 32 := e934
    rw [e649, NBytes_nF, gets_all (toD_len _ _ _)] at e934
    have e934 : seg ρ 934 32 = bB _ := e934
    have g6_ : seg ρ 441 32 = bB _ := g6_
    have n967 := same_1 g6_ e934 e966 e967 trivial
    have e968 : seg ρ 968 32 = gets (s_NBytes.f (seg ρ 665 16)) 0 32 := e968
    rw [e665, NBytes_nF, gets_all (toD_len _ _ _)] at e968
    have e968 : seg ρ 968 32 = bB _ := e968
    have g7_ : seg ρ 473 32 = bB _ := g7_
    have n1001 := same_1 g7_ e968 e1000 e1001 trivial
    have e1002 : seg ρ 1002 32 = gets (s_NBytes.f (seg ρ 697 16)) 0 32 := e1002
    rw [e697, NBytes_nF, gets_all (toD_len _ _ _)] at e1002
    have e1002 : seg ρ 1002 32 = bB _ := e1002
    have g8_ : seg ρ 505 32 = bB _ := g8_
    have n1035 := same_1 g8_ e1002 e1034 e1035 trivial
    have e1036 : seg ρ 1036 32 = gets (s_NBytes.f (seg ρ 714 16)) 0 32 := e1036
    rw [e714, NBytes_nF, gets_all (toD_len _ _ _)] at e1036
    have e1036 : seg ρ 1036 32 = bB _ := e1036
    have g9_ : seg ρ 537 32 = bB _ := g9_
    have n1069 := same_1 g9_ e1036 e1068 e1069 trivial
    have e1070 : ρ 1070 = (s_Odd.f (seg ρ 87 16)).getD 0 0 := e1070
    rw [e87, Odd_val, List.getD_cons_zero] at e1070
    have o1 := ok1 e1070 f247 e1071 e1072 e1073
    rw [e87, e103, b2i_beq, ite_nF] at e1074
    have o2 := ok1 e1074 f248 e1075 e1076 e1077
    exact ⟨one_outv o2, A_FnElement_2 ⟨(by rw [o1]; rfl), (by rw [e87]; exact nF_in _), n1069, (by rw [g9_, e1036]; exact InB.append (bB_in _) (bB_in _)), (by rw [e714]; exact nF_in _), n1035, (by rw [g8_, e1002]; exact InB.append (bB_in _) (bB_in _)), (by rw [e697]; exact nF_in _), n1001, (by rw [g7_, e968]; exact InB.append (bB_in _) (bB_in _)), (by rw [e665]; exact nF_in _), n967, (by rw [g6_, e934]; exact InB.append (bB_in _) (bB_in _)), (by rw [e649]; exact nF_in _), n933, (by rw [g5_, e900]; exact InB.append (bB_in _) (bB_in _)), (by rw [e633]; exact nF_in _), n899, (by rw [g4_, e866]; exact InB.append (bB_in _) (bB_in _)), (by rw [e617]; exact nF_in _), n865, (by rw [g3_, e832]; exact InB.append (bB_in _) (bB_in _)), (by rw [e601]; exact nF_in _), n831, (by rw [g2_, e798]; exact InB.append (bB_in _) (bB_in _)), (by rw [e585]; exact nF_in _), n797, (by rw [g1_, e764]; exact InB.append (bB_in _) (bB_in _)), (by rw [e569]; exact nF_in _), n763, (by rw [g0_, e730]; exact InB.append (bB_in _) (bB_in _)), (by rw [e87]; exact nF_in _), (by rw [e87]; exact nF_in _), (by rw [e713, if_pos hodd]; rfl), (by rw [e87]; exact nF_in _), (by rw [e681]; exact fold_bo _), (by rw [c119]; exact b64), (by rw [e87, hsm]; exact nF_in2 _ _), (by rw [e87]; exact nF_in _), (by rw [e87]; exact nF_in2 _ _), (by rw [c87]; exact nF_in2 _ _), (by rw [e87]; exact nF_in _), (by rw [c87]; exact nF_in2 _ _), (by rw [c87]; exact nF_in2 _ _), (by rw [c183, c119, hρ0]; exact InB.append (a := BB 32 ++ BB 32 ++ (BB 32 ++ BB 32)) (b := [(0, 4294967295)]) (InB.append (InB.append bA bB') (InB.append bA bB')) ⟨hm.1, hm.2, trivial⟩), trivial, trivial, (by rw [c119]; exact b64), trivial, trivial, m1, m0, (by rw [e45]; exact bB'), trivial, (by rw [e5]; exact bA), trivial, (by rw [e4]; rfl), (by rw [e2]; rfl), trivial⟩⟩
  · refine ⟨_, _, _, _, r_FnElement_3, w_FnElement_3, ?_⟩
    intro ρ hin hst
    have hρ0 : ρ 0 = xs.getD 0 0 := hin 0 (by decide)
    obtain ⟨e1, e2, e3, e4, e5, e37, e45, e77, e85, e86, e87, e103, e119, e151, e183, e215, e247, e569, e585, e601, e617, e633, e649, e665, e681, e697, e713, e714, e746, e747, e748, e780, e781, e782, e814, e815, e816, e848, e849, e850, e882, e883, e884, e916, e917, e918, e950, e951, e952, e984, e985, e986, e1018, e1019, e1020, e1052, e1053, e1054, e1055, e1056, e1057, e1058, e1059, e1060, e1061⟩ := E_FnElement_3 hst
    clear hst
    have e1 : ρ 1 = (len0 : Int) := e1
    have e3 : ρ 3 = (len1 : Int) := e3
    rw [e1, gtr_b, decide_eq_false g0] at e2
    rw [e3, gtr_b, decide_eq_false g1] at e4
    have e5 : seg ρ 5 32 = gets (pad 32 len0 z0) 0 32 := e5
    rw [gets_all (show _ = 32 from bA.len)] at e5
    have e45 : seg ρ 45 32 = gets (pad 32 len1 z1) 0 32 := e45
    rw [gets_all (show _ = 32 from bB'.len)] at e45
    have e119 : seg ρ 119 32 = gets (pad 32 len0 z0) 0 32 := e119
    rw [gets_all (show _ = 32 from bA.len)] at e119
    have e151 : seg ρ 151 32 = gets (pad 32 len1 z1) 0 32 := e151
    rw [gets_all (show _ = 32 from bB'.len)] at e151
    have e183 : seg ρ 183 32 = gets (pad 32 len0 z0) 0 32 := e183
    rw [gets_all (show _ = 32 from bA.len)] at e183
    have e215 : seg ρ 215 32 = gets (pad 32 len1 z1) 0 32 := e215
    rw [gets_all (show _ = 32 from bB'.len)] at e215
    have e37 : seg ρ 37 8 = gets (s_Of32.f (seg ρ 5 32)) 0 8 := e37
    rw [e5, gets_all (show _ = 8 from (of32_in bA).len)] at e37
    have e77 : seg ρ 77 8 = gets (s_Of32.f (seg ρ 45 32)) 0 8 := e77
    rw [e45, gets_all (show _ = 8 from (of32_in bB').len)] at e77
    have m0 := masked_in (v := ρ) (x := 37) (by rw [e37]; exact of32_in bA) e85
    have m1 := masked_in (v := ρ) (x := 77) (by rw [e77]; exact of32_in bB') e86
    have x0 := masked_val bA e37 e85
    have x1 := masked_val bB' e77 e86
    have e87 : seg ρ 87 16 = gets (s_Field.f (seg ρ 37 7 ++ [ρ 85, 0, 0, 0, 0, 0, 0, 0, 0])) 0 16 := e87
    have e103 : seg ρ 103 16 = gets (s_Field.f (seg ρ 77 7 ++ [ρ 86, 0, 0, 0, 0, 0, 0, 0, 0])) 0 16 := e103
    rw [Field_val _ m0, x0, gets_all (nF_len _)] at e87
    rw [Field_val _ m1, x1, gets_all (nF_len _)] at e103
    have c119 : seg ρ 119 64 = pad 32 len0 z0 ++ pad 32 len1 z1 := by rw [← e119, ← e151]; exact seg_add ρ 32 32 119
    have c183 : seg ρ 183 64 = pad 32 len0 z0 ++ pad 32 len1 z1 := by rw [← e183, ← e215]; exact seg_add ρ 32 32 183
    have e247 : seg ρ 247 322 = gets (s_ElSums.f (seg ρ 183 64 ++ seg ρ 119 64 ++ [ρ 0])) 0 322 := e247
    rw [c183, c119, hρ0, ElSums_val bA bB' bA bB' hm, gets_all (by simp only [List.length_append, bB_len, List.length_cons, List.length_nil])] at e247
    obtain ⟨f247, f248, g0_, g1_, g2_, g3_, g4_, g5_, g6_, g7_, g8_, g9_⟩ := el_split e247
    have hsm : [ρ 0, 0, 0, 0, 0, 0, 0, 0, 0, 0, 0, 0, 0, 0, 0, 0] = nF (φ (xs.getD 0 0)) := by rw [hρ0]; exact small_nF hm
    have c87 : seg ρ 87 32 = nF (eF (pad 32 len0 z0)) ++ nF (eF (pad 32 len1 z1)) := by rw [← e87, ← e103]; exact seg_add ρ 16 16 87
    have hwide : φ (ofD 4294967296 (toD 4294967296 16 (ofD 256 (pad 32 len0 z0 ++ pad 32 len1 z1)))) = φ (ofD 256 (pad 32 len0 z0 ++ pad 32 len1 z1)) := by
      obtain ⟨A0, A1⟩ := ofD_bound (b := 256) (by decide) (InD_append (BB_in bA) (BB_in bB'))
      rw [List.length_append, bA.len, bB'.len] at A1
      rw [ofD_toD (by decide)]
      congr 1
      exact Int.emod_eq_of_lt A0 A1
    have b64 : InB (BB 64) (pad 32 len0 z0 ++ pad 32 len1 z1) := InB.append (a := BB 32) (b := BB 32) bA bB'
    clear x0 x1
    generalize eF (pad 32 len0 z0) = X at *
    generalize eF (pad 32 len1 z1) = Y at *
    have e569 : seg ρ 569 16 = gets (s_FAdd.f (seg ρ 87 32)) 0 16 := e569
    rw [c87, FAdd_val, gets_all (nF_len _)] at e569
    have e585 : seg ρ 585 16 = gets (s_FSub.f (seg ρ 87 32)) 0 16 := e585
    rw [c87, FSub_val, gets_all (nF_len _)] at e585
    have e601 : seg ρ 601 16 = gets (s_FNeg.f (seg ρ 87 16)) 0 16 := e601
    rw [e87, FNeg_val, gets_all (nF_len _)] at e601
    have e617 : seg ρ 617 16 = gets (s_FMul.f (seg ρ 87 32)) 0 16 := e617
    rw [c87, FMul_val, gets_all (nF_len _)] at e617
    have e633 : seg ρ 633 16 = gets (s_FMul.f (seg ρ 87 16 ++ seg ρ 87 16)) 0 16 := e633
    rw [e87, FMul_val, gets_all (nF_len _)] at e633
    have e649 : seg ρ 649 16 = gets (s_Inv.f (seg ρ 87 16)) 0 16 := e649
    rw [e87, Inv_val, gets_all (nF_len _)] at e649
    have e665 : seg ρ 665 16 = gets (s_FMul.f (seg ρ 87 16 ++ [ρ 0, 0, 0, 0, 0, 0, 0, 0, 0, 0, 0, 0, 0, 0, 0, 0])) 0 16 := e665
    rw [e87, hsm, FMul_val, gets_all (nF_len _)] at e665
    have e681 : seg ρ 681 16 = gets (s_Of64.f (seg ρ 119 64)) 0 16 := e681
    rw [c119, Of64_val _ b64, gets_all (toD_len _ _ _)] at e681
    have e697 : seg ρ 697 16 = gets (s_Field.f (seg ρ 681 16)) 0 16 := e697
    rw [e681, Field_val _ (fold_bo _), hwide, gets_all (nF_len _)] at e697
    have e713 : ρ 713 = (s_Odd.f (seg ρ 87 16)).getD 0 0 := e713
    rw [e87, Odd_val, List.getD_cons_zero] at e713
    rw [show absF X = X from if_neg hodd] at g9_
    have e714 : seg ρ 714 32 = gets (s_NBytes.f (seg ρ 87 16)) 0 32 := e714
    rw [e87, NBytes_nF, gets_all (toD_len _ _ _)] at e714
    have e714 : seg ρ 714 32 = bB _ := e714
    have g0_ : seg ρ 249 32 = bB _ := g0_
    have n747 := same_1 g0_ e714 e746 e747 trivial
    have e748 : seg ρ 748 32 = gets (s_NBytes.f (seg ρ 569 16)) 0 32 := e748
    rw [e569, NBytes_nF, gets_all (toD_len _ _ _)] at e748
    have e748 : seg ρ 748 32 = bB _ := e748
    have g1_ : seg ρ 281 32 = bB _ := g1_
    have n781 := same_1 g1_ e748 e780 e781 trivial
    have e782 : seg ρ 782 32 = gets (s_NBytes.f (seg ρ 585 16)) 0 32 := e782
    rw [e585, NBytes_nF, gets_all (toD_len _ _ _)] at e782
    have e782 : seg ρ 782 32 = bB _ := e782
    have g2_ : seg ρ 313 32 = bB _ := g2_
    have n815 := same_1 g2_ e782 e814 e815 trivial
    have e816 : seg ρ 816 32 = gets (s_NBytes.f (seg ρ 601 16)) 0 32 := e816
    rw [e601, NBytes_nF, gets_all (toD_len _ _ _)] at e816
    have e816 : seg ρ 816 32 = bB _ := e816
    have g3_ : seg ρ 345 32 = bB _ := g3_
    have n849 := same_1 g3_ e816 e848 e849 trivial
    have e850 : seg ρ 850 32 = gets (s_NBytes.f (seg ρ 617 16)) 0 32 := e850
    rw [e617, NBytes_nF, gets_all (toD_len _ _ _)] at e850
    have e850 : seg ρ 850 32 = bB _ := e850
    have g4_ : seg ρ 377 32 = bB _ := g4_
    have n883 := same_1 g4_ e850 e882 e883 trivial
    have e884 : seg ρ 884 32 = gets (s_NBytes.f (seg ρ 633 16)) 0 32 := e884
    rw [e633, NBytes_nF, gets_all (toD_len _ _ _)] at e884
    have e884 : seg ρ 884 32 = bB _ := e884
    have g5_ : seg ρ 409 32 = bB _ := g5_
    have n917 := same_1 g5_ e884 e916 e917 trivial
    have e918 : seg ρ 918 32 = gets (s_NBytes.f (seg ρ 649 16)) 0 32 := e918
    rw [e649, NBytes_nF, gets_all (toD_len _ _ _)] at e918
    have e918 : seg ρ 918 32 = bB _ := e918
    have g6_ : seg ρ 441 32 = bB _ := g6_
    have n951 := same_1 g6_ e918 e950 e951 trivial
    have e952 : seg ρ 952 32 = gets (s_NBytes.f (seg ρ 665 16)) 0 32 := e952
    rw [e665, NBytes_nF, gets_all (toD_len _ _ _)] at e952
    have e952 : seg ρ 952 32 = bB _ := e952
    have g7_ : seg ρ 473 32 = bB _ := g7_
    have n985 := same_1 g7_ e952 e984 e985 trivial
    have e986 : seg ρ 986 32 = gets (s_NBytes.f (seg ρ 697 16)) 0 32 := e986
    rw [e697, NBytes_nF, gets_all (toD_len _ _ _)] at e986
    have e986 : seg ρ 986 32 = bB _ := e986
    have g8_ : seg ρ 505 32 = bB _ := g8_
    have n1019 := same_1 g8_ e986 e1018 e1019 trivial
    have e1020 : seg ρ 1020 32 = gets (s_NBytes.f (seg ρ 87 16)) 0 32 := e1020
    rw [e87, NBytes_nF, gets_all (toD_len _ _ _)] at e1020
    have e1020 : seg ρ 1020 32 = bB _ := e1020
    have g9_ : seg ρ 537 32 = bB _ := g9_
    have n1053 := same_1 g9_ e1020 e1052 e1053 trivial
    have e1054 : ρ 1054 = (s_Odd.f (seg ρ 87 16)).getD 0 0 := e1054
    rw [e87, Odd_val, List.getD_cons_zero] at e1054
    have o1 := ok1 e1054 f247 e1055 e1056 e1057
    rw [e87, e103, b2i_beq, ite_nF] at e1058
    have o2 := ok1 e1058 f248 e1059 e1060 e1061
    exact ⟨one_outv o2, A_FnElement_3 ⟨(by rw [o1]; rfl), (by rw [e87]; exact nF_in _), n1053, (by rw [g9_, e1020]; exact InB.append (bB_in _) (bB_in _)), (by rw [e87]; exact nF_in _), n1019, (by rw [g8_, e986]; exact InB.append (bB_in _) (bB_in _)), (by rw [e697]; exact nF_in _), n985, (by rw [g7_, e952]; exact InB.append (bB_in _) (bB_in _)), (by rw [e665]; exact nF_in _), n951, (by rw [g6_, e918]; exact InB.append (bB_in _) (bB_in _)), (by rw [e649]; exact nF_in _), n917, (by rw [g5_, e884]; exact InB.append (bB_in _) (bB_in _)), (by rw [e633]; exact nF_in _), n883, (by rw [g4_, e850]; exact InB.append (bB_in _) (bB_in _)), (by rw [e617]; exact nF_in _), n849, (by rw [g3_, e816]; exact InB.append (bB_in _) (bB_in _)), (by rw [e601]; exact nF_in _), n815, (by rw [g2_, e782]; exact InB.append (bB_in _) (bB_in _)), (by rw [e585]; exact nF_in _), n781, (by rw [g1_, e748]; exact InB.append (bB_in _) (bB_in _)), (by rw [e569]; exact nF_in _), n747, (by rw [g0_, e714]; exact InB.append (bB_in _) (bB_in _)), (by rw [e87]; exact nF_in _), (by rw [e713, if_neg hodd]; rfl), (by rw [e87]; exact nF_in _), (by rw [e681]; exact fold_bo _), (by rw [c119]; exact b64), (by rw [e87, hsm]; exact nF_in2 _ _), (by rw [e87]; exact nF_in _), (by rw [e87]; exact nF_in2 _ _), (by rw [c87]; exact nF_in2 _ _), (by rw [e87]; exact nF_in _), (by rw [c87]; exact nF_in2 _ _), (by rw [c87]; exact nF_in2 _ _), (by rw [c183, c119, hρ0]; exact InB.append (a := BB 32 ++ BB 32 ++ (BB 32 ++ BB 32)) (b := [(0, 4294967295)]) (InB.append (InB.append bA bB') (InB.append bA bB')) ⟨hm.1, hm.2, trivial⟩), trivial, trivial, (by rw [c119]; exact b64), trivial, trivial, m1, m0, (by rw [e45]; exact bB'), trivial, (by rw [e5]; exact bA), trivial, (by rw [e4]; rfl), (by rw [e2]; rfl), trivial⟩⟩

end
end Go.X.Y
