/-
  A part of the proof of YtkjhclknbkleoaaGreat: texts ZG1. No conditions.
-/
import Derived.Test.YtkjhclknbkleoaaGreatT19
set_option maxRecDepth 20000
namespace Go.X.Z
open Go.Proofs

def T_ptA : Tmpl := ⟨5, [.one (.agg (us .u32 0 16)), .one (.lf (.gho 0))], [], 16, 80, true, .tup [.agg (us .u32 16 48), .lf (.slc 0 0 32 (some 32))], [], [(us .u8 64 32)]⟩
noncomputable def p_ptA_0 : Out := (runBody Tryz.prog [T_Of32, T_Dec, T_Enc, T_Base, T_cTimes, T_szA] [] Tryz.f5 200 T_ptA.args T_ptA.mem T_ptA.nin [true]).getD dOut
theorem r_ptA_0 : runBody Tryz.prog [T_Of32, T_Dec, T_Enc, T_Base, T_cTimes, T_szA] [] Tryz.f5 200 T_ptA.args T_ptA.mem T_ptA.nin [true] = some p_ptA_0 := run_get (by kernel_rfl)
def ft_ptA_0 : Fit := ⟨((vs 48 33) ++ (ls 0 15) ++ (vs 16 32)), [2]⟩
theorem w_ptA_0 : (fitsB T_ptA p_ptA_0 ft_ptA_0 && wfS T_ptA.nin p_ptA_0.g.ssa p_ptA_0.g.n) = true := by kernel_rfl
theorem E_ptA_0 {F : Fns} {v : Nat → Int} (h : StHold F v (rawSt p_ptA_0.g.ssa)) : (seg v 16 32 = gets (F 5 ([] : List Int)) 0 32) ∧ (seg v 48 34 = gets (F 1 (seg v 0 48)) 0 34) := Eq.mp (by kernel_rfl) h
theorem A_ptA_0 {pr : Prs} {v : Nat → Int} (h : ((v 81 != 0) = true) ∧ (pr 1 (seg v 0 48)) ∧ (pr 5 ([] : List Int)) ∧ True) : HoldL pr v p_ptA_0.g.asm := Eq.mp (by kernel_rfl) h
noncomputable def p_ptA_1 : Out := (runBody Tryz.prog [T_Of32, T_Dec, T_Enc, T_Base, T_cTimes, T_szA] [] Tryz.f5 200 T_ptA.args T_ptA.mem T_ptA.nin [false]).getD dOut
theorem r_ptA_1 : runBody Tryz.prog [T_Of32, T_Dec, T_Enc, T_Base, T_cTimes, T_szA] [] Tryz.f5 200 T_ptA.args T_ptA.mem T_ptA.nin [false] = some p_ptA_1 := run_get (by kernel_rfl)
def ft_ptA_1 : Fit := ⟨(vs 123 80), [5]⟩
theorem w_ptA_1 : (fitsB T_ptA p_ptA_1 ft_ptA_1 && wfS T_ptA.nin p_ptA_1.g.ssa p_ptA_1.g.n) = true := by kernel_rfl
theorem E_ptA_1 {F : Fns} {v : Nat → Int} (h : StHold F v (rawSt p_ptA_1.g.ssa)) : (seg v 16 32 = gets (F 5 ([] : List Int)) 0 32) ∧ (seg v 48 34 = gets (F 1 (seg v 0 48)) 0 34) ∧ (seg v 82 8 = gets (F 0 (seg v 16 32)) 0 8) ∧ (seg v 90 33 = gets (F 3 (seg v 0 16)) 0 33) ∧ (seg v 123 48 = gets (F 4 (seg v 0 16 ++ seg v 82 8 ++ [0, 0, 0, 0, 0, 0, 0, 0] ++ seg v 90 33 ++ [0, 0, 0, 0, 0, 0, 0, 0, 0, 0, 0, 0, 0, 0, 0])) 0 48) ∧ (seg v 171 32 = gets (F 2 (seg v 0 16 ++ seg v 123 48)) 0 32) := Eq.mp (by kernel_rfl) h
theorem A_ptA_1 {pr : Prs} {v : Nat → Int} (h : (pr 2 (seg v 0 16 ++ seg v 123 48)) ∧ (pr 4 (seg v 0 16 ++ seg v 82 8 ++ [0, 0, 0, 0, 0, 0, 0, 0] ++ seg v 90 33 ++ [0, 0, 0, 0, 0, 0, 0, 0, 0, 0, 0, 0, 0, 0, 0])) ∧ (pr 3 (seg v 0 16)) ∧ (pr 0 (seg v 16 32)) ∧ ((v 81 != 0) = false) ∧ (pr 1 (seg v 0 48)) ∧ (pr 5 ([] : List Int)) ∧ True) : HoldL pr v p_ptA_1.g.asm := Eq.mp (by kernel_rfl) h
def T_ptB : Tmpl := ⟨5, [.one (.agg (us .u32 0 16)), .one (.lf (.gho 1))], [], 16, 80, true, .tup [.agg (us .u32 16 48), .lf (.slc 0 0 32 (some 32))], [], [(us .u8 64 32)]⟩
noncomputable def p_ptB_0 : Out := (runBody Tryz.prog [T_Of32, T_Dec, T_Enc, T_Base, T_cTimes, T_szB] [] Tryz.f5 200 T_ptB.args T_ptB.mem T_ptB.nin [true]).getD dOut
theorem r_ptB_0 : runBody Tryz.prog [T_Of32, T_Dec, T_Enc, T_Base, T_cTimes, T_szB] [] Tryz.f5 200 T_ptB.args T_ptB.mem T_ptB.nin [true] = some p_ptB_0 := run_get (by kernel_rfl)
def ft_ptB_0 : Fit := ⟨((vs 48 33) ++ (ls 0 15) ++ (vs 16 32)), [2]⟩
theorem w_ptB_0 : (fitsB T_ptB p_ptB_0 ft_ptB_0 && wfS T_ptB.nin p_ptB_0.g.ssa p_ptB_0.g.n) = true := by kernel_rfl
theorem E_ptB_0 {F : Fns} {v : Nat → Int} (h : StHold F v (rawSt p_ptB_0.g.ssa)) : (seg v 16 32 = gets (F 5 ([] : List Int)) 0 32) ∧ (seg v 48 34 = gets (F 1 (seg v 0 48)) 0 34) := Eq.mp (by kernel_rfl) h
theorem A_ptB_0 {pr : Prs} {v : Nat → Int} (h : ((v 81 != 0) = true) ∧ (pr 1 (seg v 0 48)) ∧ (pr 5 ([] : List Int)) ∧ True) : HoldL pr v p_ptB_0.g.asm := Eq.mp (by kernel_rfl) h
noncomputable def p_ptB_1 : Out := (runBody Tryz.prog [T_Of32, T_Dec, T_Enc, T_Base, T_cTimes, T_szB] [] Tryz.f5 200 T_ptB.args T_ptB.mem T_ptB.nin [false]).getD dOut
theorem r_ptB_1 : runBody Tryz.prog [T_Of32, T_Dec, T_Enc, T_Base, T_cTimes, T_szB] [] Tryz.f5 200 T_ptB.args T_ptB.mem T_ptB.nin [false] = some p_ptB_1 := run_get (by kernel_rfl)
def ft_ptB_1 : Fit := ⟨(vs 123 80), [5]⟩
theorem w_ptB_1 : (fitsB T_ptB p_ptB_1 ft_ptB_1 && wfS T_ptB.nin p_ptB_1.g.ssa p_ptB_1.g.n) = true := by kernel_rfl
theorem E_ptB_1 {F : Fns} {v : Nat → Int} (h : StHold F v (rawSt p_ptB_1.g.ssa)) : (seg v 16 32 = gets (F 5 ([] : List Int)) 0 32) ∧ (seg v 48 34 = gets (F 1 (seg v 0 48)) 0 34) ∧ (seg v 82 8 = gets (F 0 (seg v 16 32)) 0 8) ∧ (seg v 90 33 = gets (F 3 (seg v 0 16)) 0 33) ∧ (seg v 123 48 = gets (F 4 (seg v 0 16 ++ seg v 82 8 ++ [0, 0, 0, 0, 0, 0, 0, 0] ++ seg v 90 33 ++ [0, 0, 0, 0, 0, 0, 0, 0, 0, 0, 0, 0, 0, 0, 0])) 0 48) ∧ (seg v 171 32 = gets (F 2 (seg v 0 16 ++ seg v 123 48)) 0 32) := Eq.mp (by kernel_rfl) h
theorem A_ptB_1 {pr : Prs} {v : Nat → Int} (h : (pr 2 (seg v 0 16 ++ seg v 123 48)) ∧ (pr 4 (seg v 0 16 ++ seg v 82 8 ++ [0, 0, 0, 0, 0, 0, 0, 0] ++ seg v 90 33 ++ [0, 0, 0, 0, 0, 0, 0, 0, 0, 0, 0, 0, 0, 0, 0])) ∧ (pr 3 (seg v 0 16)) ∧ (pr 0 (seg v 16 32)) ∧ ((v 81 != 0) = false) ∧ (pr 1 (seg v 0 48)) ∧ (pr 5 ([] : List Int)) ∧ True) : HoldL pr v p_ptB_1.g.asm := Eq.mp (by kernel_rfl) h
def T_FnPts : Tmpl := ⟨3, [.one (.lf (.gho 0)), .one (.lf (.gho 1))], [], 0, 1, true, .one (.lf (.bool (.v 0))), [], []⟩
noncomputable def p_FnPts_0 : Out := (runBody Tryz.prog [T_same32, T_Edw, T_Enc, T_cPlus, T_Turned, T_cSame, T_iSums, T_ptA, T_ptB] [] Tryz.f3 200 T_FnPts.args T_FnPts.mem T_FnPts.nin [true]).getD dOut
theorem r_FnPts_0 : runBody Tryz.prog [T_same32, T_Edw, T_Enc, T_cPlus, T_Turned, T_cSame, T_iSums, T_ptA, T_ptB] [] Tryz.f3 200 T_FnPts.args T_FnPts.mem T_FnPts.nin [true] = some p_FnPts_0 := run_get (by kernel_rfl)
def ft_FnPts_0 : Fit := ⟨[(.l 1)], []⟩
theorem w_FnPts_0 : (fitsB T_FnPts p_FnPts_0 ft_FnPts_0 && wfS T_FnPts.nin p_FnPts_0.g.ssa p_FnPts_0.g.n) = true := by kernel_rfl
theorem E_FnPts_0 {F : Fns} {v : Nat → Int} (h : StHold F v (rawSt p_FnPts_0.g.ssa)) : (v 0 = (F 1000000 []).getD 0 0) ∧ (v 1 = op2 .gtr .i64 (v 0) 2147483647) := Eq.mp (by kernel_rfl) h
theorem A_FnPts_0 {pr : Prs} {v : Nat → Int} (h : ((v 1 != 0) = true) ∧ True) : HoldL pr v p_FnPts_0.g.asm := Eq.mp (by kernel_rfl) h
noncomputable def p_FnPts_1 : Out := (runBody Tryz.prog [T_same32, T_Edw, T_Enc, T_cPlus, T_Turned, T_cSame, T_iSums, T_ptA, T_ptB] [] Tryz.f3 200 T_FnPts.args T_FnPts.mem T_FnPts.nin [false, true]).getD dOut
theorem r_FnPts_1 : runBody Tryz.prog [T_same32, T_Edw, T_Enc, T_cPlus, T_Turned, T_cSame, T_iSums, T_ptA, T_ptB] [] Tryz.f3 200 T_FnPts.args T_FnPts.mem T_FnPts.nin [false, true] = some p_FnPts_1 := run_get (by kernel_rfl)
def ft_FnPts_1 : Fit := ⟨[(.l 1)], []⟩
theorem w_FnPts_1 : (fitsB T_FnPts p_FnPts_1 ft_FnPts_1 && wfS T_FnPts.nin p_FnPts_1.g.ssa p_FnPts_1.g.n) = true := by kernel_rfl
theorem E_FnPts_1 {F : Fns} {v : Nat → Int} (h : StHold F v (rawSt p_FnPts_1.g.ssa)) : (v 0 = (F 1000000 []).getD 0 0) ∧ (v 1 = op2 .gtr .i64 (v 0) 2147483647) ∧ (v 2 = (F 1000001 []).getD 0 0) ∧ (v 3 = op2 .gtr .i64 (v 2) 2147483647) := Eq.mp (by kernel_rfl) h
theorem A_FnPts_1 {pr : Prs} {v : Nat → Int} (h : ((v 3 != 0) = true) ∧ ((v 1 != 0) = false) ∧ True) : HoldL pr v p_FnPts_1.g.asm := Eq.mp (by kernel_rfl) h
noncomputable def p_FnPts_2 : Out := (runBody Tryz.prog [T_same32, T_Edw, T_Enc, T_cPlus, T_Turned, T_cSame, T_iSums, T_ptA, T_ptB] [] Tryz.f3 200 T_FnPts.args T_FnPts.mem T_FnPts.nin [false, false, false, false, false, false]).getD dOut
theorem r_FnPts_2 : runBody Tryz.prog [T_same32, T_Edw, T_Enc, T_cPlus, T_Turned, T_cSame, T_iSums, T_ptA, T_ptB] [] Tryz.f3 200 T_FnPts.args T_FnPts.mem T_FnPts.nin [false, false, false, false, false, false] = some p_FnPts_2 := run_get (by kernel_rfl)
def ft_FnPts_2 : Fit := ⟨[(.v 720)], []⟩
theorem w_FnPts_2 : (fitsB T_FnPts p_FnPts_2 ft_FnPts_2 && wfS T_FnPts.nin p_FnPts_2.g.ssa p_FnPts_2.g.n) = true := by kernel_rfl
theorem E_FnPts_2 {F : Fns} {v : Nat → Int} (h : StHold F v (rawSt p_FnPts_2.g.ssa)) : (v 0 = (F 1000000 []).getD 0 0) ∧ (v 1 = op2 .gtr .i64 (v 0) 2147483647) ∧ (v 2 = (F 1000001 []).getD 0 0) ∧ (v 3 = op2 .gtr .i64 (v 2) 2147483647) ∧ (seg v 4 16 = gets (F 1 ([] : List Int)) 0 16) ∧ (seg v 20 80 = gets (F 7 (seg v 4 16)) 0 80) ∧ (seg v 100 80 = gets (F 8 (seg v 4 16)) 0 80) ∧ (seg v 180 129 = gets (F 6 (seg v 68 32 ++ seg v 148 32)) 0 129) ∧ (seg v 309 48 = gets (F 3 (seg v 4 64 ++ seg v 20 48)) 0 48) ∧ (seg v 357 48 = gets (F 3 (seg v 4 16 ++ seg v 309 48 ++ seg v 309 48)) 0 48) ∧ (seg v 405 48 = gets (F 3 (seg v 4 64 ++ seg v 100 48)) 0 48) ∧ (seg v 453 16 = gets (F 4 (seg v 4 16 ++ seg v 100 48)) 0 16) ∧ (seg v 469 48 = gets (F 3 (seg v 4 64 ++ seg v 453 16 ++ seg v 116 32)) 0 48) ∧ (seg v 517 16 = gets (F 4 (seg v 4 64)) 0 16) ∧ (seg v 533 48 = gets (F 3 (seg v 4 16 ++ seg v 357 48 ++ seg v 357 48)) 0 48) ∧ (seg v 581 32 = gets (F 2 (seg v 4 16 ++ seg v 405 48)) 0 32) ∧ (v 613 = (F 0 (seg v 181 32 ++ seg v 581 32)).getD 0 0) ∧ (v 614 = (if v 613 ≠ 0 then 0 else 1)) ∧ (seg v 615 32 = gets (F 2 (seg v 4 16 ++ seg v 469 48)) 0 32) ∧ (v 647 = (F 0 (seg v 213 32 ++ seg v 615 32)).getD 0 0) ∧ (v 648 = (if v 647 ≠ 0 then 0 else 1)) ∧ (seg v 649 32 = gets (F 2 (seg v 4 16 ++ seg v 517 16 ++ seg v 36 32)) 0 32) ∧ (v 681 = (F 0 (seg v 245 32 ++ seg v 649 32)).getD 0 0) ∧ (v 682 = (if v 681 ≠ 0 then 0 else 1)) ∧ (seg v 683 32 = gets (F 2 (seg v 4 16 ++ seg v 533 48)) 0 32) ∧ (v 715 = (F 0 (seg v 277 32 ++ seg v 683 32)).getD 0 0) ∧ (v 716 = (if v 715 ≠ 0 then 0 else 1)) ∧ (v 717 = (F 5 (seg v 4 64 ++ seg v 100 48)).getD 0 0) ∧ (v 718 = (if v 717 ≠ 0 then 1 else 0)) ∧ (v 719 = (if v 717 ≠ 0 then 0 else 1)) ∧ (v 720 = (if v 180 ≠ 0 then v 718 else v 719)) := Eq.mp (by kernel_rfl) h
theorem A_FnPts_2 {pr : Prs} {v : Nat → Int} (h : (pr 5 (seg v 4 64 ++ seg v 100 48)) ∧ ((v 716 != 0) = false) ∧ (pr 0 (seg v 277 32 ++ seg v 683 32)) ∧ (pr 2 (seg v 4 16 ++ seg v 533 48)) ∧ ((v 682 != 0) = false) ∧ (pr 0 (seg v 245 32 ++ seg v 649 32)) ∧ (pr 2 (seg v 4 16 ++ seg v 517 16 ++ seg v 36 32)) ∧ ((v 648 != 0) = false) ∧ (pr 0 (seg v 213 32 ++ seg v 615 32)) ∧ (pr 2 (seg v 4 16 ++ seg v 469 48)) ∧ ((v 614 != 0) = false) ∧ (pr 0 (seg v 181 32 ++ seg v 581 32)) ∧ (pr 2 (seg v 4 16 ++ seg v 405 48)) ∧ (pr 3 (seg v 4 16 ++ seg v 357 48 ++ seg v 357 48)) ∧ (pr 4 (seg v 4 64)) ∧ (pr 3 (seg v 4 64 ++ seg v 453 16 ++ seg v 116 32)) ∧ (pr 4 (seg v 4 16 ++ seg v 100 48)) ∧ (pr 3 (seg v 4 64 ++ seg v 100 48)) ∧ (pr 3 (seg v 4 16 ++ seg v 309 48 ++ seg v 309 48)) ∧ (pr 3 (seg v 4 64 ++ seg v 20 48)) ∧ (pr 6 (seg v 68 32 ++ seg v 148 32)) ∧ (pr 8 (seg v 4 16)) ∧ (pr 7 (seg v 4 16)) ∧ (pr 1 ([] : List Int)) ∧ ((v 3 != 0) = false) ∧ ((v 1 != 0) = false) ∧ True) : HoldL pr v p_FnPts_2.g.asm := Eq.mp (by kernel_rfl) h
end Go.X.Z
