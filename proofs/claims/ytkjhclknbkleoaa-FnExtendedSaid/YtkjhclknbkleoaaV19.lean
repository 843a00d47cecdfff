/-
  A part of the proof of Ytkjhclknbkleoaa: texts LG1. No conditions.
-/
import Derived.Test.YtkjhclknbkleoaaV18
set_option maxRecDepth 20000
namespace Go.X.Y
open Go.Proofs

def dOut : Out := ⟨.tup [], [], ⟨[], 0, [], [], []⟩⟩
theorem run_get {o : Option Out} (h : o.isSome = true) : o = some (o.getD dOut) := by
  cases o with
  | none => cases h
  | some x => rfl

def T_ptA : Tmpl := ⟨26, [.one (.agg (us .u32 0 16)), .one (.lf (.gho 0))], [], 16, 80, true, .tup [.agg (us .u32 16 48), .lf (.slc 0 0 32 (some 32))], [], [(us .u8 64 32)]⟩
noncomputable def p_ptA_0 : Out := (runBody Try.prog [T_Of32, T_Dec, T_Enc, T_Base, T_cTimes, T_szA] [] Try.f26 200 T_ptA.args T_ptA.mem T_ptA.nin [true]).getD dOut
theorem r_ptA_0 : runBody Try.prog [T_Of32, T_Dec, T_Enc, T_Base, T_cTimes, T_szA] [] Try.f26 200 T_ptA.args T_ptA.mem T_ptA.nin [true] = some p_ptA_0 := run_get (by kernel_rfl)
def ft_ptA_0 : Fit := ⟨((vs 48 33) ++ (ls 0 15) ++ (vs 16 32)), [2]⟩
theorem w_ptA_0 : (fitsB T_ptA p_ptA_0 ft_ptA_0 && wfS T_ptA.nin p_ptA_0.g.ssa p_ptA_0.g.n) = true := by kernel_rfl
theorem E_ptA_0 {F : Fns} {v : Nat → Int} (h : StHold F v (rawSt p_ptA_0.g.ssa)) : (seg v 16 32 = gets (F 5 ([] : List Int)) 0 32) ∧ (seg v 48 34 = gets (F 1 (seg v 0 48)) 0 34) := Eq.mp (by kernel_rfl) h
theorem A_ptA_0 {pr : Prs} {v : Nat → Int} (h : ((v 81 != 0) = true) ∧ (pr 1 (seg v 0 48)) ∧ (pr 5 ([] : List Int)) ∧ True) : HoldL pr v p_ptA_0.g.asm := Eq.mp (by kernel_rfl) h
noncomputable def p_ptA_1 : Out := (runBody Try.prog [T_Of32, T_Dec, T_Enc, T_Base, T_cTimes, T_szA] [] Try.f26 200 T_ptA.args T_ptA.mem T_ptA.nin [false]).getD dOut
theorem r_ptA_1 : runBody Try.prog [T_Of32, T_Dec, T_Enc, T_Base, T_cTimes, T_szA] [] Try.f26 200 T_ptA.args T_ptA.mem T_ptA.nin [false] = some p_ptA_1 := run_get (by kernel_rfl)
def ft_ptA_1 : Fit := ⟨(vs 123 80), [5]⟩
theorem w_ptA_1 : (fitsB T_ptA p_ptA_1 ft_ptA_1 && wfS T_ptA.nin p_ptA_1.g.ssa p_ptA_1.g.n) = true := by kernel_rfl
theorem E_ptA_1 {F : Fns} {v : Nat → Int} (h : StHold F v (rawSt p_ptA_1.g.ssa)) : (seg v 16 32 = gets (F 5 ([] : List Int)) 0 32) ∧ (seg v 48 34 = gets (F 1 (seg v 0 48)) 0 34) ∧ (seg v 82 8 = gets (F 0 (seg v 16 32)) 0 8) ∧ (seg v 90 33 = gets (F 3 (seg v 0 16)) 0 33) ∧ (seg v 123 48 = gets (F 4 (seg v 0 16 ++ seg v 82 8 ++ [0, 0, 0, 0, 0, 0, 0, 0] ++ seg v 90 33 ++ [0, 0, 0, 0, 0, 0, 0, 0, 0, 0, 0, 0, 0, 0, 0])) 0 48) ∧ (seg v 171 32 = gets (F 2 (seg v 0 16 ++ seg v 123 48)) 0 32) := Eq.mp (by kernel_rfl) h
theorem A_ptA_1 {pr : Prs} {v : Nat → Int} (h : (pr 2 (seg v 0 16 ++ seg v 123 48)) ∧ (pr 4 (seg v 0 16 ++ seg v 82 8 ++ [0, 0, 0, 0, 0, 0, 0, 0] ++ seg v 90 33 ++ [0, 0, 0, 0, 0, 0, 0, 0, 0, 0, 0, 0, 0, 0, 0])) ∧ (pr 3 (seg v 0 16)) ∧ (pr 0 (seg v 16 32)) ∧ ((v 81 != 0) = false) ∧ (pr 1 (seg v 0 48)) ∧ (pr 5 ([] : List Int)) ∧ True) : HoldL pr v p_ptA_1.g.asm := Eq.mp (by kernel_rfl) h
def T_FnExtT : Tmpl := ⟨6, [.one (.lf (.gho 0)), .one (.lf (.int .i64 (.v 0))), .one (.lf (.gho 1))], [], 1, 1, true, .one (.lf (.bool (.v 1))), [], []⟩
abbrev ts_FnExtT : List Tmpl := [T_NBytes, T_Of32, T_Field, T_FAdd, T_FSub, T_FMul, T_same32, T_Edw, T_Enc, T_cD, T_cSame, T_iExt, T_iFrom, T_szA, T_szB, T_ptA]
noncomputable abbrev run_FnExtT (o : List Bool) : Option Out := runBody Try.prog ts_FnExtT [] Try.f6 200 T_FnExtT.args T_FnExtT.mem T_FnExtT.nin o
noncomputable def p_FnExtT_0 : Out := (run_FnExtT [true]).getD dOut
theorem r_FnExtT_0 : run_FnExtT [true] = some p_FnExtT_0 := run_get (by kernel_rfl)
def ft_FnExtT_0 : Fit := ⟨[(.l 1)], []⟩
theorem w_FnExtT_0 : (fitsB T_FnExtT p_FnExtT_0 ft_FnExtT_0 && wfS T_FnExtT.nin p_FnExtT_0.g.ssa p_FnExtT_0.g.n) = true := by kernel_rfl
theorem E_FnExtT_0 {F : Fns} {v : Nat → Int} (h : StHold F v (rawSt p_FnExtT_0.g.ssa)) : (v 1 = (F 1000000 []).getD 0 0) ∧ (v 2 = op2 .gtr .i64 (v 1) 2147483647) := Eq.mp (by kernel_rfl) h
theorem A_FnExtT_0 {pr : Prs} {v : Nat → Int} (h : ((v 2 != 0) = true) ∧ True) : HoldL pr v p_FnExtT_0.g.asm := Eq.mp (by kernel_rfl) h
noncomputable def p_FnExtT_1 : Out := (run_FnExtT [false, true]).getD dOut
theorem r_FnExtT_1 : run_FnExtT [false, true] = some p_FnExtT_1 := run_get (by kernel_rfl)
def ft_FnExtT_1 : Fit := ⟨[(.l 1)], []⟩
theorem w_FnExtT_1 : (fitsB T_FnExtT p_FnExtT_1 ft_FnExtT_1 && wfS T_FnExtT.nin p_FnExtT_1.g.ssa p_FnExtT_1.g.n) = true := by kernel_rfl
theorem E_FnExtT_1 {F : Fns} {v : Nat → Int} (h : StHold F v (rawSt p_FnExtT_1.g.ssa)) : (v 1 = (F 1000000 []).getD 0 0) ∧ (v 2 = op2 .gtr .i64 (v 1) 2147483647) ∧ (v 3 = (F 1000001 []).getD 0 0) ∧ (v 4 = op2 .gtr .i64 (v 3) 2147483647) := Eq.mp (by kernel_rfl) h
theorem A_FnExtT_1 {pr : Prs} {v : Nat → Int} (h : ((v 4 != 0) = true) ∧ ((v 2 != 0) = false) ∧ True) : HoldL pr v p_FnExtT_1.g.asm := Eq.mp (by kernel_rfl) h
noncomputable def p_FnExtT_2 : Out := (run_FnExtT [false, false, false, false, true, true, true, true, false, true, true]).getD dOut
theorem r_FnExtT_2 : run_FnExtT [false, false, false, false, true, true, true, true, false, true, true] = some p_FnExtT_2 := run_get (by kernel_rfl)
def ft_FnExtT_2 : Fit := ⟨[(.v 767)], []⟩
theorem w_FnExtT_2 : (fitsB T_FnExtT p_FnExtT_2 ft_FnExtT_2 && wfS T_FnExtT.nin p_FnExtT_2.g.ssa p_FnExtT_2.g.n) = true := by kernel_rfl
theorem E_FnExtT_2 {F : Fns} {v : Nat → Int} (h : StHold F v (rawSt p_FnExtT_2.g.ssa)) : Hd F v (Md F v 0 (Tl1 F v 407 261 285 309 424 (Tl2 F v 424 (TlT F v 407 261 285 309 424)))) := Eq.mp (by kernel_rfl) h
theorem A_FnExtT_2 {pr : Prs} {v : Nat → Int} (h : ATlT pr v 407 261 285 309 424 (ATl2 pr v 424 (ATl1 pr v 407 261 285 309 (AMd pr v (AHd pr v))))) : HoldL pr v p_FnExtT_2.g.asm := Eq.mp (by kernel_rfl) h
noncomputable def p_FnExtT_3 : Out := (run_FnExtT [false, false, false, false, true, false, true, true, true, false, true, true]).getD dOut
theorem r_FnExtT_3 : run_FnExtT [false, false, false, false, true, false, true, true, true, false, true, true] = some p_FnExtT_3 := run_get (by kernel_rfl)
def ft_FnExtT_3 : Fit := ⟨[(.v 767)], []⟩
theorem w_FnExtT_3 : (fitsB T_FnExtT p_FnExtT_3 ft_FnExtT_3 && wfS T_FnExtT.nin p_FnExtT_3.g.ssa p_FnExtT_3.g.n) = true := by kernel_rfl
theorem E_FnExtT_3 {F : Fns} {v : Nat → Int} (h : StHold F v (rawSt p_FnExtT_3.g.ssa)) : Hd F v (Md F v 1 (Tl1 F v 237 407 285 309 424 (Tl2 F v 424 (TlT F v 237 407 285 309 424)))) := Eq.mp (by kernel_rfl) h
theorem A_FnExtT_3 {pr : Prs} {v : Nat → Int} (h : ATlT pr v 237 407 285 309 424 (ATl2 pr v 424 (ATl1 pr v 237 407 285 309 (AMd pr v (AHd pr v))))) : HoldL pr v p_FnExtT_3.g.asm := Eq.mp (by kernel_rfl) h
noncomputable def p_FnExtT_4 : Out := (run_FnExtT [false, false, false, false, true, false, false, true, true, true, false, true, true]).getD dOut
theorem r_FnExtT_4 : run_FnExtT [false, false, false, false, true, false, false, true, true, true, false, true, true] = some p_FnExtT_4 := run_get (by kernel_rfl)
def ft_FnExtT_4 : Fit := ⟨[(.v 767)], []⟩
theorem w_FnExtT_4 : (fitsB T_FnExtT p_FnExtT_4 ft_FnExtT_4 && wfS T_FnExtT.nin p_FnExtT_4.g.ssa p_FnExtT_4.g.n) = true := by kernel_rfl
theorem E_FnExtT_4 {F : Fns} {v : Nat → Int} (h : StHold F v (rawSt p_FnExtT_4.g.ssa)) : Hd F v (Md F v 2 (Tl1 F v 237 261 407 309 424 (Tl2 F v 424 (TlT F v 237 261 407 309 424)))) := Eq.mp (by kernel_rfl) h
theorem A_FnExtT_4 {pr : Prs} {v : Nat → Int} (h : ATlT pr v 237 261 407 309 424 (ATl2 pr v 424 (ATl1 pr v 237 261 407 309 (AMd pr v (AHd pr v))))) : HoldL pr v p_FnExtT_4.g.asm := Eq.mp (by kernel_rfl) h
noncomputable def p_FnExtT_5 : Out := (run_FnExtT [false, false, false, false, true, false, false, false, true, true, true, false, true, true]).getD dOut
theorem r_FnExtT_5 : run_FnExtT [false, false, false, false, true, false, false, false, true, true, true, false, true, true] = some p_FnExtT_5 := run_get (by kernel_rfl)
def ft_FnExtT_5 : Fit := ⟨[(.v 767)], []⟩
theorem w_FnExtT_5 : (fitsB T_FnExtT p_FnExtT_5 ft_FnExtT_5 && wfS T_FnExtT.nin p_FnExtT_5.g.ssa p_FnExtT_5.g.n) = true := by kernel_rfl
theorem E_FnExtT_5 {F : Fns} {v : Nat → Int} (h : StHold F v (rawSt p_FnExtT_5.g.ssa)) : Hd F v (Md F v 3 (Tl1 F v 237 261 285 407 424 (Tl2 F v 424 (TlT F v 237 261 285 407 424)))) := Eq.mp (by kernel_rfl) h
theorem A_FnExtT_5 {pr : Prs} {v : Nat → Int} (h : ATlT pr v 237 261 285 407 424 (ATl2 pr v 424 (ATl1 pr v 237 261 285 407 (AMd pr v (AHd pr v))))) : HoldL pr v p_FnExtT_5.g.asm := Eq.mp (by kernel_rfl) h
noncomputable def p_FnExtT_6 : Out := (run_FnExtT [false, false, false, false, false, true, true, false, true, true]).getD dOut
theorem r_FnExtT_6 : run_FnExtT [false, false, false, false, false, true, true, false, true, true] = some p_FnExtT_6 := run_get (by kernel_rfl)
def ft_FnExtT_6 : Fit := ⟨[(.v 709)], []⟩
theorem w_FnExtT_6 : (fitsB T_FnExtT p_FnExtT_6 ft_FnExtT_6 && wfS T_FnExtT.nin p_FnExtT_6.g.ssa p_FnExtT_6.g.n) = true := by kernel_rfl
theorem E_FnExtT_6 {F : Fns} {v : Nat → Int} (h : StHold F v (rawSt p_FnExtT_6.g.ssa)) : Hd F v (Tl1 F v 237 261 285 309 366 (Tl2 F v 366 (TlT F v 237 261 285 309 366))) := Eq.mp (by kernel_rfl) h
theorem A_FnExtT_6 {pr : Prs} {v : Nat → Int} (h : ATlT pr v 237 261 285 309 366 (ATl2 pr v 366 (ATl1 pr v 237 261 285 309 ((((v 365 != 0) = false) ∧ AHd pr v))))) : HoldL pr v p_FnExtT_6.g.asm := Eq.mp (by kernel_rfl) h
def T_FnExtF : Tmpl := ⟨6, [.one (.lf (.gho 0)), .one (.lf (.int .i64 (.v 0))), .one (.lf (.gho 1))], [], 1, 0, true, .one (.lf (.bool (.l 1))), [], []⟩
abbrev ts_FnExtF : List Tmpl := [T_NBytes, T_Of32, T_Field, T_FAdd, T_FSub, T_FMul, T_same32, T_Edw, T_Enc, T_cD, T_cSame, T_iExt, T_iFromF, T_szA, T_szB, T_ptA]
noncomputable abbrev run_FnExtF (o : List Bool) : Option Out := runBody Try.prog ts_FnExtF [] Try.f6 200 T_FnExtF.args T_FnExtF.mem T_FnExtF.nin o
noncomputable def p_FnExtF_0 : Out := (run_FnExtF [true]).getD dOut
theorem r_FnExtF_0 : run_FnExtF [true] = some p_FnExtF_0 := run_get (by kernel_rfl)
def ft_FnExtF_0 : Fit := ⟨[], []⟩
theorem w_FnExtF_0 : (fitsB T_FnExtF p_FnExtF_0 ft_FnExtF_0 && wfS T_FnExtF.nin p_FnExtF_0.g.ssa p_FnExtF_0.g.n) = true := by kernel_rfl
theorem E_FnExtF_0 {F : Fns} {v : Nat → Int} (h : StHold F v (rawSt p_FnExtF_0.g.ssa)) : (v 1 = (F 1000000 []).getD 0 0) ∧ (v 2 = op2 .gtr .i64 (v 1) 2147483647) := Eq.mp (by kernel_rfl) h
theorem A_FnExtF_0 {pr : Prs} {v : Nat → Int} (h : ((v 2 != 0) = true) ∧ True) : HoldL pr v p_FnExtF_0.g.asm := Eq.mp (by kernel_rfl) h
noncomputable def p_FnExtF_1 : Out := (run_FnExtF [false, true]).getD dOut
theorem r_FnExtF_1 : run_FnExtF [false, true] = some p_FnExtF_1 := run_get (by kernel_rfl)
def ft_FnExtF_1 : Fit := ⟨[], []⟩
theorem w_FnExtF_1 : (fitsB T_FnExtF p_FnExtF_1 ft_FnExtF_1 && wfS T_FnExtF.nin p_FnExtF_1.g.ssa p_FnExtF_1.g.n) = true := by kernel_rfl
theorem E_FnExtF_1 {F : Fns} {v : Nat → Int} (h : StHold F v (rawSt p_FnExtF_1.g.ssa)) : (v 1 = (F 1000000 []).getD 0 0) ∧ (v 2 = op2 .gtr .i64 (v 1) 2147483647) ∧ (v 3 = (F 1000001 []).getD 0 0) ∧ (v 4 = op2 .gtr .i64 (v 3) 2147483647) := Eq.mp (by kernel_rfl) h
theorem A_FnExtF_1 {pr : Prs} {v : Nat → Int} (h : ((v 4 != 0) = true) ∧ ((v 2 != 0) = false) ∧ True) : HoldL pr v p_FnExtF_1.g.asm := Eq.mp (by kernel_rfl) h
noncomputable def p_FnExtF_2 : Out := (run_FnExtF [false, false, false, false, true, true, false, false]).getD dOut
theorem r_FnExtF_2 : run_FnExtF [false, false, false, false, true, true, false, false] = some p_FnExtF_2 := run_get (by kernel_rfl)
def ft_FnExtF_2 : Fit := ⟨[], []⟩
theorem w_FnExtF_2 : (fitsB T_FnExtF p_FnExtF_2 ft_FnExtF_2 && wfS T_FnExtF.nin p_FnExtF_2.g.ssa p_FnExtF_2.g.n) = true := by kernel_rfl
theorem E_FnExtF_2 {F : Fns} {v : Nat → Int} (h : StHold F v (rawSt p_FnExtF_2.g.ssa)) : Hd F v (Md F v 0 (Tl1 F v 407 261 285 309 424 (TlF F v 407 261 285 309 521))) := Eq.mp (by kernel_rfl) h
theorem A_FnExtF_2 {pr : Prs} {v : Nat → Int} (h : ATlF pr v 407 261 285 309 521 false (((v 520 != 0) = false) ∧ ATl1 pr v 407 261 285 309 (AMd pr v (AHd pr v)))) : HoldL pr v p_FnExtF_2.g.asm := Eq.mp (by kernel_rfl) h
noncomputable def p_FnExtF_3 : Out := (run_FnExtF [false, false, false, false, true, true, true, false, false]).getD dOut
theorem r_FnExtF_3 : run_FnExtF [false, false, false, false, true, true, true, false, false] = some p_FnExtF_3 := run_get (by kernel_rfl)
def ft_FnExtF_3 : Fit := ⟨[], []⟩
theorem w_FnExtF_3 : (fitsB T_FnExtF p_FnExtF_3 ft_FnExtF_3 && wfS T_FnExtF.nin p_FnExtF_3.g.ssa p_FnExtF_3.g.n) = true := by kernel_rfl
theorem E_FnExtF_3 {F : Fns} {v : Nat → Int} (h : StHold F v (rawSt p_FnExtF_3.g.ssa)) : Hd F v (Md F v 0 (Tl1 F v 407 261 285 309 424 (Tl2 F v 424 (TlF F v 407 261 285 309 570)))) := Eq.mp (by kernel_rfl) h
theorem A_FnExtF_3 {pr : Prs} {v : Nat → Int} (h : ATlF pr v 407 261 285 309 570 false (((v 569 != 0) = false) ∧ ATl2 pr v 424 (ATl1 pr v 407 261 285 309 (AMd pr v (AHd pr v))))) : HoldL pr v p_FnExtF_3.g.asm := Eq.mp (by kernel_rfl) h
noncomputable def p_FnExtF_4 : Out := (run_FnExtF [false, false, false, false, true, false, true, false, false]).getD dOut
theorem r_FnExtF_4 : run_FnExtF [false, false, false, false, true, false, true, false, false] = some p_FnExtF_4 := run_get (by kernel_rfl)
def ft_FnExtF_4 : Fit := ⟨[], []⟩
theorem w_FnExtF_4 : (fitsB T_FnExtF p_FnExtF_4 ft_FnExtF_4 && wfS T_FnExtF.nin p_FnExtF_4.g.ssa p_FnExtF_4.g.n) = true := by kernel_rfl
theorem E_FnExtF_4 {F : Fns} {v : Nat → Int} (h : StHold F v (rawSt p_FnExtF_4.g.ssa)) : Hd F v (Md F v 1 (Tl1 F v 237 407 285 309 424 (TlF F v 237 407 285 309 521))) := Eq.mp (by kernel_rfl) h
theorem A_FnExtF_4 {pr : Prs} {v : Nat → Int} (h : ATlF pr v 237 407 285 309 521 false (((v 520 != 0) = false) ∧ ATl1 pr v 237 407 285 309 (AMd pr v (AHd pr v)))) : HoldL pr v p_FnExtF_4.g.asm := Eq.mp (by kernel_rfl) h
noncomputable def p_FnExtF_5 : Out := (run_FnExtF [false, false, false, false, true, false, true, true, false, false]).getD dOut
theorem r_FnExtF_5 : run_FnExtF [false, false, false, false, true, false, true, true, false, false] = some p_FnExtF_5 := run_get (by kernel_rfl)
def ft_FnExtF_5 : Fit := ⟨[], []⟩
theorem w_FnExtF_5 : (fitsB T_FnExtF p_FnExtF_5 ft_FnExtF_5 && wfS T_FnExtF.nin p_FnExtF_5.g.ssa p_FnExtF_5.g.n) = true := by kernel_rfl
theorem E_FnExtF_5 {F : Fns} {v : Nat → Int} (h : StHold F v (rawSt p_FnExtF_5.g.ssa)) : Hd F v (Md F v 1 (Tl1 F v 237 407 285 309 424 (Tl2 F v 424 (TlF F v 237 407 285 309 570)))) := Eq.mp (by kernel_rfl) h
theorem A_FnExtF_5 {pr : Prs} {v : Nat → Int} (h : ATlF pr v 237 407 285 309 570 false (((v 569 != 0) = false) ∧ ATl2 pr v 424 (ATl1 pr v 237 407 285 309 (AMd pr v (AHd pr v))))) : HoldL pr v p_FnExtF_5.g.asm := Eq.mp (by kernel_rfl) h
noncomputable def p_FnExtF_6 : Out := (run_FnExtF [false, false, false, false, true, false, false, true, false, false]).getD dOut
theorem r_FnExtF_6 : run_FnExtF [false, false, false, false, true, false, false, true, false, false] = some p_FnExtF_6 := run_get (by kernel_rfl)
def ft_FnExtF_6 : Fit := ⟨[], []⟩
theorem w_FnExtF_6 : (fitsB T_FnExtF p_FnExtF_6 ft_FnExtF_6 && wfS T_FnExtF.nin p_FnExtF_6.g.ssa p_FnExtF_6.g.n) = true := by kernel_rfl
theorem E_FnExtF_6 {F : Fns} {v : Nat → Int} (h : StHold F v (rawSt p_FnExtF_6.g.ssa)) : Hd F v (Md F v 2 (Tl1 F v 237 261 407 309 424 (TlF F v 237 261 407 309 521))) := Eq.mp (by kernel_rfl) h
theorem A_FnExtF_6 {pr : Prs} {v : Nat → Int} (h : ATlF pr v 237 261 407 309 521 false (((v 520 != 0) = false) ∧ ATl1 pr v 237 261 407 309 (AMd pr v (AHd pr v)))) : HoldL pr v p_FnExtF_6.g.asm := Eq.mp (by kernel_rfl) h
noncomputable def p_FnExtF_7 : Out := (run_FnExtF [false, false, false, false, true, false, false, true, true, false, false]).getD dOut
theorem r_FnExtF_7 : run_FnExtF [false, false, false, false, true, false, false, true, true, false, false] = some p_FnExtF_7 := run_get (by kernel_rfl)
def ft_FnExtF_7 : Fit := ⟨[], []⟩
theorem w_FnExtF_7 : (fitsB T_FnExtF p_FnExtF_7 ft_FnExtF_7 && wfS T_FnExtF.nin p_FnExtF_7.g.ssa p_FnExtF_7.g.n) = true := by kernel_rfl
theorem E_FnExtF_7 {F : Fns} {v : Nat → Int} (h : StHold F v (rawSt p_FnExtF_7.g.ssa)) : Hd F v (Md F v 2 (Tl1 F v 237 261 407 309 424 (Tl2 F v 424 (TlF F v 237 261 407 309 570)))) := Eq.mp (by kernel_rfl) h
theorem A_FnExtF_7 {pr : Prs} {v : Nat → Int} (h : ATlF pr v 237 261 407 309 570 false (((v 569 != 0) = false) ∧ ATl2 pr v 424 (ATl1 pr v 237 261 407 309 (AMd pr v (AHd pr v))))) : HoldL pr v p_FnExtF_7.g.asm := Eq.mp (by kernel_rfl) h
noncomputable def p_FnExtF_8 : Out := (run_FnExtF [false, false, false, false, true, false, false, false, true, false, false]).getD dOut
theorem r_FnExtF_8 : run_FnExtF [false, false, false, false, true, false, false, false, true, false, false] = some p_FnExtF_8 := run_get (by kernel_rfl)
def ft_FnExtF_8 : Fit := ⟨[], []⟩
theorem w_FnExtF_8 : (fitsB T_FnExtF p_FnExtF_8 ft_FnExtF_8 && wfS T_FnExtF.nin p_FnExtF_8.g.ssa p_FnExtF_8.g.n) = true := by kernel_rfl
theorem E_FnExtF_8 {F : Fns} {v : Nat → Int} (h : StHold F v (rawSt p_FnExtF_8.g.ssa)) : Hd F v (Md F v 3 (Tl1 F v 237 261 285 407 424 (TlF F v 237 261 285 407 521))) := Eq.mp (by kernel_rfl) h
theorem A_FnExtF_8 {pr : Prs} {v : Nat → Int} (h : ATlF pr v 237 261 285 407 521 false (((v 520 != 0) = false) ∧ ATl1 pr v 237 261 285 407 (AMd pr v (AHd pr v)))) : HoldL pr v p_FnExtF_8.g.asm := Eq.mp (by kernel_rfl) h
noncomputable def p_FnExtF_9 : Out := (run_FnExtF [false, false, false, false, true, false, false, false, true, true, false, false]).getD dOut
theorem r_FnExtF_9 : run_FnExtF [false, false, false, false, true, false, false, false, true, true, false, false] = some p_FnExtF_9 := run_get (by kernel_rfl)
def ft_FnExtF_9 : Fit := ⟨[], []⟩
theorem w_FnExtF_9 : (fitsB T_FnExtF p_FnExtF_9 ft_FnExtF_9 && wfS T_FnExtF.nin p_FnExtF_9.g.ssa p_FnExtF_9.g.n) = true := by kernel_rfl
theorem E_FnExtF_9 {F : Fns} {v : Nat → Int} (h : StHold F v (rawSt p_FnExtF_9.g.ssa)) : Hd F v (Md F v 3 (Tl1 F v 237 261 285 407 424 (Tl2 F v 424 (TlF F v 237 261 285 407 570)))) := Eq.mp (by kernel_rfl) h
theorem A_FnExtF_9 {pr : Prs} {v : Nat → Int} (h : ATlF pr v 237 261 285 407 570 false (((v 569 != 0) = false) ∧ ATl2 pr v 424 (ATl1 pr v 237 261 285 407 (AMd pr v (AHd pr v))))) : HoldL pr v p_FnExtF_9.g.asm := Eq.mp (by kernel_rfl) h
noncomputable def p_FnExtF_10 : Out := (run_FnExtF [false, false, false, false, false, false, false]).getD dOut
theorem r_FnExtF_10 : run_FnExtF [false, false, false, false, false, false, false] = some p_FnExtF_10 := run_get (by kernel_rfl)
def ft_FnExtF_10 : Fit := ⟨[], []⟩
theorem w_FnExtF_10 : (fitsB T_FnExtF p_FnExtF_10 ft_FnExtF_10 && wfS T_FnExtF.nin p_FnExtF_10.g.ssa p_FnExtF_10.g.n) = true := by kernel_rfl
theorem E_FnExtF_10 {F : Fns} {v : Nat → Int} (h : StHold F v (rawSt p_FnExtF_10.g.ssa)) : Hd F v (Tl1 F v 237 261 285 309 366 (TlF F v 237 261 285 309 463)) := Eq.mp (by kernel_rfl) h
theorem A_FnExtF_10 {pr : Prs} {v : Nat → Int} (h : ATlF pr v 237 261 285 309 463 false (((v 462 != 0) = false) ∧ ATl1 pr v 237 261 285 309 ((((v 365 != 0) = false) ∧ AHd pr v)))) : HoldL pr v p_FnExtF_10.g.asm := Eq.mp (by kernel_rfl) h
noncomputable def p_FnExtF_11 : Out := (run_FnExtF [false, false, false, false, false, true, false, false]).getD dOut
theorem r_FnExtF_11 : run_FnExtF [false, false, false, false, false, true, false, false] = some p_FnExtF_11 := run_get (by kernel_rfl)
def ft_FnExtF_11 : Fit := ⟨[], []⟩
theorem w_FnExtF_11 : (fitsB T_FnExtF p_FnExtF_11 ft_FnExtF_11 && wfS T_FnExtF.nin p_FnExtF_11.g.ssa p_FnExtF_11.g.n) = true := by kernel_rfl
theorem E_FnExtF_11 {F : Fns} {v : Nat → Int} (h : StHold F v (rawSt p_FnExtF_11.g.ssa)) : Hd F v (Tl1 F v 237 261 285 309 366 (Tl2 F v 366 (TlF F v 237 261 285 309 512))) := Eq.mp (by kernel_rfl) h
theorem A_FnExtF_11 {pr : Prs} {v : Nat → Int} (h : ATlF pr v 237 261 285 309 512 false (((v 511 != 0) = false) ∧ ATl2 pr v 366 (ATl1 pr v 237 261 285 309 ((((v 365 != 0) = false) ∧ AHd pr v))))) : HoldL pr v p_FnExtF_11.g.asm := Eq.mp (by kernel_rfl) h
noncomputable def p_FnExtF_12 : Out := (run_FnExtF [false, false, false, false, true, false, false, true, false, true]).getD dOut
theorem r_FnExtF_12 : run_FnExtF [false, false, false, false, true, false, false, true, false, true] = some p_FnExtF_12 := run_get (by kernel_rfl)
def ft_FnExtF_12 : Fit := ⟨[], []⟩
theorem w_FnExtF_12 : (fitsB T_FnExtF p_FnExtF_12 ft_FnExtF_12 && wfS T_FnExtF.nin p_FnExtF_12.g.ssa p_FnExtF_12.g.n) = true := by kernel_rfl
theorem E_FnExtF_12 {F : Fns} {v : Nat → Int} (h : StHold F v (rawSt p_FnExtF_12.g.ssa)) : Hd F v (Md F v 2 (Tl1 F v 237 261 407 309 424 (TlF F v 237 261 407 309 521))) := Eq.mp (by kernel_rfl) h
theorem A_FnExtF_12 {pr : Prs} {v : Nat → Int} (h : ATlF pr v 237 261 407 309 521 true (((v 520 != 0) = false) ∧ ATl1 pr v 237 261 407 309 (AMd pr v (AHd pr v)))) : HoldL pr v p_FnExtF_12.g.asm := Eq.mp (by kernel_rfl) h
noncomputable def p_FnExtF_13 : Out := (run_FnExtF [false, false, false, false, true, false, false, true, true, false, true]).getD dOut
theorem r_FnExtF_13 : run_FnExtF [false, false, false, false, true, false, false, true, true, false, true] = some p_FnExtF_13 := run_get (by kernel_rfl)
def ft_FnExtF_13 : Fit := ⟨[], []⟩
theorem w_FnExtF_13 : (fitsB T_FnExtF p_FnExtF_13 ft_FnExtF_13 && wfS T_FnExtF.nin p_FnExtF_13.g.ssa p_FnExtF_13.g.n) = true := by kernel_rfl
theorem E_FnExtF_13 {F : Fns} {v : Nat → Int} (h : StHold F v (rawSt p_FnExtF_13.g.ssa)) : Hd F v (Md F v 2 (Tl1 F v 237 261 407 309 424 (Tl2 F v 424 (TlF F v 237 261 407 309 570)))) := Eq.mp (by kernel_rfl) h
theorem A_FnExtF_13 {pr : Prs} {v : Nat → Int} (h : ATlF pr v 237 261 407 309 570 true (((v 569 != 0) = false) ∧ ATl2 pr v 424 (ATl1 pr v 237 261 407 309 (AMd pr v (AHd pr v))))) : HoldL pr v p_FnExtF_13.g.asm := Eq.mp (by kernel_rfl) h
end Go.X.Y
