/-
  A part of the proof of Ytkjhclknbkleoaa: texts LP4, N10, M29, LP5, M30. No conditions.
-/
import Derived.Test.YtkjhclknbkleoaaV16
set_option maxRecDepth 20000
namespace Go.X.Y
open Go.Proofs
def T_ident : Tmpl := ⟨89, [], [], 0, 15, true, .one (.lf (.ptr 0 0)), [], [((us .u64 0 10) ++ ([.int .u64 (.l 1)] ++ (lits .u64 0 4)) ++ (us .u64 10 5))]⟩
def g_ident_0 : List (Nat × Ins) := (apps 0 ([(.l 1)] ++ (ls 0 31)) 0 15)
def p_ident_0 : Out := ⟨.one (.lf (.ptr 0 0)), [((us .u64 0 10) ++ ([.int .u64 (.l 1)] ++ (lits .u64 0 4)) ++ (us .u64 10 5)), ([.int .u8 (.l 1)] ++ (lits .u8 0 31))], ⟨g_ident_0, 15, [.pre 0 ([(.l 1)] ++ (ls 0 31))], [], [0]⟩⟩
theorem r_ident_0 : runBody Try.prog [T_pSet] [] Try.f89 60 T_ident.args T_ident.mem T_ident.nin [] = some p_ident_0 := by kernel_rfl
def ft_ident_0 : Fit := ⟨(vs 0 15), [0]⟩
theorem w_ident_0 : (fitsB T_ident p_ident_0 ft_ident_0 && wfS T_ident.nin p_ident_0.g.ssa p_ident_0.g.n) = true := by kernel_rfl
theorem E_ident_0 {F : Fns} {v : Nat → Int} (h : StHold F v (rawSt p_ident_0.g.ssa)) : (seg v 0 15 = gets (F 0 ([1, 0, 0, 0, 0, 0, 0, 0, 0, 0, 0, 0, 0, 0, 0, 0, 0, 0, 0, 0, 0, 0, 0, 0, 0, 0, 0, 0, 0, 0, 0, 0])) 0 15) := Eq.mp (by kernel_rfl) h
theorem A_ident_0 {pr : Prs} {v : Nat → Int} (h : (pr 0 ([1, 0, 0, 0, 0, 0, 0, 0, 0, 0, 0, 0, 0, 0, 0, 0, 0, 0, 0, 0, 0, 0, 0, 0, 0, 0, 0, 0, 0, 0, 0, 0])) ∧ True) : HoldL pr v p_ident_0.g.asm := Eq.mp (by kernel_rfl) h

def T_newId : Tmpl := ⟨64, [], [], 0, 15, true, .one (.lf (.ptr 0 0)), [], [((us .u64 0 10) ++ ([.int .u64 (.l 1)] ++ (lits .u64 0 4)) ++ (us .u64 10 5))]⟩
def g_newId_0 : List (Nat × Ins) := (apps 1 [] 0 15)
def p_newId_0 : Out := ⟨.one (.lf (.ptr 0 0)), [((us .u64 0 10) ++ ([.int .u64 (.l 1)] ++ (lits .u64 0 4)) ++ (us .u64 10 5)), ((us .u64 0 10) ++ ([.int .u64 (.l 1)] ++ (lits .u64 0 4)) ++ (us .u64 10 5))], ⟨g_newId_0, 15, [.pre 0 (List.flatten [vs 0 10, [(.l 1)], ls 0 4, vs 10 5]), .pre 1 []], [], [0]⟩⟩
theorem r_newId_0 : runBody Try.prog [T_pCopy, T_ident] [] Try.f64 60 T_newId.args T_newId.mem T_newId.nin [] = some p_newId_0 := by kernel_rfl
def ft_newId_0 : Fit := ⟨(vs 0 15), [0]⟩
theorem w_newId_0 : (fitsB T_newId p_newId_0 ft_newId_0 && wfS T_newId.nin p_newId_0.g.ssa p_newId_0.g.n) = true := by kernel_rfl
theorem E_newId_0 {F : Fns} {v : Nat → Int} (h : StHold F v (rawSt p_newId_0.g.ssa)) : (seg v 0 15 = gets (F 1 ([] : List Int)) 0 15) := Eq.mp (by kernel_rfl) h
theorem A_newId_0 {pr : Prs} {v : Nat → Int} (h : (pr 0 (seg v 0 10 ++ [1, 0, 0, 0, 0] ++ seg v 10 5)) ∧ (pr 1 ([] : List Int)) ∧ True) : HoldL pr v p_newId_0.g.asm := Eq.mp (by kernel_rfl) h

def T_iPoint : Tmpl := ⟨62, [.one (.lf (.slc 0 0 32 none))], [(us .u8 0 32)], 32, 15, true, .one (.lf (.ptr 1 0)), [none], [((us .u64 32 10) ++ ([.int .u64 (.l 1)] ++ (lits .u64 0 4)) ++ (us .u64 42 5))]⟩
def g_iPoint_0 : List (Nat × Ins) := ((apps 0 (vs 0 32) 47 15) ++ (apps 1 [] 32 15))
def p_iPoint_0 : Out := ⟨.one (.lf (.ptr 1 0)), [(us .u8 0 32), ((us .u64 47 10) ++ ([.int .u64 (.l 1)] ++ (lits .u64 0 4)) ++ (us .u64 57 5))], ⟨g_iPoint_0, 62, [.pre 0 (vs 0 32), .pre 1 []], [], [1]⟩⟩
theorem r_iPoint_0 : runBody Try.prog [T_pSet, T_newId] [] Try.f62 60 T_iPoint.args T_iPoint.mem T_iPoint.nin [] = some p_iPoint_0 := by kernel_rfl
def ft_iPoint_0 : Fit := ⟨(vs 47 15), [1]⟩
theorem w_iPoint_0 : (fitsB T_iPoint p_iPoint_0 ft_iPoint_0 && wfS T_iPoint.nin p_iPoint_0.g.ssa p_iPoint_0.g.n) = true := by kernel_rfl
theorem E_iPoint_0 {F : Fns} {v : Nat → Int} (h : StHold F v (rawSt p_iPoint_0.g.ssa)) : (seg v 32 15 = gets (F 1 ([] : List Int)) 0 15) ∧ (seg v 47 15 = gets (F 0 (seg v 0 32)) 0 15) := Eq.mp (by kernel_rfl) h
theorem A_iPoint_0 {pr : Prs} {v : Nat → Int} (h : (pr 0 (seg v 0 32)) ∧ (pr 1 ([] : List Int)) ∧ True) : HoldL pr v p_iPoint_0.g.asm := Eq.mp (by kernel_rfl) h

def T_extC_ : Tmpl := ⟨87, [.one (.lf (.ptr 0 0)), .one (.lf (.ptr 1 0))], [(us .u64 0 20), (anys 20)], 20, 0, true, .tup [.lf (.ptr 1 0), .lf (.ptr 1 5), .lf (.ptr 1 10), .lf (.ptr 1 15)], [none, some (us .u64 0 20)], []⟩
def g_extC__0 : List (Nat × Ins) := []
def p_extC__0 : Out := ⟨.tup [.lf (.ptr 1 0), .lf (.ptr 1 5), .lf (.ptr 1 10), .lf (.ptr 1 15)], [(us .u64 0 20), (us .u64 0 20), [.ptr 0 0]], ⟨g_extC__0, 20, [.pre 0 (vs 15 5), .pre 0 (vs 10 5), .pre 0 (vs 5 5), .pre 0 (vs 0 5), .pre 1 (vs 0 20)], [], [1, 1, 1, 1]⟩⟩
theorem r_extC__0 : runBody Try.prog [T_Set, T_chk] [] Try.f87 60 T_extC_.args T_extC_.mem T_extC_.nin [] = some p_extC__0 := by kernel_rfl
def ft_extC__0 : Fit := ⟨[], []⟩
theorem w_extC__0 : (fitsB T_extC_ p_extC__0 ft_extC__0 && wfS T_extC_.nin p_extC__0.g.ssa p_extC__0.g.n) = true := by kernel_rfl
theorem A_extC__0 {pr : Prs} {v : Nat → Int} (h : (pr 0 (seg v 15 5)) ∧ (pr 0 (seg v 10 5)) ∧ (pr 0 (seg v 5 5)) ∧ (pr 0 (seg v 0 5)) ∧ (pr 1 (seg v 0 20)) ∧ True) : HoldL pr v p_extC__0.g.asm := Eq.mp (by kernel_rfl) h

def T_extC : Tmpl := ⟨63, [.one (.lf (.ptr 0 0))], [(us .u64 0 20)], 20, 0, true, .tup [.lf (.ptr 1 0), .lf (.ptr 1 5), .lf (.ptr 1 10), .lf (.ptr 1 15)], [none], [(us .u64 0 20)]⟩
def g_extC_0 : List (Nat × Ins) := []
def p_extC_0 : Out := ⟨.tup [.lf (.ptr 1 0), .lf (.ptr 1 5), .lf (.ptr 1 10), .lf (.ptr 1 15)], [(us .u64 0 20), (us .u64 0 20)], ⟨g_extC_0, 20, [.pre 0 (vs 0 20)], [], [1]⟩⟩
theorem r_extC_0 : runBody Try.prog [T_extC_] [] Try.f63 60 T_extC.args T_extC.mem T_extC.nin [] = some p_extC_0 := by kernel_rfl
def ft_extC_0 : Fit := ⟨[], [1]⟩
theorem w_extC_0 : (fitsB T_extC p_extC_0 ft_extC_0 && wfS T_extC.nin p_extC_0.g.ssa p_extC_0.g.n) = true := by kernel_rfl
theorem A_extC_0 {pr : Prs} {v : Nat → Int} (h : (pr 0 (seg v 0 20)) ∧ True) : HoldL pr v p_extC_0.g.asm := Eq.mp (by kernel_rfl) h

def T_iExt : Tmpl := ⟨27, [.one (.lf (.slc 0 0 32 none))], [(us .u8 0 32)], 32, 128, true, .one (.lf (.slc 1 0 4 (some 4))), [none], [[.slc 2 0 32 (some 32), .slc 3 0 32 (some 32), .slc 4 0 32 (some 32), .slc 5 0 32 (some 32)], (us .u8 32 32), (us .u8 64 32), (us .u8 96 32), (us .u8 128 32)]⟩
def g_iExt_0 : List (Nat × Ins) := (List.flatten [apps 0 (vs 42 5) 143 32, apps 0 ([(.l 1)] ++ (ls 0 4)) 111 32, apps 0 (vs 37 5) 79 32, apps 0 (vs 32 5) 47 32, apps 1 (vs 0 32) 32 15])
def p_iExt_0 : Out := ⟨.one (.lf (.slc 7 0 4 (some 4))), [(us .u8 0 32), ((us .u64 32 10) ++ ([.int .u64 (.l 1)] ++ (lits .u64 0 4)) ++ (us .u64 42 5)), ((us .u64 32 10) ++ ([.int .u64 (.l 1)] ++ (lits .u64 0 4)) ++ (us .u64 42 5)), (us .u8 47 32), (us .u8 79 32), (us .u8 111 32), (us .u8 143 32), [.slc 3 0 32 (some 32), .slc 4 0 32 (some 32), .slc 5 0 32 (some 32), .slc 6 0 32 (some 32)]], ⟨g_iExt_0, 175, [.pre 0 (vs 42 5), .pre 0 ([(.l 1)] ++ (ls 0 4)), .pre 0 (vs 37 5), .pre 0 (vs 32 5), .pre 2 (List.flatten [vs 32 10, [(.l 1)], ls 0 4, vs 42 5]), .pre 1 (vs 0 32)], [], []⟩⟩
theorem r_iExt_0 : runBody Try.prog [T_Bytes, T_iPoint, T_extC] [] Try.f27 60 T_iExt.args T_iExt.mem T_iExt.nin [] = some p_iExt_0 := by kernel_rfl
def ft_iExt_0 : Fit := ⟨(vs 47 128), [7, 3, 4, 5, 6]⟩
theorem w_iExt_0 : (fitsB T_iExt p_iExt_0 ft_iExt_0 && wfS T_iExt.nin p_iExt_0.g.ssa p_iExt_0.g.n) = true := by kernel_rfl
theorem E_iExt_0 {F : Fns} {v : Nat → Int} (h : StHold F v (rawSt p_iExt_0.g.ssa)) : (seg v 32 15 = gets (F 1 (seg v 0 32)) 0 15) ∧ (seg v 47 32 = gets (F 0 (seg v 32 5)) 0 32) ∧ (seg v 79 32 = gets (F 0 (seg v 37 5)) 0 32) ∧ (seg v 111 32 = gets (F 0 ([1, 0, 0, 0, 0])) 0 32) ∧ (seg v 143 32 = gets (F 0 (seg v 42 5)) 0 32) := Eq.mp (by kernel_rfl) h
theorem A_iExt_0 {pr : Prs} {v : Nat → Int} (h : (pr 0 (seg v 42 5)) ∧ (pr 0 ([1, 0, 0, 0, 0])) ∧ (pr 0 (seg v 37 5)) ∧ (pr 0 (seg v 32 5)) ∧ (pr 2 (seg v 32 10 ++ [1, 0, 0, 0, 0] ++ seg v 42 5)) ∧ (pr 1 (seg v 0 32)) ∧ True) : HoldL pr v p_iExt_0.g.asm := Eq.mp (by kernel_rfl) h

def T_errNew2 : Tmpl := ⟨72, [.one (.lf (.cst (.string ⟨#[101, 100, 119, 97, 114, 100, 115, 50, 53, 53, 49, 57, 58, 32, 105, 110, 118, 97, 108, 105, 100, 32, 112, 111, 105, 110, 116, 32, 99, 111, 111, 114, 100, 105, 110, 97, 116, 101, 115]⟩)))], [], 0, 0, true, .one (.lf (.ifp 117 0 0)), [], [[.cst (.string ⟨#[101, 100, 119, 97, 114, 100, 115, 50, 53, 53, 49, 57, 58, 32, 105, 110, 118, 97, 108, 105, 100, 32, 112, 111, 105, 110, 116, 32, 99, 111, 111, 114, 100, 105, 110, 97, 116, 101, 115]⟩)]]⟩
def g_errNew2_0 : List (Nat × Ins) := []
def p_errNew2_0 : Out := ⟨.one (.lf (.ifp 117 0 0)), [[.cst (.string ⟨#[101, 100, 119, 97, 114, 100, 115, 50, 53, 53, 49, 57, 58, 32, 105, 110, 118, 97, 108, 105, 100, 32, 112, 111, 105, 110, 116, 32, 99, 111, 111, 114, 100, 105, 110, 97, 116, 101, 115]⟩)]], ⟨g_errNew2_0, 0, [], [], []⟩⟩
theorem r_errNew2_0 : runBody Try.prog [] [] Try.f72 60 T_errNew2.args T_errNew2.mem T_errNew2.nin [] = some p_errNew2_0 := by kernel_rfl
def ft_errNew2_0 : Fit := ⟨[], [0]⟩
theorem w_errNew2_0 : (fitsB T_errNew2 p_errNew2_0 ft_errNew2_0 && wfS T_errNew2.nin p_errNew2_0.g.ssa p_errNew2_0.g.n) = true := by kernel_rfl
theorem A_errNew2_0 {pr : Prs} {v : Nat → Int} (h : True) : HoldL pr v p_errNew2_0.g.asm := Eq.mp (by kernel_rfl) h

def T_setE : Tmpl := ⟨65, [.one (.lf (.ptr 4 0)), .one (.lf (.ptr 0 0)), .one (.lf (.ptr 1 0)), .one (.lf (.ptr 2 0)), .one (.lf (.ptr 3 0))], [(us .u64 0 5), (us .u64 5 5), (us .u64 10 5), (us .u64 15 5), (anys 20)], 20, 0, true, .tup [.lf (.ptr 4 0), .lf (.cst .nilIface)], [none, none, none, none, some (us .u64 0 20)], []⟩
def g_setE_0 : List (Nat × Ins) := [(21, .ite (.v 20) (.l 0) (.l 1)),
  (20, .app 1 (vs 0 20) 0)]
def p_setE_0 : Out := ⟨.tup [.lf (.ptr 4 0), .lf (.cst .nilIface)], [(us .u64 0 5), (us .u64 5 5), (us .u64 10 5), (us .u64 15 5), (us .u64 0 20)], ⟨g_setE_0, 22, [.pre 0 (vs 15 5), .pre 0 (vs 10 5), .pre 0 (vs 5 5), .pre 0 (vs 0 5), .cond (.v 21) false, .pre 1 (vs 0 20)], [], [4, 4, 4, 4]⟩⟩
theorem r_setE_0 : runBody Try.prog [T_Set, T_onCur, T_errNew, T_errNew2] [] Try.f65 60 T_setE.args T_setE.mem T_setE.nin [false] = some p_setE_0 := by kernel_rfl
def ft_setE_0 : Fit := ⟨[], []⟩
theorem w_setE_0 : (fitsB T_setE p_setE_0 ft_setE_0 && wfS T_setE.nin p_setE_0.g.ssa p_setE_0.g.n) = true := by kernel_rfl
theorem E_setE_0 {F : Fns} {v : Nat → Int} (h : StHold F v (rawSt p_setE_0.g.ssa)) : (v 20 = (F 1 (seg v 0 20)).getD 0 0) ∧ (v 21 = (if v 20 ≠ 0 then 0 else 1)) := Eq.mp (by kernel_rfl) h
theorem A_setE_0 {pr : Prs} {v : Nat → Int} (h : (pr 0 (seg v 15 5)) ∧ (pr 0 (seg v 10 5)) ∧ (pr 0 (seg v 5 5)) ∧ (pr 0 (seg v 0 5)) ∧ ((v 21 != 0) = false) ∧ (pr 1 (seg v 0 20)) ∧ True) : HoldL pr v p_setE_0.g.asm := Eq.mp (by kernel_rfl) h

def T_setEF : Tmpl := ⟨65, [.one (.lf (.ptr 4 0)), .one (.lf (.ptr 0 0)), .one (.lf (.ptr 1 0)), .one (.lf (.ptr 2 0)), .one (.lf (.ptr 3 0))], [(us .u64 0 5), (us .u64 5 5), (us .u64 10 5), (us .u64 15 5), (anys 20)], 20, 0, true, .tup [.lf (.cst (.pointer none)), .lf (.ifp 117 5 0)], [none, none, none, none, none], [[.cst (.string ⟨#[101, 100, 119, 97, 114, 100, 115, 50, 53, 53, 49, 57, 58, 32, 105, 110, 118, 97, 108, 105, 100, 32, 112, 111, 105, 110, 116, 32, 99, 111, 111, 114, 100, 105, 110, 97, 116, 101, 115]⟩)]]⟩
def g_setEF_0 : List (Nat × Ins) := [(21, .ite (.v 20) (.l 0) (.l 1)),
  (20, .app 1 (vs 0 20) 0)]
def p_setEF_0 : Out := ⟨.tup [.lf (.cst (.pointer none)), .lf (.ifp 117 5 0)], [(us .u64 0 5), (us .u64 5 5), (us .u64 10 5), (us .u64 15 5), (anys 20), [.cst (.string ⟨#[101, 100, 119, 97, 114, 100, 115, 50, 53, 53, 49, 57, 58, 32, 105, 110, 118, 97, 108, 105, 100, 32, 112, 111, 105, 110, 116, 32, 99, 111, 111, 114, 100, 105, 110, 97, 116, 101, 115]⟩)]], ⟨g_setEF_0, 22, [.pre 3 [], .cond (.v 21) true, .pre 1 (vs 0 20)], [], []⟩⟩
theorem r_setEF_0 : runBody Try.prog [T_Set, T_onCur, T_errNew, T_errNew2] [] Try.f65 60 T_setEF.args T_setEF.mem T_setEF.nin [true] = some p_setEF_0 := by kernel_rfl
def ft_setEF_0 : Fit := ⟨[], [5]⟩
theorem w_setEF_0 : (fitsB T_setEF p_setEF_0 ft_setEF_0 && wfS T_setEF.nin p_setEF_0.g.ssa p_setEF_0.g.n) = true := by kernel_rfl
theorem E_setEF_0 {F : Fns} {v : Nat → Int} (h : StHold F v (rawSt p_setEF_0.g.ssa)) : (v 20 = (F 1 (seg v 0 20)).getD 0 0) ∧ (v 21 = (if v 20 ≠ 0 then 0 else 1)) := Eq.mp (by kernel_rfl) h
theorem A_setEF_0 {pr : Prs} {v : Nat → Int} (h : (pr 3 ([] : List Int)) ∧ ((v 21 != 0) = true) ∧ (pr 1 (seg v 0 20)) ∧ True) : HoldL pr v p_setEF_0.g.asm := Eq.mp (by kernel_rfl) h

def T_iFrom : Tmpl := ⟨30, [.one (.lf (.slc 0 0 32 none)), .one (.lf (.slc 1 0 32 none)), .one (.lf (.slc 2 0 32 none)), .one (.lf (.slc 3 0 32 none))], [(us .u8 0 32), (us .u8 32 32), (us .u8 64 32), (us .u8 96 32)], 128, 32, true, .tup [.lf (.slc 4 0 32 (some 32)), .lf (.bool (.l 1))], [none, none, none, none], [(us .u8 128 32)]⟩
def g_iFrom_0 : List (Nat × Ins) := (List.flatten [apps 1 (vs 143 20) 163 32, apps 0 (vs 96 32) 158 5, apps 0 (vs 64 32) 153 5, apps 0 (vs 32 32) 148 5, apps 0 (vs 0 32) 143 5, apps 2 [] 128 15])
def p_iFrom_0 : Out := ⟨.tup [.lf (.slc 9 0 32 (some 32)), .lf (.bool (.l 1))], [(us .u8 0 32), (us .u8 32 32), (us .u8 64 32), (us .u8 96 32), (us .u64 143 20), (us .u64 143 5), (us .u64 148 5), (us .u64 153 5), (us .u64 158 5), (us .u8 163 32)], ⟨g_iFrom_0, 195, [.pre 1 (vs 143 20), .pre 3 (vs 143 20), .pre 0 (vs 96 32), .pre 0 (vs 64 32), .pre 0 (vs 32 32), .pre 0 (vs 0 32), .pre 2 []], [], [4]⟩⟩
theorem r_iFrom_0 : runBody Try.prog [T_element, T_pByt, T_newId, T_setE] [] Try.f30 60 T_iFrom.args T_iFrom.mem T_iFrom.nin [] = some p_iFrom_0 := by kernel_rfl
def ft_iFrom_0 : Fit := ⟨(vs 163 32), [9]⟩
theorem w_iFrom_0 : (fitsB T_iFrom p_iFrom_0 ft_iFrom_0 && wfS T_iFrom.nin p_iFrom_0.g.ssa p_iFrom_0.g.n) = true := by kernel_rfl
theorem E_iFrom_0 {F : Fns} {v : Nat → Int} (h : StHold F v (rawSt p_iFrom_0.g.ssa)) : (seg v 128 15 = gets (F 2 ([] : List Int)) 0 15) ∧ (seg v 143 5 = gets (F 0 (seg v 0 32)) 0 5) ∧ (seg v 148 5 = gets (F 0 (seg v 32 32)) 0 5) ∧ (seg v 153 5 = gets (F 0 (seg v 64 32)) 0 5) ∧ (seg v 158 5 = gets (F 0 (seg v 96 32)) 0 5) ∧ (seg v 163 32 = gets (F 1 (seg v 143 20)) 0 32) := Eq.mp (by kernel_rfl) h
theorem A_iFrom_0 {pr : Prs} {v : Nat → Int} (h : (pr 1 (seg v 143 20)) ∧ (pr 3 (seg v 143 20)) ∧ (pr 0 (seg v 96 32)) ∧ (pr 0 (seg v 64 32)) ∧ (pr 0 (seg v 32 32)) ∧ (pr 0 (seg v 0 32)) ∧ (pr 2 ([] : List Int)) ∧ True) : HoldL pr v p_iFrom_0.g.asm := Eq.mp (by kernel_rfl) h

def T_iFromF : Tmpl := ⟨30, [.one (.lf (.slc 0 0 32 none)), .one (.lf (.slc 1 0 32 none)), .one (.lf (.slc 2 0 32 none)), .one (.lf (.slc 3 0 32 none))], [(us .u8 0 32), (us .u8 32 32), (us .u8 64 32), (us .u8 96 32)], 128, 0, true, .tup [.lf (.any), .lf (.bool (.l 0))], [none, none, none, none], []⟩
def g_iFromF_0 : List (Nat × Ins) := (List.flatten [apps 0 (vs 96 32) 158 5, apps 0 (vs 64 32) 153 5, apps 0 (vs 32 32) 148 5, apps 0 (vs 0 32) 143 5, apps 2 [] 128 15])
def p_iFromF_0 : Out := ⟨.tup [.lf (.cst (.slice none 0 0)), .lf (.bool (.l 0))], [(us .u8 0 32), (us .u8 32 32), (us .u8 64 32), (us .u8 96 32), ((us .u64 128 10) ++ ([.int .u64 (.l 1)] ++ (lits .u64 0 4)) ++ (us .u64 138 5)), (us .u64 143 5), (us .u64 148 5), (us .u64 153 5), (us .u64 158 5), [.cst (.string ⟨#[101, 100, 119, 97, 114, 100, 115, 50, 53, 53, 49, 57, 58, 32, 105, 110, 118, 97, 108, 105, 100, 32, 112, 111, 105, 110, 116, 32, 99, 111, 111, 114, 100, 105, 110, 97, 116, 101, 115]⟩)]], ⟨g_iFromF_0, 163, [.pre 3 (vs 143 20), .pre 0 (vs 96 32), .pre 0 (vs 64 32), .pre 0 (vs 32 32), .pre 0 (vs 0 32), .pre 2 []], [], []⟩⟩
theorem r_iFromF_0 : runBody Try.prog [T_element, T_pByt, T_newId, T_setEF] [] Try.f30 60 T_iFromF.args T_iFromF.mem T_iFromF.nin [] = some p_iFromF_0 := by kernel_rfl
def ft_iFromF_0 : Fit := ⟨[], []⟩
theorem w_iFromF_0 : (fitsB T_iFromF p_iFromF_0 ft_iFromF_0 && wfS T_iFromF.nin p_iFromF_0.g.ssa p_iFromF_0.g.n) = true := by kernel_rfl
theorem E_iFromF_0 {F : Fns} {v : Nat → Int} (h : StHold F v (rawSt p_iFromF_0.g.ssa)) : (seg v 128 15 = gets (F 2 ([] : List Int)) 0 15) ∧ (seg v 143 5 = gets (F 0 (seg v 0 32)) 0 5) ∧ (seg v 148 5 = gets (F 0 (seg v 32 32)) 0 5) ∧ (seg v 153 5 = gets (F 0 (seg v 64 32)) 0 5) ∧ (seg v 158 5 = gets (F 0 (seg v 96 32)) 0 5) := Eq.mp (by kernel_rfl) h
theorem A_iFromF_0 {pr : Prs} {v : Nat → Int} (h : (pr 3 (seg v 143 20)) ∧ (pr 0 (seg v 96 32)) ∧ (pr 0 (seg v 64 32)) ∧ (pr 0 (seg v 32 32)) ∧ (pr 0 (seg v 0 32)) ∧ (pr 2 ([] : List Int)) ∧ True) : HoldL pr v p_iFromF_0.g.asm := Eq.mp (by kernel_rfl) h

end Go.X.Y

set_option maxRecDepth 20000
namespace Go.X

/-! ### the base point -/

def bxN : Int := 15112221349535400772501151409588531511454012693041857206046113283949847762202
def byN : Int := 46316835694926478169428394003475163141307993866256225615783033603165251855960
def Bx : Fp := φ bxN
def By : Fp := φ byN

theorem by_mul : φ 5 * By = φ 4 := by
  have h : φ (5 * byN) = φ 4 := φ_iff.2 (by kernel_rfl)
  rw [φ_mul] at h; exact h

theorem five_ne : φ 5 ≠ 0 := by
  intro h
  have h2 := φ_iff.1 (h.trans φ_zero.symm)
  have h3 : (5 : Int) % p25519 = 5 := by kernel_rfl
  rw [h3] at h2
  exact absurd h2 (by decide)

theorem by_eq : φ 4 * inv (φ 5) = By := (eq_div five_ne (by have := by_mul; grind)).symm

theorem b_on : OnC dF Bx By := by
  unfold OnC
  rw [← dN_dF]
  have h : φ (byN * byN - bxN * bxN) = φ (1 + dN * (bxN * bxN) * (byN * byN)) := φ_iff.2 (by kernel_rfl)
  rw [φ_sub, φ_mul, φ_mul, φ_add, φ_one, φ_mul, φ_mul, φ_mul, φ_mul] at h
  exact h

theorem bx_even : ¬ Bx.val % 2 = 1 := by
  have h : (Bx.val % 2 == 0) = true := by kernel_rfl
  have := beq_iff_eq.1 h
  omega

theorem b_enc : encB Bx By = bB By := by
  unfold encB
  rw [if_neg bx_even]

theorem Base_val : s_Base.f (nF dF) = nF Bx ++ nF By ++ [1] := by
  obtain ⟨v, -, hin, ⟨h16, h17, h18, h34, h50, h82⟩, -, hf⟩ := E_Base (nF dF) (nF_in _)
  rw [Small_val (by decide) (by decide)] at h16 h17
  have h16 : v 16 = 4 := h16
  have h17 : v 17 = 5 := h17
  rw [h17, small_F (by decide) (by decide), Inv_val, gets_all (nF_len _)] at h18
  rw [h16, small_F (by decide) (by decide), h18, FMul_val, gets_all (nF_len _), by_eq] at h34
  have hb : s_NBytes.f (nF By) = encB Bx By := by rw [NBytes_nF, b_enc]; rfl
  have hi : InB (BB 32) (encB Bx By) := by rw [b_enc]; exact bB_in _
  rw [h34, hb, gets_all (show _ = 32 from hi.len)] at h50
  obtain ⟨d1, d2, d3⟩ := enc_dec b_on
  have hd : s_Dec.f (nF dF ++ encB Bx By) = nF Bx ++ nF By ++ [1, 1] := by
    have := (Dec_val hi).trans (if_pos d1)
    rw [d3, d2] at this
    exact this
  rw [hin, h50, hd, gets_all (by rw [List.length_append, List.length_append, nF_len, nF_len]; rfl)] at h82
  have e : seg v 82 33 = (seg v 82 34).take 33 := (seg_take v (by decide) 82).symm
  rw [hf, e, h82, show nF Bx ++ nF By ++ [(1 : Int), 1] = (nF Bx ++ nF By ++ [1]) ++ [1] from by rw [List.append_assoc _ [1]]; rfl]
  exact List.take_left' (by rw [List.length_append, List.length_append, nF_len, nF_len]; rfl)

def Bpt : Pt := ⟨Bx, By, 1⟩
theorem Bpt_ok : Bpt.ok dF := Pt.one_ok b_on

theorem base_pL : nF Bx ++ nF By ++ [1] ++ [0, 0, 0, 0, 0, 0, 0, 0, 0, 0, 0, 0, 0, 0, 0] = pL Bpt := by
  show _ = nF Bx ++ (nF By ++ nF 1)
  rw [nF_one]; simp only [List.append_assoc]; rfl

/-- a point that the law takes of 32 bytes, and the bytes that encode it -/
@[irreducible] def lawPt (b : List Int) : Pt := if okF (uF (eF b)) (vF (eF b)) then ⟨xF (eF b) (sgB b), eF b, 1⟩ else Pt.mul dF (s_Of32.f b ++ Z8) Bpt
@[irreducible] def lawB (b : List Int) : List Int := if okF (uF (eF b)) (vF (eF b)) then b else encB (lawPt b).x (lawPt b).y

theorem lawPt_ok (b : List Int) : (lawPt b).ok dF := by
  unfold lawPt
  by_cases h : okF (uF (eF b)) (vF (eF b))
  · rw [if_pos h]; exact Pt.one_ok (dec_on h)
  · rw [if_neg h]; exact mul_ok d_nsq Bpt_ok _

/-- the bytes are the point's -/
theorem lawB_pt (b : List Int) : isPt (lawB b) ∧ eF (lawB b) = (lawPt b).y ∧ xF (eF (lawB b)) (sgB (lawB b)) = (lawPt b).x := by
  have ho := (lawPt_ok b).2
  unfold lawB
  by_cases h : okF (uF (eF b)) (vF (eF b))
  · have e : lawPt b = ⟨xF (eF b) (sgB b), eF b, 1⟩ := by unfold lawPt; exact if_pos h
    rw [if_pos h, e, (Pt.one_x _ _).1, (Pt.one_x _ _).2]
    exact ⟨h, rfl, rfl⟩
  · rw [if_neg h]
    exact enc_dec ho

end Go.X

set_option maxRecDepth 20000
namespace Go.X

/-! ### what the program's functions of points give -/

def idB : List Int := [1, 0, 0, 0, 0, 0, 0, 0, 0, 0, 0, 0, 0, 0, 0, 0, 0, 0, 0, 0, 0, 0, 0, 0, 0, 0, 0, 0, 0, 0, 0, 0]
theorem idB_enc : encB 0 1 = idB := by
  unfold encB
  rw [if_neg (by decide)]
  kernel_rfl
theorem idB_in : InB (BB 32) idB := by
  have e : bB 1 = idB := by kernel_rfl
  rw [← e]; exact bB_in _
theorem idB_pt : isPt idB := by rw [← idB_enc]; exact (enc_dec (on_none dF)).1

theorem set_len {xs : List Int} (h : InB (BB 32) xs) : (sp_set.f xs).length = 15 := by
  show (qX xs ++ qY xs ++ qT xs).length = 15
  rw [List.length_append, List.length_append, (qX_val h).1.len, (qY_val h).1.len, (qT_in h).1.len]; rfl

/-- the limbs of the point of 32 bytes -/
def ptL (xs : List Int) : List Int := qX xs ++ (qY xs ++ (one5 ++ qT xs))

theorem seg_set {v : Nat → Int} {k : Nat} {xs : List Int} (hb : InB (BB 32) xs) (h : seg v k 15 = sp_set.f xs) : seg v k 5 = qX xs ∧ seg v (k + 5) 5 = qY xs ∧ seg v (k + 10) 5 = qT xs ∧ seg v k 10 ++ [1, 0, 0, 0, 0] ++ seg v (k + 10) 5 = ptL xs := by
  have h : seg v k 15 = (qX xs ++ qY xs) ++ qT xs := h
  obtain ⟨h1, h2⟩ := seg_two (n := 10) (m := 5) h (by rw [List.length_append, (qX_val hb).1.len, (qY_val hb).1.len]; rfl)
  obtain ⟨h3, h4⟩ := seg_two (n := 5) (m := 5) h1 (qX_val hb).1.len
  refine ⟨h3, h4, h2, ?_⟩
  rw [h1, h2]
  unfold ptL
  simp only [List.append_assoc]; rfl

theorem ptL_in {xs : List Int} (h : InB (BB 32) xs) : InB LB4 (ptL xs) := InB.append (qX_val h).1 (InB.append (qY_val h).1 (InB.append one5_in (qT_in h).1))

theorem take5 {a b : List Int} (ha : a.length = 5) : (a ++ b).take 5 = a := List.take_left' ha
theorem drop5 {a b : List Int} (ha : a.length = 5) : (a ++ b).drop 5 = b := List.drop_left' ha

/-- the parts of twenty limbs -/
theorem limbs4 {a b c d : List Int} (ha : a.length = 5) (hb : b.length = 5) (hc : c.length = 5) : pX (a ++ (b ++ (c ++ d))) = φ (v51 a) ∧ pY (a ++ (b ++ (c ++ d))) = φ (v51 b) ∧ pZ (a ++ (b ++ (c ++ d))) = φ (v51 c) ∧ pT (a ++ (b ++ (c ++ d))) = φ (v51 d) := by
  have e10 : (a ++ (b ++ (c ++ d))).drop 10 = c ++ d := by rw [show 10 = 5 + 5 from rfl, ← List.drop_drop, drop5 ha, drop5 hb]
  have e15 : (a ++ (b ++ (c ++ d))).drop 15 = d := by rw [show 15 = 10 + 5 from rfl, ← List.drop_drop, e10, drop5 hc]
  unfold pX pY pZ pT
  rw [take5 ha, drop5 ha, take5 hb, e10, e15, take5 hc]
  exact ⟨rfl, rfl, rfl, rfl⟩

theorem ptL_val {xs : List Int} (h : InB (BB 32) xs) : pX (ptL xs) = xF (eF xs) (sgB xs) ∧ pY (ptL xs) = eF xs ∧ pZ (ptL xs) = 1 ∧ pT (ptL xs) = xF (eF xs) (sgB xs) * eF xs := by
  obtain ⟨h1, h2, h3, h4⟩ := limbs4 (d := qT xs) (qX_val h).1.len (qY_val h).1.len (show one5.length = 5 from rfl)
  exact ⟨h1.trans (qX_val h).2, h2.trans (qY_val h).2, h3.trans one5_φ, h4.trans (qT_in h).2⟩

/-- no coordinates that are nought as numbers are nought as limbs -/
theorem nz_of {xs : List Int} (h : ¬ (pX xs = 0 ∧ pY xs = 0)) : nz xs := by
  rintro ⟨h1, h2⟩
  have hz : φ (v51 ZZ5) = 0 := by kernel_rfl
  refine h ⟨?_, ?_⟩
  · unfold pX; rw [h1, hz]
  · unfold pY; rw [h2, hz]

theorem ptL_nz {xs : List Int} (h : InB (BB 32) xs) (hp : isPt xs) : nz (ptL xs) := by
  refine nz_of ?_
  obtain ⟨h1, h2, -, -⟩ := ptL_val h
  rw [h1, h2]
  exact Pt.nz (Pt.one_ok (dec_on hp))

def sp_id : SemP := ⟨fun _ => sp_set.f idB, fun _ => True⟩
def sp_ext : SemP := ⟨fun _ => [], fun xs => InB LB4 xs ∧ nz xs⟩
def sp_iExt : SemP := ⟨fun xs => bB (xF (eF xs) (sgB xs)) ++ (bB (eF xs) ++ (bB 1 ++ bB (xF (eF xs) (sgB xs) * eF xs))), fun xs => InB (BB 32) xs ∧ isPt xs⟩

/-- four coordinates, in limbs -/
def onL (xs : List Int) : Prop := onE (pX xs) (pY xs) (pZ xs) (pT xs)
def sp_setE : SemP := ⟨fun _ => [], fun xs => InB LB4 xs ∧ onL xs⟩
def sp_setEF : SemP := ⟨fun _ => [], fun xs => InB LB4 xs ∧ ¬ onL xs⟩

def eL (b : List Int) : List Int := toD 2251799813685248 5 (ofD 256 b)
theorem eL_in (b : List Int) : InB LB (eL b) := el_in _
/-- four coordinates, in bytes -/
def b4 (xs : List Int) (k : Nat) : List Int := (xs.drop (32 * k)).take 32
def fL (xs : List Int) : List Int := eL (b4 xs 0) ++ (eL (b4 xs 1) ++ (eL (b4 xs 2) ++ eL (b4 xs 3)))
theorem fL_in (xs : List Int) : InB LB4 (fL xs) := InB.append (eL_in _) (InB.append (eL_in _) (InB.append (eL_in _) (eL_in _)))
theorem fL_val (xs : List Int) : pX (fL xs) = eF (b4 xs 0) ∧ pY (fL xs) = eF (b4 xs 1) ∧ pZ (fL xs) = eF (b4 xs 2) ∧ pT (fL xs) = eF (b4 xs 3) :=
  limbs4 (d := eL (b4 xs 3)) (eL_in _).len (eL_in _).len (eL_in _).len

def sp_iFrom : SemP := ⟨fun xs => encB (eF (b4 xs 0) * inv (eF (b4 xs 2))) (eF (b4 xs 1) * inv (eF (b4 xs 2))), fun xs => InB (BB 128) xs ∧ onE (eF (b4 xs 0)) (eF (b4 xs 1)) (eF (b4 xs 2)) (eF (b4 xs 3)) ∧ ¬ (eF (b4 xs 0) = 0 ∧ eF (b4 xs 1) = 0)⟩
def sp_iFromF : SemP := ⟨fun _ => [], fun xs => InB (BB 128) xs ∧ ¬ onE (eF (b4 xs 0)) (eF (b4 xs 1)) (eF (b4 xs 2)) (eF (b4 xs 3))⟩

theorem BB_drop {n k m : Nat} (hk : k + m = n) {xs : List Int} (h : InB (BB n) xs) : InB (BB m) (xs.drop k) := by
  have e : BB n = BB k ++ BB m := by rw [← hk]; unfold BB; exact List.replicate_append_replicate.symm
  rw [e] at h
  have := (InB.split h).2
  have hl : (BB k).length = k := by unfold BB; exact List.length_replicate ..
  rw [hl] at this; exact this
theorem BB_take {n k m : Nat} (hk : k + m = n) {xs : List Int} (h : InB (BB n) xs) : InB (BB k) (xs.take k) := by
  have e : BB n = BB k ++ BB m := by rw [← hk]; unfold BB; exact List.replicate_append_replicate.symm
  rw [e] at h
  have := (InB.split h).1
  have hl : (BB k).length = k := by unfold BB; exact List.length_replicate ..
  rw [hl] at this; exact this

theorem b4_in {xs : List Int} (h : InB (BB 128) xs) {k : Nat} (hk : k < 4) : InB (BB 32) (b4 xs k) :=
  BB_take (m := 96 - 32 * k) (n := 128 - 32 * k) (by omega) (BB_drop (by omega) h)

end Go.X

set_option maxRecDepth 20000
namespace Go.X.Y
open Go.Proofs

/-! ### points in four coordinates: the program's functions -/

theorem good_ident (W : World0 Try.prog) : GoodP W T_ident sp_id := by
  refine lawP_sound (ts := [T_pSet]) (l := [sp_set]) (W := W) ⟨good_pSet W, trivial⟩ (by decide) Try.func89 Try.call89 (by kernel_rfl) rfl ?_
  intro xs _ _
  refine ⟨_, _, _, _, r_ident_0, w_ident_0, ?_⟩
  intro ρ _ hst
  have e0 : seg ρ 0 15 = gets (sp_set.f idB) 0 15 := Eq.mp (by kernel_rfl) (E_ident_0 hst)
  rw [gets_all (set_len idB_in)] at e0
  refine ⟨out_of (ρ := ρ) (ft := ft_ident_0.outs) ?_, A_ident_0 ⟨⟨idB_in, idB_pt⟩, trivial⟩⟩
  have h1 : ∀ v : Nat → Int, ft_ident_0.outs.map (A.ev v) = seg v 0 15 := fun v => by kernel_rfl
  rw [h1, e0]; rfl

theorem good_newId (W : World0 Try.prog) : GoodP W T_newId sp_id := by
  refine lawP_sound (ts := [T_pCopy, T_ident]) (l := [s_pCopy.toP, sp_id]) (W := W) ⟨(good_pCopy W).toP, good_ident W, trivial⟩ (by decide) Try.func64 Try.call64 (by kernel_rfl) rfl ?_
  intro xs _ _
  refine ⟨_, _, _, _, r_newId_0, w_newId_0, ?_⟩
  intro ρ _ hst
  have e0 : seg ρ 0 15 = gets (sp_set.f idB) 0 15 := Eq.mp (by kernel_rfl) (E_newId_0 hst)
  rw [gets_all (set_len idB_in)] at e0
  refine ⟨out_of (ρ := ρ) (ft := ft_newId_0.outs) ?_, A_newId_0 ⟨?_, trivial, trivial⟩⟩
  · have h1 : ∀ v : Nat → Int, ft_newId_0.outs.map (A.ev v) = seg v 0 15 := fun v => by kernel_rfl
    rw [h1, e0]; rfl
  · show InB LB4 _
    rw [(seg_set (k := 0) idB_in e0).2.2.2]; exact ptL_in idB_in

theorem good_iPoint (W : World0 Try.prog) : GoodP W T_iPoint sp_set := by
  refine lawP_sound (ts := [T_pSet, T_newId]) (l := [sp_set, sp_id]) (W := W) ⟨good_pSet W, good_newId W, trivial⟩ (by decide) Try.func62 Try.call62 (by kernel_rfl) rfl ?_
  intro xs hlen hx
  refine ⟨_, _, _, _, r_iPoint_0, w_iPoint_0, ?_⟩
  intro ρ hin hst
  obtain ⟨-, e47⟩ := E_iPoint_0 hst
  have hs := seg_of (n := 32) hlen hin
  have e47 : seg ρ 47 15 = gets (sp_set.f (seg ρ 0 32)) 0 15 := e47
  rw [hs, gets_all (set_len hx.1)] at e47
  refine ⟨out_of (ρ := ρ) (ft := ft_iPoint_0.outs) ?_, A_iPoint_0 ⟨?_, trivial, trivial⟩⟩
  · have h1 : ∀ v : Nat → Int, ft_iPoint_0.outs.map (A.ev v) = seg v 47 15 := fun v => by kernel_rfl
    rw [h1, e47]
  · show sp_set.pre (seg ρ 0 32)
    rw [hs]; exact hx

theorem good_extC_ (W : World0 Try.prog) : GoodP W T_extC_ sp_ext := by
  refine lawP_sound (ts := [T_Set, T_chk]) (l := [s_Set.toP, sp_chk]) (W := W) ⟨(good_Set W).toP, good_chk W, trivial⟩ (by decide) Try.func87 Try.call87 (by kernel_rfl) rfl ?_
  intro xs hlen hx
  obtain ⟨hx, hnz⟩ : InB LB4 xs ∧ nz xs := hx
  refine ⟨_, _, _, _, r_extC__0, w_extC__0, ?_⟩
  intro ρ hin hst
  have hs := seg_of (n := 20) hlen hin
  obtain ⟨⟨bX, -⟩, ⟨bY, -⟩, ⟨bZ, -⟩, ⟨bT, -⟩⟩ := pt_parts hx hs
  refine ⟨fun j a ha => by simp [ft_extC__0] at ha, A_extC__0 ⟨bT, bZ, bY, bX, ?_, trivial⟩⟩
  show nz (seg ρ 0 20)
  rw [hs]; exact hnz

theorem good_extC (W : World0 Try.prog) : GoodP W T_extC sp_ext := by
  refine lawP_sound (ts := [T_extC_]) (l := [sp_ext]) (W := W) ⟨good_extC_ W, trivial⟩ (by decide) Try.func63 Try.call63 (by kernel_rfl) rfl ?_
  intro xs hlen hx
  refine ⟨_, _, _, _, r_extC_0, w_extC_0, ?_⟩
  intro ρ hin hst
  have hs := seg_of (n := 20) hlen hin
  refine ⟨fun j a ha => by simp [ft_extC_0] at ha, A_extC_0 ⟨?_, trivial⟩⟩
  show sp_ext.pre (seg ρ 0 20)
  rw [hs]; exact hx

theorem good_iExt (W : World0 Try.prog) : GoodP W T_iExt sp_iExt := by
  refine lawP_sound (ts := [T_Bytes, T_iPoint, T_extC]) (l := [s_Bytes.toP, sp_set, sp_ext]) (W := W) ⟨(good_Bytes W).toP, good_iPoint W, good_extC W, trivial⟩ (by decide) Try.func27 Try.call27 (by kernel_rfl) rfl ?_
  intro xs hlen hx
  obtain ⟨hb, hp⟩ : InB (BB 32) xs ∧ isPt xs := hx
  refine ⟨_, _, _, _, r_iExt_0, w_iExt_0, ?_⟩
  intro ρ hin hst
  obtain ⟨e32, e47, e79, e111, e143⟩ := E_iExt_0 hst
  clear hst
  have hs := seg_of (n := 32) hlen hin
  have e32 : seg ρ 32 15 = gets (sp_set.f (seg ρ 0 32)) 0 15 := e32
  rw [hs, gets_all (set_len hb)] at e32
  obtain ⟨k1, k2, k3, k4⟩ := seg_set hb e32
  have k2 : seg ρ 37 5 = qY xs := k2
  have k3 : seg ρ 42 5 = qT xs := k3
  have e47 : seg ρ 47 32 = gets (s_Bytes.f (seg ρ 32 5)) 0 32 := e47
  rw [k1, bytesF (qX_val hb).1 (qX_val hb).2, gets_all (bB_len _)] at e47
  have e79 : seg ρ 79 32 = gets (s_Bytes.f (seg ρ 37 5)) 0 32 := e79
  rw [k2, bytesF (qY_val hb).1 (qY_val hb).2, gets_all (bB_len _)] at e79
  have e111 : seg ρ 111 32 = gets (s_Bytes.f one5) 0 32 := e111
  rw [bytesF one5_in one5_φ, gets_all (bB_len _)] at e111
  have e143 : seg ρ 143 32 = gets (s_Bytes.f (seg ρ 42 5)) 0 32 := e143
  rw [k3, bytesF (qT_in hb).1 (qT_in hb).2, gets_all (bB_len _)] at e143
  refine ⟨out_of (ρ := ρ) (ft := ft_iExt_0.outs) ?_, A_iExt_0 ⟨?_, one5_in, ?_, ?_, ?_, ?_, trivial⟩⟩
  · have h1 : ∀ v : Nat → Int, ft_iExt_0.outs.map (A.ev v) = seg v 47 128 := fun v => by kernel_rfl
    have a1 : seg ρ 47 128 = seg ρ 47 32 ++ seg ρ 79 96 := seg_add ρ 32 96 47
    have a2 : seg ρ 79 96 = seg ρ 79 32 ++ seg ρ 111 64 := seg_add ρ 32 64 79
    have a3 : seg ρ 111 64 = seg ρ 111 32 ++ seg ρ 143 32 := seg_add ρ 32 32 111
    rw [h1, a1, a2, a3, e47, e79, e111, e143]; rfl
  · rw [k3]; exact (qT_in hb).1
  · rw [k2]; exact (qY_val hb).1
  · rw [k1]; exact (qX_val hb).1
  · show sp_ext.pre (seg ρ 32 10 ++ [1, 0, 0, 0, 0] ++ seg ρ 42 5)
    have k4 : seg ρ 32 10 ++ [1, 0, 0, 0, 0] ++ seg ρ 42 5 = ptL xs := k4
    rw [k4]; exact ⟨ptL_in hb, ptL_nz hb hp⟩
  · show sp_set.pre (seg ρ 0 32)
    rw [hs]; exact ⟨hb, hp⟩

theorem good_errNew2 (W : World0 Try.prog) : GoodP W T_errNew2 ⟨fun _ => [], fun _ => True⟩ := by
  refine lawP_sound (ts := []) (l := []) (W := W) trivial (by decide) Try.func72 Try.call72 (by kernel_rfl) rfl ?_
  intro xs _ _
  refine ⟨_, _, _, _, r_errNew2_0, w_errNew2_0, ?_⟩
  intro ρ _ _
  exact ⟨fun j a ha => by simp [ft_errNew2_0] at ha, A_errNew2_0 trivial⟩

theorem not_ite {P : Prop} [Decidable P] {t u : Int} (ht : t = if P then 1 else 0) (hu : u = if t ≠ 0 then 0 else 1) : (u != 0) = !decide P := by
  by_cases h : P
  · rw [if_pos h] at ht
    rw [ht, if_pos (by decide)] at hu
    rw [hu, decide_eq_true h]; rfl
  · rw [if_neg h] at ht
    rw [ht, if_neg (by decide)] at hu
    rw [hu, decide_eq_false h]; rfl

instance (xs : List Int) : Decidable (onL xs) := inferInstanceAs (Decidable (onE _ _ _ _))

theorem good_setE (W : World0 Try.prog) : GoodP W T_setE sp_setE := by
  refine lawP_sound (ts := [T_Set, T_onCur, T_errNew, T_errNew2]) (l := [s_Set.toP, s_onCur.toP, s_errNew.toP, ⟨fun _ => [], fun _ => True⟩]) (W := W) ⟨(good_Set W).toP, (good_onCur W).toP, (good_errNew W).toP, good_errNew2 W, trivial⟩ (by decide) Try.func65 Try.call65 (by kernel_rfl) rfl ?_
  intro xs hlen hx
  obtain ⟨hx, hp⟩ : InB LB4 xs ∧ onL xs := hx
  refine ⟨_, _, _, _, r_setE_0, w_setE_0, ?_⟩
  intro ρ hin hst
  obtain ⟨e20, e21⟩ := E_setE_0 hst
  have hs := seg_of (n := 20) hlen hin
  have e20 : ρ 20 = (f_onCur (seg ρ 0 20)).getD 0 0 := e20
  rw [hs] at e20
  have e20 : ρ 20 = if onL xs then 1 else 0 := e20
  obtain ⟨⟨bX, -⟩, ⟨bY, -⟩, ⟨bZ, -⟩, ⟨bT, -⟩⟩ := pt_parts hx hs
  have e := not_ite e20 e21
  rw [decide_eq_true hp] at e
  refine ⟨fun j a ha => by simp [ft_setE_0] at ha, A_setE_0 ⟨bT, bZ, bY, bX, e, ?_, trivial⟩⟩
  show InB LB4 (seg ρ 0 20)
  rw [hs]; exact hx

theorem good_setEF (W : World0 Try.prog) : GoodP W T_setEF sp_setEF := by
  refine lawP_sound (ts := [T_Set, T_onCur, T_errNew, T_errNew2]) (l := [s_Set.toP, s_onCur.toP, s_errNew.toP, ⟨fun _ => [], fun _ => True⟩]) (W := W) ⟨(good_Set W).toP, (good_onCur W).toP, (good_errNew W).toP, good_errNew2 W, trivial⟩ (by decide) Try.func65 Try.call65 (by kernel_rfl) rfl ?_
  intro xs hlen hx
  obtain ⟨hx, hp⟩ : InB LB4 xs ∧ ¬ onL xs := hx
  refine ⟨_, _, _, _, r_setEF_0, w_setEF_0, ?_⟩
  intro ρ hin hst
  obtain ⟨e20, e21⟩ := E_setEF_0 hst
  have hs := seg_of (n := 20) hlen hin
  have e20 : ρ 20 = (f_onCur (seg ρ 0 20)).getD 0 0 := e20
  rw [hs] at e20
  have e20 : ρ 20 = if onL xs then 1 else 0 := e20
  have e := not_ite e20 e21
  rw [decide_eq_false hp] at e
  refine ⟨fun j a ha => by simp [ft_setEF_0] at ha, A_setEF_0 ⟨trivial, e, ?_, trivial⟩⟩
  show InB LB4 (seg ρ 0 20)
  rw [hs]; exact hx

/-- the elements of four times 32 bytes -/
theorem four_el {ρ : Nat → Int} {xs : List Int} (hx : InB (BB 128) xs) (hs : seg ρ 0 128 = xs) (e143 : seg ρ 143 5 = gets (s_element.f (seg ρ 0 32)) 0 5) (e148 : seg ρ 148 5 = gets (s_element.f (seg ρ 32 32)) 0 5)
    (e153 : seg ρ 153 5 = gets (s_element.f (seg ρ 64 32)) 0 5) (e158 : seg ρ 158 5 = gets (s_element.f (seg ρ 96 32)) 0 5) :
    seg ρ 143 20 = fL xs ∧ InB (BB 32) (seg ρ 0 32) ∧ InB (BB 32) (seg ρ 32 32) ∧ InB (BB 32) (seg ρ 64 32) ∧ InB (BB 32) (seg ρ 96 32) := by
  have k0 : seg ρ 0 32 = b4 xs 0 := seg_at hs 0 (by decide)
  have k1 : seg ρ 32 32 = b4 xs 1 := seg_at hs 32 (by decide)
  have k2 : seg ρ 64 32 = b4 xs 2 := seg_at hs 64 (by decide)
  have k3 : seg ρ 96 32 = b4 xs 3 := seg_at hs 96 (by decide)
  have i0 := b4_in hx (k := 0) (by decide)
  have i1 := b4_in hx (k := 1) (by decide)
  have i2 := b4_in hx (k := 2) (by decide)
  have i3 := b4_in hx (k := 3) (by decide)
  rw [k0, elemF i0, gets_all (toD_len _ _ _)] at e143
  rw [k1, elemF i1, gets_all (toD_len _ _ _)] at e148
  rw [k2, elemF i2, gets_all (toD_len _ _ _)] at e153
  rw [k3, elemF i3, gets_all (toD_len _ _ _)] at e158
  have a1 : seg ρ 143 20 = seg ρ 143 5 ++ seg ρ 148 15 := seg_add ρ 5 15 143
  have a2 : seg ρ 148 15 = seg ρ 148 5 ++ seg ρ 153 10 := seg_add ρ 5 10 148
  have a3 : seg ρ 153 10 = seg ρ 153 5 ++ seg ρ 158 5 := seg_add ρ 5 5 153
  refine ⟨?_, by rw [k0]; exact i0, by rw [k1]; exact i1, by rw [k2]; exact i2, by rw [k3]; exact i3⟩
  rw [a1, a2, a3, e143, e148, e153, e158]; rfl

theorem good_iFrom (W : World0 Try.prog) : GoodP W T_iFrom sp_iFrom := by
  refine lawP_sound (ts := [T_element, T_pByt, T_newId, T_setE]) (l := [s_element.toP, sp_byt, sp_id, sp_setE]) (W := W) ⟨(good_element W).toP, good_pByt W, good_newId W, good_setE W, trivial⟩ (by decide) Try.func30 Try.call30 (by kernel_rfl) rfl ?_
  intro xs hlen hx
  obtain ⟨hx, hon, hnz⟩ : InB (BB 128) xs ∧ onE (eF (b4 xs 0)) (eF (b4 xs 1)) (eF (b4 xs 2)) (eF (b4 xs 3)) ∧ ¬ (eF (b4 xs 0) = 0 ∧ eF (b4 xs 1) = 0) := hx
  refine ⟨_, _, _, _, r_iFrom_0, w_iFrom_0, ?_⟩
  intro ρ hin hst
  obtain ⟨-, e143, e148, e153, e158, e163⟩ := E_iFrom_0 hst
  clear hst
  have hs := seg_of (n := 128) hlen hin
  obtain ⟨k, i0, i1, i2, i3⟩ := four_el hx hs e143 e148 e153 e158
  obtain ⟨v1, v2, v3, v4⟩ := fL_val xs
  have e163 : seg ρ 163 32 = gets (encB (pX (seg ρ 143 20) * inv (pZ (seg ρ 143 20))) (pY (seg ρ 143 20) * inv (pZ (seg ρ 143 20)))) 0 32 := e163
  rw [k, v1, v2, v3, gets_all (encB_len _ _)] at e163
  refine ⟨out_of (ρ := ρ) (ft := ft_iFrom_0.outs) ?_, A_iFrom_0 ⟨?_, ?_, i3, i2, i1, i0, trivial, trivial⟩⟩
  · have h1 : ∀ v : Nat → Int, ft_iFrom_0.outs.map (A.ev v) = seg v 163 32 := fun v => by kernel_rfl
    rw [h1, e163]; rfl
  · show sp_byt.pre (seg ρ 143 20)
    rw [k]
    refine ⟨fL_in _, nz_of ?_⟩
    rw [v1, v2]; exact hnz
  · show sp_setE.pre (seg ρ 143 20)
    rw [k]
    refine ⟨fL_in _, ?_⟩
    unfold onL
    rw [v1, v2, v3, v4]; exact hon

theorem good_iFromF (W : World0 Try.prog) : GoodP W T_iFromF sp_iFromF := by
  refine lawP_sound (ts := [T_element, T_pByt, T_newId, T_setEF]) (l := [s_element.toP, sp_byt, sp_id, sp_setEF]) (W := W) ⟨(good_element W).toP, good_pByt W, good_newId W, good_setEF W, trivial⟩ (by decide) Try.func30 Try.call30 (by kernel_rfl) rfl ?_
  intro xs hlen hx
  obtain ⟨hx, hon⟩ : InB (BB 128) xs ∧ ¬ onE (eF (b4 xs 0)) (eF (b4 xs 1)) (eF (b4 xs 2)) (eF (b4 xs 3)) := hx
  refine ⟨_, _, _, _, r_iFromF_0, w_iFromF_0, ?_⟩
  intro ρ hin hst
  obtain ⟨-, e143, e148, e153, e158⟩ := E_iFromF_0 hst
  clear hst
  have hs := seg_of (n := 128) hlen hin
  obtain ⟨k, i0, i1, i2, i3⟩ := four_el hx hs e143 e148 e153 e158
  obtain ⟨v1, v2, v3, v4⟩ := fL_val xs
  refine ⟨fun j a ha => by simp [ft_iFromF_0] at ha, A_iFromF_0 ⟨?_, i3, i2, i1, i0, trivial, trivial⟩⟩
  show sp_setEF.pre (seg ρ 143 20)
  rw [k]
  refine ⟨fL_in _, ?_⟩
  unfold onL
  rw [v1, v2, v3, v4]; exact hon

end Go.X.Y

set_option maxRecDepth 20000
namespace Go.X

/-! ### the law of coordinates, with no program in sight -/

/-- which of the coordinates is changed -/
def chg (n : Int) : Int := op2 .rem .i64 (if op2 .sub .i64 0 (op2 .add .i64 n 1) > n then op2 .sub .i64 0 (op2 .add .i64 n 1) else n) 6

theorem chg_range {n : Int} (h0 : -9223372036854775808 ≤ n) (h1 : n ≤ 9223372036854775807) : 0 ≤ chg n ∧ chg n < 6 := by
  have e1 : ∀ a b : Int, op2 .add .i64 a b = IntKind.i64.wrap (a + b) := fun _ _ => rfl
  have e2 : ∀ a b : Int, op2 .sub .i64 a b = IntKind.i64.wrap (a - b) := fun _ _ => rfl
  have e3 : ∀ a b : Int, op2 .rem .i64 a b = a.tmod b := fun _ _ => rfl
  unfold chg
  rw [e1, e2, e3, IntKind.wrap_i64, IntKind.wrap_i64]
  have key : 0 ≤ (if (0 - ((n + 1 + 9223372036854775808) % 18446744073709551616 - 9223372036854775808) + 9223372036854775808) % 18446744073709551616 - 9223372036854775808 > n then (0 - ((n + 1 + 9223372036854775808) % 18446744073709551616 - 9223372036854775808) + 9223372036854775808) % 18446744073709551616 - 9223372036854775808 else n) := by
    split <;> omega
  generalize (if (0 - ((n + 1 + 9223372036854775808) % 18446744073709551616 - 9223372036854775808) + 9223372036854775808) % 18446744073709551616 - 9223372036854775808 > n then (0 - ((n + 1 + 9223372036854775808) % 18446744073709551616 - 9223372036854775808) + 9223372036854775808) % 18446744073709551616 - 9223372036854775808 else n) = m at *
  rw [Int.tmod_eq_emod_of_nonneg key]
  omega

/-- what the law's calls compute -/
structure Cx6 (F : Fns) (pr : Prs) (b c : List Int) : Prop where
  hb : InB (BB 32) b
  hc : InB (BB 32) c
  f0 : F 0 = s_NBytes.f
  f1 : F 1 = s_Of32.f
  f3 : F 2 = s_Field.f
  f4 : F 3 = s_FAdd.f
  f5 : F 4 = s_FSub.f
  f6 : F 5 = s_FMul.f
  f7 : F 6 = s_same32.f
  f9 : F 7 [] = nF dF
  f10 : F 8 = f_Enc
  f12 : F 10 = f_cSame
  f13 : F 11 = sp_iExt.f
  f16 : F 14 [] = c
  f17 : F 15 (nF dF) = pL (lawPt b) ++ lawB b
  p0 : pr 0 = InB (WB 16)
  p1 : pr 1 = InB (BB 32)
  p3 : pr 2 = InB (WB 16)
  p4 : pr 3 = InB (WB 32)
  p5 : pr 4 = InB (WB 32)
  p6 : pr 5 = InB (WB 32)
  p7 : pr 6 = InB (BB 64)
  p9 : pr 7 []
  p10 : pr 8 = InB (WB 64)
  p11 : pr 9 = InB (WB 16)
  p12 : pr 10 = InB (WB 112)
  p13 : pr 11 = sp_iExt.pre
  p16 : pr 14 []
  p17 : pr 15 (nF dF)

abbrev Z16' : List Int := [0, 0, 0, 0, 0, 0, 0, 0, 0, 0, 0, 0, 0, 0, 0, 0]

def Hd (F : Fns) (v : Nat → Int) (R : Prop) : Prop :=
  (v 1 = (F 1000000 []).getD 0 0) ∧ (v 2 = op2 .gtr .i64 (v 1) 2147483647) ∧ (v 3 = (F 1000001 []).getD 0 0) ∧ (v 4 = op2 .gtr .i64 (v 3) 2147483647) ∧
  (seg v 5 16 = gets (F 7 ([] : List Int)) 0 16) ∧ (seg v 21 80 = gets (F 15 (seg v 5 16)) 0 80) ∧ (seg v 101 128 = gets (F 11 (seg v 69 32)) 0 128) ∧
  (seg v 229 8 = gets (F 1 (seg v 101 32)) 0 8) ∧ (seg v 237 16 = gets (F 2 (seg v 229 8 ++ [0, 0, 0, 0, 0, 0, 0, 0])) 0 16) ∧
  (seg v 253 8 = gets (F 1 (seg v 133 32)) 0 8) ∧ (seg v 261 16 = gets (F 2 (seg v 253 8 ++ [0, 0, 0, 0, 0, 0, 0, 0])) 0 16) ∧
  (seg v 277 8 = gets (F 1 (seg v 165 32)) 0 8) ∧ (seg v 285 16 = gets (F 2 (seg v 277 8 ++ [0, 0, 0, 0, 0, 0, 0, 0])) 0 16) ∧
  (seg v 301 8 = gets (F 1 (seg v 197 32)) 0 8) ∧ (seg v 309 16 = gets (F 2 (seg v 301 8 ++ [0, 0, 0, 0, 0, 0, 0, 0])) 0 16) ∧
  (v 325 = (F 10 (seg v 5 16 ++ seg v 237 16 ++ seg v 261 16 ++ seg v 285 16 ++ seg v 21 48)).getD 0 0) ∧ (v 326 = (if v 325 ≠ 0 then 0 else 1)) ∧
  (seg v 327 16 = gets (F 5 (seg v 237 16 ++ seg v 261 16)) 0 16) ∧ (seg v 343 16 = gets (F 5 (seg v 285 16 ++ seg v 309 16)) 0 16) ∧
  (v 359 = b2i ((seg v 327 16) == (seg v 343 16))) ∧ (v 360 = (if v 359 ≠ 0 then 0 else 1)) ∧
  (v 361 = op2 .add .i64 (v 0) 1) ∧ (v 362 = op2 .sub .i64 0 (v 361)) ∧ (v 363 = (if v 362 > v 0 then v 362 else v 0)) ∧ (v 364 = op2 .rem .i64 (v 363) 6) ∧ (v 365 = op2 .lss .i64 (v 364) 4) ∧ R

def Md (F : Fns) (v : Nat → Int) (k : Int) (R : Prop) : Prop :=
  (seg v 366 32 = gets (F 14 ([] : List Int)) 0 32) ∧ (seg v 398 8 = gets (F 1 (seg v 366 32)) 0 8) ∧ (v 406 = op2 .and .u32 (v 405) 2147483647) ∧
  (seg v 407 16 = gets (F 2 (seg v 398 7 ++ [v 406, 0, 0, 0, 0, 0, 0, 0, 0])) 0 16) ∧ (v 423 = op2 .eql .i64 (v 364) k) ∧ R

def Tl1 (F : Fns) (v : Nat → Int) (p0 p1 p2 p3 t : Nat) (R : Prop) : Prop :=
  (seg v t 16 = gets (F 5 (seg v p0 16 ++ seg v p0 16)) 0 16) ∧ (seg v (t + 16) 16 = gets (F 5 (seg v p1 16 ++ seg v p1 16)) 0 16) ∧ (seg v (t + 32) 16 = gets (F 5 (seg v p2 16 ++ seg v p2 16)) 0 16) ∧
  (seg v (t + 48) 16 = gets (F 5 (seg v p3 16 ++ seg v p3 16)) 0 16) ∧ (seg v (t + 64) 16 = gets (F 5 (seg v p0 16 ++ seg v p1 16)) 0 16) ∧ (seg v (t + 80) 16 = gets (F 5 (seg v p2 16 ++ seg v p3 16)) 0 16) ∧
  (v (t + 96) = b2i ((seg v (t + 64) 16) == (seg v (t + 80) 16))) ∧ R

def Tl2 (F : Fns) (v : Nat → Int) (t : Nat) (R : Prop) : Prop :=
  (seg v (t + 97) 16 = gets (F 4 (seg v (t + 16) 16 ++ seg v t 16)) 0 16) ∧ (seg v (t + 113) 16 = gets (F 5 (seg v 5 16 ++ seg v (t + 48) 16)) 0 16) ∧
  (seg v (t + 129) 16 = gets (F 3 (seg v (t + 32) 16 ++ seg v (t + 113) 16)) 0 16) ∧ (v (t + 145) = b2i ((seg v (t + 97) 16) == (seg v (t + 129) 16))) ∧ R

def TlF (F : Fns) (v : Nat → Int) (p0 p1 p2 p3 u : Nat) : Prop :=
  (seg v u 32 = gets (F 0 (seg v p0 16)) 0 32) ∧ (seg v (u + 32) 32 = gets (F 0 (seg v p1 16)) 0 32) ∧ (seg v (u + 64) 32 = gets (F 0 (seg v p2 16)) 0 32) ∧
  (seg v (u + 96) 32 = gets (F 0 (seg v p3 16)) 0 32) ∧ (v (u + 128) = b2i ((seg v p2 16) == Z16'))

def TlT (F : Fns) (v : Nat → Int) (p0 p1 p2 p3 t : Nat) : Prop :=
  (v (t + 146) = b2i ((seg v p2 16) == Z16')) ∧ (v (t + 147) = (if v (t + 146) ≠ 0 then 0 else 1)) ∧
  (seg v (t + 148) 32 = gets (F 0 (seg v p0 16)) 0 32) ∧ (seg v (t + 180) 32 = gets (F 0 (seg v p1 16)) 0 32) ∧ (seg v (t + 212) 32 = gets (F 0 (seg v p2 16)) 0 32) ∧
  (seg v (t + 244) 32 = gets (F 0 (seg v p3 16)) 0 32) ∧ (seg v (t + 276) 32 = gets (F 12 (seg v (t + 148) 128)) 0 32) ∧ (v (t + 308) = b2i ((seg v p2 16) == Z16')) ∧
  (v (t + 309) = (if v (t + 147) ≠ 0 then 1 else 0)) ∧ (v (t + 310) = (if v (t + 147) ≠ 0 then 0 else 1)) ∧
  (seg v (t + 311) 32 = gets (F 8 (seg v 5 16 ++ seg v p0 16 ++ seg v p1 16 ++ seg v p2 16)) 0 32) ∧ (v (t + 343) = (F 6 (seg v (t + 276) 32 ++ seg v (t + 311) 32)).getD 0 0)

def AHd (pr : Prs) (v : Nat → Int) : Prop :=
  ((v 360 != 0) = false) ∧ (pr 5 (seg v 285 16 ++ seg v 309 16)) ∧ (pr 5 (seg v 237 16 ++ seg v 261 16)) ∧ ((v 326 != 0) = false) ∧
  (pr 10 (seg v 5 16 ++ seg v 237 16 ++ seg v 261 16 ++ seg v 285 16 ++ seg v 21 48)) ∧
  (pr 2 (seg v 301 8 ++ [0, 0, 0, 0, 0, 0, 0, 0])) ∧ (pr 1 (seg v 197 32)) ∧ (pr 2 (seg v 277 8 ++ [0, 0, 0, 0, 0, 0, 0, 0])) ∧ (pr 1 (seg v 165 32)) ∧
  (pr 2 (seg v 253 8 ++ [0, 0, 0, 0, 0, 0, 0, 0])) ∧ (pr 1 (seg v 133 32)) ∧ (pr 2 (seg v 229 8 ++ [0, 0, 0, 0, 0, 0, 0, 0])) ∧ (pr 1 (seg v 101 32)) ∧
  (pr 11 (seg v 69 32)) ∧ (pr 15 (seg v 5 16)) ∧ (pr 7 ([] : List Int)) ∧ ((v 4 != 0) = false) ∧ ((v 2 != 0) = false) ∧ True

def AMd (pr : Prs) (v : Nat → Int) (R : Prop) : Prop :=
  ((v 423 != 0) = true) ∧ (pr 2 (seg v 398 7 ++ [v 406, 0, 0, 0, 0, 0, 0, 0, 0])) ∧ (pr 1 (seg v 366 32)) ∧ (pr 14 ([] : List Int)) ∧ ((v 365 != 0) = true) ∧ R

def ATl1 (pr : Prs) (v : Nat → Int) (p0 p1 p2 p3 : Nat) (R : Prop) : Prop :=
  (pr 5 (seg v p2 16 ++ seg v p3 16)) ∧ (pr 5 (seg v p0 16 ++ seg v p1 16)) ∧ (pr 5 (seg v p3 16 ++ seg v p3 16)) ∧ (pr 5 (seg v p2 16 ++ seg v p2 16)) ∧ (pr 5 (seg v p1 16 ++ seg v p1 16)) ∧ (pr 5 (seg v p0 16 ++ seg v p0 16)) ∧ R

def ATl2 (pr : Prs) (v : Nat → Int) (t : Nat) (R : Prop) : Prop :=
  (pr 3 (seg v (t + 32) 16 ++ seg v (t + 113) 16)) ∧ (pr 5 (seg v 5 16 ++ seg v (t + 48) 16)) ∧ (pr 9 (seg v 5 16)) ∧ (pr 4 (seg v (t + 16) 16 ++ seg v t 16)) ∧ ((v (t + 96) != 0) = true) ∧ R

def ATlF (pr : Prs) (v : Nat → Int) (p0 p1 p2 p3 u : Nat) (z : Bool) (R : Prop) : Prop :=
  ((v (u + 128) != 0) = z) ∧ (pr 12 (seg v u 128)) ∧ (pr 0 (seg v p3 16)) ∧ (pr 0 (seg v p2 16)) ∧ (pr 0 (seg v p1 16)) ∧ (pr 0 (seg v p0 16)) ∧ R

def ATlT (pr : Prs) (v : Nat → Int) (p0 p1 p2 p3 t : Nat) (R : Prop) : Prop :=
  (pr 6 (seg v (t + 276) 32 ++ seg v (t + 311) 32)) ∧ (pr 8 (seg v 5 16 ++ seg v p0 16 ++ seg v p1 16 ++ seg v p2 16)) ∧ ((v (t + 309) != 0) = true) ∧ ((v (t + 308) != 0) = false) ∧
  (pr 12 (seg v (t + 148) 128)) ∧ (pr 0 (seg v p3 16)) ∧ (pr 0 (seg v p2 16)) ∧ (pr 0 (seg v p1 16)) ∧ (pr 0 (seg v p0 16)) ∧ ((v (t + 145) != 0) = true) ∧ R

theorem eB_in (x y : Fp) : InB (BB 32) (encB x y) := by
  unfold encB
  by_cases h : x.val % 2 = 1
  · rw [if_pos h]; exact top_or (bB_in y)
  · rw [if_neg h]; exact bB_in y
theorem eB_len (x y : Fp) : (encB x y).length = 32 := (eB_in x y).len

theorem lawB_or (b : List Int) : lawB b = b ∨ lawB b = encB (lawPt b).x (lawPt b).y := by
  unfold lawB
  by_cases h0 : okF (uF (eF b)) (vF (eF b))
  · rw [if_pos h0]; exact .inl rfl
  · rw [if_neg h0]; exact .inr rfl
theorem in_or {bo : Bd} {x y z : List Int} (h : x = y ∨ x = z) (hy : InB bo y) (hz : InB bo z) : InB bo x := by
  rcases h with h | h
  · rw [h]; exact hy
  · rw [h]; exact hz
theorem lawB_in {b : List Int} (hb : InB (BB 32) b) : InB (BB 32) (lawB b) := in_or (lawB_or b) hb (eB_in (lawPt b).x (lawPt b).y)
theorem iExt_pre {b : List Int} (hb : InB (BB 32) b) (hp : isPt b) : sp_iExt.pre b := ⟨hb, hp⟩

theorem b2i_nF (a b : Fp) : b2i (nF a == nF b) = if a = b then 1 else 0 := by
  rw [b2i_beq]
  by_cases h : a = b
  · rw [if_pos h, if_pos (by rw [h])]
  · rw [if_neg h, if_neg (fun e => h (nF_inj e))]

theorem Field_bB (x : Fp) : s_Field.f (s_Of32.f (bB x) ++ [0, 0, 0, 0, 0, 0, 0, 0]) = nF x ∧ InB (WB 16) (s_Of32.f (bB x) ++ [0, 0, 0, 0, 0, 0, 0, 0]) ∧ (s_Of32.f (bB x)).length = 8 := by
  have h8 := of32_in (bB_in x)
  have hin : InB (WB 16) (s_Of32.f (bB x) ++ Z8) := InB.append (a := WB 8) (b := WB 8) h8 Z8_in
  have e0 : ofD 4294967296 Z8 = 0 := by decide
  have hn : ofD 4294967296 (s_Of32.f (bB x) ++ Z8) = x.val := by
    obtain ⟨h0, h1⟩ := val_lt x
    rw [ofD_append, e0, Of32_val _ (bB_in x), ofD_toD (by decide), Int.mul_zero, Int.add_zero, ofD_bB]
    exact Int.emod_eq_of_lt h0 (Int.lt_trans h1 (by decide))
  have hf := Field_val _ hin
  rw [hn, φ_of] at hf
  exact ⟨hf, hin, h8.len⟩

theorem eF_bB (x : Fp) : eF (bB x) = x := by
  unfold eF
  rw [ofD_bB, el_val]
  obtain ⟨h0, h1⟩ := val_lt x
  rw [Int.emod_eq_of_lt h0 (Int.lt_trans h1 (by decide)), φ_of]

section
variable {F : Fns} {pr : Prs} {v : Nat → Int} {b c : List Int} (C : Cx6 F pr b c)
include C

/-- the head: what the coordinates are -/
theorem Hd_val {R : Prop} (h : Hd F v R) (h2 : (v 2 != 0) = false) (h4 : (v 4 != 0) = false) :
    R ∧ AHd pr v ∧ seg v 5 16 = nF dF ∧ seg v 237 16 = nF (lawPt b).x ∧ seg v 261 16 = nF (lawPt b).y ∧ seg v 285 16 = nF 1 ∧ seg v 309 16 = nF ((lawPt b).x * (lawPt b).y) ∧ v 364 = chg (v 0) ∧ v 365 = b2i (decide (chg (v 0) < 4)) := by
  obtain ⟨e1, e2, e3, e4, e5, e21, e101, e229, e237, e253, e261, e277, e285, e301, e309, e325, e326, e327, e343, e359, e360, e361, e362, e363, e364, e365, r⟩ := h
  obtain ⟨hpt, hy, hx⟩ := lawB_pt b
  have hok := lawPt_ok b
  have hB : InB (BB 32) (lawB b) := lawB_in C.hb
  rw [C.f9, gets_all (nF_len _)] at e5
  rw [e5, C.f17, gets_all (by rw [List.length_append, pL_len, hB.len]; rfl)] at e21
  obtain ⟨k21, k69⟩ := seg_two (n := 48) (m := 32) e21 (pL_len _)
  have k69 : seg v 69 32 = lawB b := k69
  have hi : sp_iExt.f (lawB b) = bB (lawPt b).x ++ (bB (lawPt b).y ++ (bB 1 ++ bB ((lawPt b).x * (lawPt b).y))) := by
    show bB _ ++ (bB _ ++ (bB 1 ++ bB _)) = _
    rw [hx, hy]
  rw [k69, C.f13, hi, gets_all (by rw [List.length_append, List.length_append, List.length_append, bB_len, bB_len, bB_len, bB_len])] at e101
  obtain ⟨k101, k133⟩ := seg_two (n := 32) (m := 96) e101 (bB_len _)
  obtain ⟨k133, k165⟩ := seg_two (n := 32) (m := 64) k133 (bB_len _)
  obtain ⟨k165, k197⟩ := seg_two (n := 32) (m := 32) k165 (bB_len _)
  have k133 : seg v 133 32 = _ := k133
  have k165 : seg v 165 32 = _ := k165
  have k197 : seg v 197 32 = _ := k197
  obtain ⟨a1, a2, a3⟩ := Field_bB (lawPt b).x
  obtain ⟨b1, b2, b3⟩ := Field_bB (lawPt b).y
  obtain ⟨c1, c2, c3⟩ := Field_bB 1
  obtain ⟨d1, d2, d3⟩ := Field_bB ((lawPt b).x * (lawPt b).y)
  rw [k101, C.f1, gets_all a3] at e229
  rw [k133, C.f1, gets_all b3] at e253
  rw [k165, C.f1, gets_all c3] at e277
  rw [k197, C.f1, gets_all d3] at e301
  rw [e229, C.f3, a1, gets_all (nF_len _)] at e237
  rw [e253, C.f3, b1, gets_all (nF_len _)] at e261
  rw [e277, C.f3, c1, gets_all (nF_len _)] at e285
  rw [e301, C.f3, d1, gets_all (nF_len _)] at e309
  have hs : f_cSame (seg v 5 16 ++ seg v 237 16 ++ seg v 261 16 ++ seg v 285 16 ++ seg v 21 48) = [1] := by
    have e : seg v 5 16 ++ seg v 237 16 ++ seg v 261 16 ++ seg v 285 16 ++ seg v 21 48 = nF dF ++ (pL ⟨(lawPt b).x, (lawPt b).y, 1⟩ ++ pL (lawPt b)) := by
      rw [e5, e237, e261, e285, k21]
      show _ = nF dF ++ ((nF _ ++ (nF _ ++ nF 1)) ++ pL (lawPt b))
      simp only [List.append_assoc]
    rw [e, cSame_val]
    obtain ⟨x1, x2⟩ := (lawPt b).ex hok
    refine congrArg (fun z => [z]) (if_pos ⟨?_, ?_⟩)
    · show (lawPt b).x * (lawPt b).Z = (lawPt b).X * 1
      rw [← x1]; exact (Fin.mul_one _).symm
    · show (lawPt b).y * (lawPt b).Z = (lawPt b).Y * 1
      rw [← x2]; exact (Fin.mul_one _).symm
  rw [C.f12, hs] at e325
  have e325 : v 325 = 1 := e325
  rw [e325, if_pos (by decide)] at e326
  rw [e237, e261, C.f6, FMul_val, gets_all (nF_len _)] at e327
  rw [e285, e309, C.f6, FMul_val, gets_all (nF_len _), Fin.one_mul] at e343
  rw [e327, e343, b2i_nF, if_pos rfl] at e359
  rw [e359, if_pos (by decide)] at e360
  rw [e361] at e362
  rw [e362] at e363
  rw [e363] at e364
  have e364 : v 364 = chg (v 0) := e364
  rw [e364] at e365
  refine ⟨r, ⟨by rw [e360]; rfl, ?_, ?_, by rw [e326]; rfl, ?_, ?_, ?_, ?_, ?_, ?_, ?_, ?_, ?_, ?_, ?_, C.p9, h4, h2, trivial⟩, e5, e237, e261, e285, e309, e364, e365⟩
  · rw [C.p6, e285, e309]; exact nF_in2 _ _
  · rw [C.p6, e237, e261]; exact nF_in2 _ _
  · rw [C.p12]
    have e : seg v 5 16 ++ seg v 237 16 ++ seg v 261 16 ++ seg v 285 16 ++ seg v 21 48 = nF dF ++ (pL ⟨(lawPt b).x, (lawPt b).y, 1⟩ ++ pL (lawPt b)) := by
      rw [e5, e237, e261, e285, k21]
      show _ = nF dF ++ ((nF _ ++ (nF _ ++ nF 1)) ++ pL (lawPt b))
      simp only [List.append_assoc]
    rw [e]; exact InB.append (a := WB 16) (b := WB 96) (nF_in _) (InB.append (a := WB 48) (b := WB 48) (pL_in _) (pL_in _))
  · rw [C.p3, e301]; exact d2
  · rw [C.p1, k197]; exact bB_in _
  · rw [C.p3, e277]; exact c2
  · rw [C.p1, k165]; exact bB_in _
  · rw [C.p3, e253]; exact b2
  · rw [C.p1, k133]; exact bB_in _
  · rw [C.p3, e229]; exact a2
  · rw [C.p1, k101]; exact bB_in _
  · rw [C.p13, k69]
    exact iExt_pre hB hpt
  · rw [e5]; exact C.p17

/-- the middle: the coordinate that is put in -/
theorem Md_val {R : Prop} {k : Int} (h : Md F v k R) (hk : v 364 = k) (h365 : (v 365 != 0) = true) : R ∧ (∀ R', R' → AMd pr v R') ∧ seg v 407 16 = nF (eF c) := by
  obtain ⟨e366, e398, e406, e407, e423, r⟩ := h
  rw [C.f16, gets_all (show _ = 32 from C.hc.len)] at e366
  have h8 := of32_in C.hc
  rw [e366, C.f1, gets_all (show _ = 8 from h8.len)] at e398
  obtain ⟨k1, k2⟩ := seg7_app e398
  have k2 : v 405 = _ := k2
  have hg := h8.get 7 (0, 4294967295) rfl
  rw [k2, mask31 hg.1 (by omega)] at e406
  rw [k1, e406] at e407
  have e407 : seg v 407 16 = gets (F 2 ((s_Of32.f c).take 7 ++ [(s_Of32.f c).getD 7 0 % 2147483648, 0, 0, 0, 0, 0, 0, 0, 0])) 0 16 := e407
  have hd : s_Field.f ((s_Of32.f c).take 7 ++ [(s_Of32.f c).getD 7 0 % 2147483648, 0, 0, 0, 0, 0, 0, 0, 0]) = nF (eF c) := dY_val C.hc
  rw [C.f3, hd, gets_all (nF_len _)] at e407
  have e423 : v 423 = b2i (v 364 == k) := e423
  rw [hk, beq_self_eq_true] at e423
  refine ⟨r, fun R' hR => ⟨by rw [e423]; rfl, ?_, ?_, C.p16, h365, hR⟩, e407⟩
  · rw [C.p3, k1, e406]; exact Of8_in C.hc
  · rw [C.p1, e366]; exact C.hc

variable {p0 p1 p2 p3 t : Nat} {X Y Z T : Fp} (q0 : seg v p0 16 = nF X) (q1 : seg v p1 16 = nF Y) (q2 : seg v p2 16 = nF Z) (q3 : seg v p3 16 = nF T)
include q0 q1 q2 q3

theorem Tl1_val {R : Prop} (h : Tl1 F v p0 p1 p2 p3 t R) : R ∧ (∀ R', R' → ATl1 pr v p0 p1 p2 p3 R') ∧ seg v t 16 = nF (X * X) ∧ seg v (t + 16) 16 = nF (Y * Y) ∧ seg v (t + 32) 16 = nF (Z * Z) ∧ seg v (t + 48) 16 = nF (T * T) ∧
    v (t + 96) = if X * Y = Z * T then 1 else 0 := by
  obtain ⟨e0, e1, e2, e3, e4, e5, e6, r⟩ := h
  rw [q0, C.f6, FMul_val, gets_all (nF_len _)] at e0
  rw [q1, C.f6, FMul_val, gets_all (nF_len _)] at e1
  rw [q2, C.f6, FMul_val, gets_all (nF_len _)] at e2
  rw [q3, C.f6, FMul_val, gets_all (nF_len _)] at e3
  rw [q0, q1, C.f6, FMul_val, gets_all (nF_len _)] at e4
  rw [q2, q3, C.f6, FMul_val, gets_all (nF_len _)] at e5
  rw [e4, e5, b2i_nF] at e6
  refine ⟨r, fun R' hR => ⟨?_, ?_, ?_, ?_, ?_, ?_, hR⟩, e0, e1, e2, e3, e6⟩
  · rw [C.p6, q2, q3]; exact nF_in2 _ _
  · rw [C.p6, q0, q1]; exact nF_in2 _ _
  · rw [C.p6, q3]; exact nF_in2 _ _
  · rw [C.p6, q2]; exact nF_in2 _ _
  · rw [C.p6, q1]; exact nF_in2 _ _
  · rw [C.p6, q0]; exact nF_in2 _ _

omit q0 q1 q2 q3 in
theorem Tl2_val {R : Prop} (h5 : seg v 5 16 = nF dF) (k0 : seg v t 16 = nF (X * X)) (k1 : seg v (t + 16) 16 = nF (Y * Y)) (k2 : seg v (t + 32) 16 = nF (Z * Z)) (k3 : seg v (t + 48) 16 = nF (T * T)) (h96 : (v (t + 96) != 0) = true)
    (h : Tl2 F v t R) : R ∧ (∀ R', R' → ATl2 pr v t R') ∧ v (t + 145) = if Y * Y - X * X = Z * Z + dF * (T * T) then 1 else 0 := by
  obtain ⟨e0, e1, e2, e3, r⟩ := h
  rw [k1, k0, C.f5, FSub_val, gets_all (nF_len _)] at e0
  rw [h5, k3, C.f6, FMul_val, gets_all (nF_len _)] at e1
  rw [k2, e1, C.f4, FAdd_val, gets_all (nF_len _)] at e2
  rw [e0, e2, b2i_nF] at e3
  refine ⟨r, fun R' hR => ⟨?_, ?_, ?_, ?_, h96, hR⟩, e3⟩
  · rw [C.p4, k2, e1]; exact nF_in2 _ _
  · rw [C.p6, h5, k3]; exact nF_in2 _ _
  · rw [C.p11, h5]; exact nF_in _
  · rw [C.p5, k1, k0]; exact nF_in2 _ _

omit C q0 q1 q2 q3 in
theorem four_b4 {u : Nat} (e0 : seg v u 32 = bB X) (e1 : seg v (u + 32) 32 = bB Y) (e2 : seg v (u + 64) 32 = bB Z) (e3 : seg v (u + 96) 32 = bB T) :
    InB (BB 128) (seg v u 128) ∧ eF (b4 (seg v u 128) 0) = X ∧ eF (b4 (seg v u 128) 1) = Y ∧ eF (b4 (seg v u 128) 2) = Z ∧ eF (b4 (seg v u 128) 3) = T := by
  have a : ∀ k, k + 32 ≤ 128 → ((seg v u 128).drop k).take 32 = seg v (u + k) 32 := by
    intro k hk
    rw [seg_drop v (by omega), seg_take v (by omega)]
  have c0 : b4 (seg v u 128) 0 = seg v u 32 := a 0 (by decide)
  have c1 : b4 (seg v u 128) 1 = seg v (u + 32) 32 := a 32 (by decide)
  have c2 : b4 (seg v u 128) 2 = seg v (u + 64) 32 := a 64 (by decide)
  have c3 : b4 (seg v u 128) 3 = seg v (u + 96) 32 := a 96 (by decide)
  have s1 : seg v u 128 = seg v u 32 ++ seg v (u + 32) 96 := seg_add v 32 96 u
  have s2 : seg v (u + 32) 96 = seg v (u + 32) 32 ++ seg v (u + 64) 64 := seg_add v 32 64 (u + 32)
  have s3 : seg v (u + 64) 64 = seg v (u + 64) 32 ++ seg v (u + 96) 32 := seg_add v 32 32 (u + 64)
  refine ⟨?_, by rw [c0, e0, eF_bB], by rw [c1, e1, eF_bB], by rw [c2, e2, eF_bB], by rw [c3, e3, eF_bB]⟩
  rw [s1, s2, s3, e0, e1, e2, e3]
  exact InB.append (a := BB 32) (b := BB 96) (bB_in _) (InB.append (a := BB 32) (b := BB 64) (bB_in _) (InB.append (a := BB 32) (b := BB 32) (bB_in _) (bB_in _)))

theorem TlF_val {u : Nat} {R : Prop} (hp : pr 12 = sp_iFromF.pre) (hn : ¬ onE X Y Z T) (h : TlF F v p0 p1 p2 p3 u) (hR : R) : ATlF pr v p0 p1 p2 p3 u (decide (Z = 0)) R := by
  obtain ⟨e0, e1, e2, e3, e4⟩ := h
  rw [q0, C.f0, NBytes_nF, gets_all (toD_len _ _ _)] at e0
  rw [q1, C.f0, NBytes_nF, gets_all (toD_len _ _ _)] at e1
  rw [q2, C.f0, NBytes_nF, gets_all (toD_len _ _ _)] at e2
  rw [q3, C.f0, NBytes_nF, gets_all (toD_len _ _ _)] at e3
  rw [q2, show Z16' = nF 0 from nF_zero.symm, b2i_nF] at e4
  obtain ⟨i, j0, j1, j2, j3⟩ := four_b4 e0 e1 e2 e3
  refine ⟨?_, ?_, by rw [C.p0, q3]; exact nF_in _, by rw [C.p0, q2]; exact nF_in _, by rw [C.p0, q1]; exact nF_in _, by rw [C.p0, q0]; exact nF_in _, hR⟩
  · rw [e4]
    by_cases hz : Z = 0
    · rw [if_pos hz, decide_eq_true hz]; rfl
    · rw [if_neg hz, decide_eq_false hz]; rfl
  · rw [hp]
    refine ⟨i, ?_⟩
    rw [j0, j1, j2, j3]; exact hn

theorem TlT_val {R : Prop} (hf : F 12 = sp_iFrom.f) (hp : pr 12 = sp_iFrom.pre) (hn : onE X Y Z T) (hz : Z ≠ 0) (hxy : ¬ (X = 0 ∧ Y = 0)) (h5 : seg v 5 16 = nF dF) (h145 : (v (t + 145) != 0) = true) (h : TlT F v p0 p1 p2 p3 t) (hR : R) :
    ATlT pr v p0 p1 p2 p3 t R ∧ v (t + 343) = 1 := by
  obtain ⟨a0, a1, e0, e1, e2, e3, e4, e5, e6, e7, e8, e9⟩ := h
  rw [q2, show Z16' = nF 0 from nF_zero.symm, b2i_nF, if_neg hz] at a0 e5
  rw [a0, if_neg (by decide)] at a1
  rw [a1, if_pos (by decide)] at e6
  rw [q0, C.f0, NBytes_nF, gets_all (toD_len _ _ _)] at e0
  rw [q1, C.f0, NBytes_nF, gets_all (toD_len _ _ _)] at e1
  rw [q2, C.f0, NBytes_nF, gets_all (toD_len _ _ _)] at e2
  rw [q3, C.f0, NBytes_nF, gets_all (toD_len _ _ _)] at e3
  obtain ⟨i, j0, j1, j2, j3⟩ := four_b4 (u := t + 148) e0 e1 e2 e3
  have hF : sp_iFrom.f (seg v (t + 148) 128) = encB (X * inv Z) (Y * inv Z) := by
    show encB (eF (b4 (seg v (t + 148) 128) 0) * inv (eF (b4 (seg v (t + 148) 128) 2))) (eF (b4 (seg v (t + 148) 128) 1) * inv (eF (b4 (seg v (t + 148) 128) 2))) = _
    rw [j0, j1, j2]
  rw [hf, hF, gets_all (eB_len _ _)] at e4
  have ha : seg v 5 16 ++ seg v p0 16 ++ seg v p1 16 ++ seg v p2 16 = nF dF ++ (nF X ++ (nF Y ++ nF Z)) := by
    rw [h5, q0, q1, q2]; simp only [List.append_assoc]
  rw [ha, C.f10, Enc_val (nF_len _), gets_all (eB_len _ _)] at e8
  rw [e4, e8, C.f7, same32_val (eB_in _ _) (eB_in _ _), if_pos rfl] at e9
  refine ⟨⟨?_, ?_, by rw [e6]; rfl, by rw [e5]; rfl, ?_, by rw [C.p0, q3]; exact nF_in _, by rw [C.p0, q2]; exact nF_in _, by rw [C.p0, q1]; exact nF_in _, by rw [C.p0, q0]; exact nF_in _, h145, hR⟩, e9⟩
  · rw [C.p7, e4, e8]; exact InB.append (a := BB 32) (b := BB 32) (eB_in _ _) (eB_in _ _)
  · rw [C.p10, ha]
    exact InB.append (a := WB 16) (b := WB 48) (nF_in _) (InB.append (a := WB 16) (b := WB 32) (nF_in _) (nF_in2 _ _))
  · rw [hp]
    refine ⟨i, ?_, ?_⟩
    · rw [j0, j1, j2, j3]; exact hn
    · rw [j0, j1]; exact hxy

end

/-! the coordinates, with the changed one -/

/-- four coordinates of which the k-th is n -/
def onK (b c : List Int) (k : Int) : Prop :=
  onE (if k = 0 then eF c else (lawPt b).x) (if k = 1 then eF c else (lawPt b).y) (if k = 2 then eF c else 1) (if k = 3 then eF c else (lawPt b).x * (lawPt b).y)

theorem onE_nz {X Y Z T : Fp} (h : onE X Y Z T) (hz : Z ≠ 0) : ¬ (X = 0 ∧ Y = 0) := by
  rintro ⟨rfl, rfl⟩
  obtain ⟨h1, h2⟩ := h
  rw [Fin.zero_mul] at h1 h2
  have hT : T = 0 := (mul_zero_F h2.symm).elim id (fun e => absurd e hz)
  rw [hT, sub_self_F, Fin.zero_mul, Fin.mul_zero, Fin.zero_add] at h1
  exact mul_ne hz hz h1.symm

/-- no point of the curve has a z of nought -/
theorem onE_z {x y : Fp} (h : OnC dF x y) : ¬ onE x y 0 (x * y) := by
  rintro ⟨h1, h2⟩
  rw [Fin.mul_zero] at h2
  rw [h2, Fin.mul_zero, Fin.mul_zero, Fin.add_zero] at h1
  unfold OnC at h
  rw [h1] at h
  rcases mul_zero_F h2 with e | e
  · rw [e, Fin.zero_mul, Fin.mul_zero, Fin.zero_mul, Fin.add_zero] at h
    exact iF_ne.2 h.symm
  · rw [e, Fin.zero_mul, Fin.mul_zero, Fin.add_zero] at h
    exact iF_ne.2 h.symm

end Go.X
