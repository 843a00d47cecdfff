/-
  A part of the proof of YtkjhclknbkleoaaGreat: texts ZP1, ZP2, ZP3, M33, M34, ZP4, ZS1, ZS2, ZS3. No conditions.
-/
import Derived.Test.YtkjhclknbkleoaaGreatT18
import Derived.KernelRfl
import Derived.WalkKit
import Derived.OwnWalk
import Derived.Laws.MakeOwn
import Derived.Laws.OwnMore
import Derived.Laws.CopyRow
import Derived.Test.YtkjhclknbkleoaaGreatProg
set_option maxRecDepth 20000
namespace Go.X.Z
open Go.Proofs

def dOut : Out := ⟨.tup [], [], ⟨[], 0, [], [], []⟩⟩
theorem run_get {o : Option Out} (h : o.isSome = true) : o = some (o.getD dOut) := by
  cases o with
  | none => cases h
  | some x => rfl

def T_chk : Tmpl := ⟨41, [.one (.lf (.slc 0 0 1 none))], [[.ptr 1 0], (us .u64 0 20)], 20, 0, true, .tup [], [none, none], []⟩
noncomputable def p_chk_0 : Out := (runBody Tryz.prog [] [] Tryz.f41 60 T_chk.args T_chk.mem T_chk.nin [false]).getD dOut
theorem r_chk_0 : runBody Tryz.prog [] [] Tryz.f41 60 T_chk.args T_chk.mem T_chk.nin [false] = some p_chk_0 := run_get (by kernel_rfl)
def ft_chk_0 : Fit := ⟨[], []⟩
theorem w_chk_0 : (fitsB T_chk p_chk_0 ft_chk_0 && wfS T_chk.nin p_chk_0.g.ssa p_chk_0.g.n) = true := by kernel_rfl
theorem E_chk_0 {F : Fns} {v : Nat → Int} (h : StHold F v (rawSt p_chk_0.g.ssa)) : (v 20 = b2i ((seg v 0 5) == ([0, 0, 0, 0, 0]))) := Eq.mp (by kernel_rfl) h
theorem A_chk_0 {pr : Prs} {v : Nat → Int} (h : ((v 20 != 0) = false) ∧ True) : HoldL pr v p_chk_0.g.asm := Eq.mp (by kernel_rfl) h
noncomputable def p_chk_1 : Out := (runBody Tryz.prog [] [] Tryz.f41 60 T_chk.args T_chk.mem T_chk.nin [true, false]).getD dOut
theorem r_chk_1 : runBody Tryz.prog [] [] Tryz.f41 60 T_chk.args T_chk.mem T_chk.nin [true, false] = some p_chk_1 := run_get (by kernel_rfl)
def ft_chk_1 : Fit := ⟨[], []⟩
theorem w_chk_1 : (fitsB T_chk p_chk_1 ft_chk_1 && wfS T_chk.nin p_chk_1.g.ssa p_chk_1.g.n) = true := by kernel_rfl
theorem E_chk_1 {F : Fns} {v : Nat → Int} (h : StHold F v (rawSt p_chk_1.g.ssa)) : (v 20 = b2i ((seg v 0 5) == ([0, 0, 0, 0, 0]))) ∧ (v 21 = b2i ((seg v 5 5) == ([0, 0, 0, 0, 0]))) := Eq.mp (by kernel_rfl) h
theorem A_chk_1 {pr : Prs} {v : Nat → Int} (h : ((v 21 != 0) = false) ∧ ((v 20 != 0) = true) ∧ True) : HoldL pr v p_chk_1.g.asm := Eq.mp (by kernel_rfl) h
def T_pSet : Tmpl := ⟨38, [.one (.lf (.ptr 1 0)), .one (.lf (.slc 0 0 32 none))], [(us .u8 0 32), (anys 20)], 32, 15, true, .tup [.lf (.ptr 1 0), .lf (.cst .nilIface)], [none, some ((us .u64 32 10) ++ ([.int .u64 (.l 1)] ++ (lits .u64 0 4)) ++ (us .u64 42 5))], []⟩
noncomputable def p_pSet_0 : Out := (runBody Tryz.prog [T_Mul, T_Mulx, T_Muly, T_Sq, T_Sqx, T_Add, T_Addx, T_Sub, T_Subx, T_Neg, T_One, T_Set, T_Sel, T_Sely, T_SetBytes, T_SqrtRatio, T_feOneP, T_dP, T_errNew] [] Tryz.f38 60 T_pSet.args T_pSet.mem T_pSet.nin [false]).getD dOut
theorem r_pSet_0 : runBody Tryz.prog [T_Mul, T_Mulx, T_Muly, T_Sq, T_Sqx, T_Add, T_Addx, T_Sub, T_Subx, T_Neg, T_One, T_Set, T_Sel, T_Sely, T_SetBytes, T_SqrtRatio, T_feOneP, T_dP, T_errNew] [] Tryz.f38 60 T_pSet.args T_pSet.mem T_pSet.nin [false] = some p_pSet_0 := run_get (by kernel_rfl)
def ft_pSet_0 : Fit := ⟨((vs 76 5) ++ (vs 32 5) ++ (vs 81 5)), []⟩
theorem w_pSet_0 : (fitsB T_pSet p_pSet_0 ft_pSet_0 && wfS T_pSet.nin p_pSet_0.g.ssa p_pSet_0.g.n) = true := by kernel_rfl
theorem E_pSet_0 {F : Fns} {v : Nat → Int} (h : StHold F v (rawSt p_pSet_0.g.ssa)) : (seg v 32 5 = gets (F 14 (seg v 0 32)) 0 5) ∧ (seg v 37 5 = gets (F 3 (seg v 32 5)) 0 5) ∧ (seg v 42 5 = gets (F 7 (seg v 37 5 ++ [1, 0, 0, 0, 0])) 0 5) ∧ (seg v 47 5 = gets (F 17 ([] : List Int)) 0 5) ∧ (seg v 52 5 = gets (F 0 (seg v 37 5 ++ seg v 47 5)) 0 5) ∧ (seg v 57 5 = gets (F 6 (seg v 52 5 ++ [1, 0, 0, 0, 0])) 0 5) ∧ (seg v 62 6 = gets (F 15 (seg v 42 5 ++ seg v 57 5)) 0 6) ∧ (v 68 = op2 .eql .i64 (v 62) 0) ∧ (seg v 69 5 = gets (F 9 (seg v 63 5)) 0 5) ∧ (v 74 = op2 .shr .u8 (v 31) 7) ∧ (v 75 = IntKind.wrap .i64 (v 74)) ∧ (seg v 76 5 = gets (F 13 (seg v 69 5 ++ seg v 63 5 ++ [v 75])) 0 5) ∧ (seg v 81 5 = gets (F 0 (seg v 76 5 ++ seg v 32 5)) 0 5) := Eq.mp (by kernel_rfl) h
theorem A_pSet_0 {pr : Prs} {v : Nat → Int} (h : (pr 0 (seg v 76 5 ++ seg v 32 5)) ∧ (pr 10 ([] : List Int)) ∧ (pr 11 (seg v 32 5)) ∧ (pr 11 (seg v 76 5)) ∧ (pr 13 (seg v 69 5 ++ seg v 63 5 ++ [v 75])) ∧ (pr 9 (seg v 63 5)) ∧ ((v 68 != 0) = false) ∧ (pr 15 (seg v 42 5 ++ seg v 57 5)) ∧ (pr 6 (seg v 52 5 ++ [1, 0, 0, 0, 0])) ∧ (pr 16 ([] : List Int)) ∧ (pr 0 (seg v 37 5 ++ seg v 47 5)) ∧ (pr 17 ([] : List Int)) ∧ (pr 7 (seg v 37 5 ++ [1, 0, 0, 0, 0])) ∧ (pr 16 ([] : List Int)) ∧ (pr 3 (seg v 32 5)) ∧ (pr 14 (seg v 0 32)) ∧ True) : HoldL pr v p_pSet_0.g.asm := Eq.mp (by kernel_rfl) h
def T_pByt_ : Tmpl := ⟨45, [.one (.lf (.ptr 0 0)), .one (.lf (.ptr 1 0))], [(us .u64 0 20), (anys 32)], 20, 32, true, .one (.lf (.slc 1 0 32 (some 32))), [none, some (us .u8 20 32)], []⟩
noncomputable def p_pByt__0 : Out := (runBody Tryz.prog [T_Mul, T_Mulx, T_Muly, T_IsNeg, T_Invert, T_Invertx, T_cpEl, T_chk] [] Tryz.f45 60 T_pByt_.args T_pByt_.mem T_pByt_.nin []).getD dOut
theorem r_pByt__0 : runBody Tryz.prog [T_Mul, T_Mulx, T_Muly, T_IsNeg, T_Invert, T_Invertx, T_cpEl, T_chk] [] Tryz.f45 60 T_pByt_.args T_pByt_.mem T_pByt_.nin [] = some p_pByt__0 := run_get (by kernel_rfl)
def ft_pByt__0 : Fit := ⟨((vs 35 31) ++ [(.v 70)]), []⟩
theorem w_pByt__0 : (fitsB T_pByt_ p_pByt__0 ft_pByt__0 && wfS T_pByt_.nin p_pByt__0.g.ssa p_pByt__0.g.n) = true := by kernel_rfl
theorem E_pByt__0 {F : Fns} {v : Nat → Int} (h : StHold F v (rawSt p_pByt__0.g.ssa)) : (seg v 20 5 = gets (F 4 (seg v 10 5)) 0 5) ∧ (seg v 25 5 = gets (F 0 (seg v 0 5 ++ seg v 20 5)) 0 5) ∧ (seg v 30 5 = gets (F 0 (seg v 5 5 ++ seg v 20 5)) 0 5) ∧ (seg v 35 32 = gets (F 6 (seg v 30 5)) 0 32) ∧ (v 67 = (F 3 (seg v 25 5)).getD 0 0) ∧ (v 68 = op2 .shl .i64 (v 67) 7) ∧ (v 69 = IntKind.wrap .u8 (v 68)) ∧ (v 70 = op2 .or .u8 (v 66) (v 69)) := Eq.mp (by kernel_rfl) h
theorem A_pByt__0 {pr : Prs} {v : Nat → Int} (h : (pr 3 (seg v 25 5)) ∧ (pr 6 (seg v 30 5)) ∧ (pr 0 (seg v 5 5 ++ seg v 20 5)) ∧ (pr 0 (seg v 0 5 ++ seg v 20 5)) ∧ (pr 4 (seg v 10 5)) ∧ (pr 7 (seg v 0 20)) ∧ True) : HoldL pr v p_pByt__0.g.asm := Eq.mp (by kernel_rfl) h
def T_pByt : Tmpl := ⟨21, [.one (.lf (.ptr 0 0))], [(us .u64 0 20)], 20, 32, true, .one (.lf (.slc 1 0 32 (some 32))), [none], [(us .u8 20 32)]⟩
noncomputable def p_pByt_0 : Out := (runBody Tryz.prog [T_pByt_] [] Tryz.f21 60 T_pByt.args T_pByt.mem T_pByt.nin []).getD dOut
theorem r_pByt_0 : runBody Tryz.prog [T_pByt_] [] Tryz.f21 60 T_pByt.args T_pByt.mem T_pByt.nin [] = some p_pByt_0 := run_get (by kernel_rfl)
def ft_pByt_0 : Fit := ⟨(vs 20 32), [1]⟩
theorem w_pByt_0 : (fitsB T_pByt p_pByt_0 ft_pByt_0 && wfS T_pByt.nin p_pByt_0.g.ssa p_pByt_0.g.n) = true := by kernel_rfl
theorem E_pByt_0 {F : Fns} {v : Nat → Int} (h : StHold F v (rawSt p_pByt_0.g.ssa)) : (seg v 20 32 = gets (F 0 (seg v 0 20)) 0 32) := Eq.mp (by kernel_rfl) h
theorem A_pByt_0 {pr : Prs} {v : Nat → Int} (h : (pr 0 (seg v 0 20)) ∧ True) : HoldL pr v p_pByt_0.g.asm := Eq.mp (by kernel_rfl) h
def T_ident : Tmpl := ⟨40, [], [], 0, 15, true, .one (.lf (.ptr 0 0)), [], [((us .u64 0 10) ++ ([.int .u64 (.l 1)] ++ (lits .u64 0 4)) ++ (us .u64 10 5))]⟩
noncomputable def p_ident_0 : Out := (runBody Tryz.prog [T_pSet] [] Tryz.f40 60 T_ident.args T_ident.mem T_ident.nin []).getD dOut
theorem r_ident_0 : runBody Tryz.prog [T_pSet] [] Tryz.f40 60 T_ident.args T_ident.mem T_ident.nin [] = some p_ident_0 := run_get (by kernel_rfl)
def ft_ident_0 : Fit := ⟨(vs 0 15), [0]⟩
theorem w_ident_0 : (fitsB T_ident p_ident_0 ft_ident_0 && wfS T_ident.nin p_ident_0.g.ssa p_ident_0.g.n) = true := by kernel_rfl
theorem E_ident_0 {F : Fns} {v : Nat → Int} (h : StHold F v (rawSt p_ident_0.g.ssa)) : (seg v 0 15 = gets (F 0 ([1, 0, 0, 0, 0, 0, 0, 0, 0, 0, 0, 0, 0, 0, 0, 0, 0, 0, 0, 0, 0, 0, 0, 0, 0, 0, 0, 0, 0, 0, 0, 0])) 0 15) := Eq.mp (by kernel_rfl) h
theorem A_ident_0 {pr : Prs} {v : Nat → Int} (h : (pr 0 ([1, 0, 0, 0, 0, 0, 0, 0, 0, 0, 0, 0, 0, 0, 0, 0, 0, 0, 0, 0, 0, 0, 0, 0, 0, 0, 0, 0, 0, 0, 0, 0])) ∧ True) : HoldL pr v p_ident_0.g.asm := Eq.mp (by kernel_rfl) h
def T_newId : Tmpl := ⟨19, [], [], 0, 15, true, .one (.lf (.ptr 0 0)), [], [((us .u64 0 10) ++ ([.int .u64 (.l 1)] ++ (lits .u64 0 4)) ++ (us .u64 10 5))]⟩
noncomputable def p_newId_0 : Out := (runBody Tryz.prog [T_pCopy, T_ident] [] Tryz.f19 60 T_newId.args T_newId.mem T_newId.nin []).getD dOut
theorem r_newId_0 : runBody Tryz.prog [T_pCopy, T_ident] [] Tryz.f19 60 T_newId.args T_newId.mem T_newId.nin [] = some p_newId_0 := run_get (by kernel_rfl)
def ft_newId_0 : Fit := ⟨(vs 0 15), [0]⟩
theorem w_newId_0 : (fitsB T_newId p_newId_0 ft_newId_0 && wfS T_newId.nin p_newId_0.g.ssa p_newId_0.g.n) = true := by kernel_rfl
theorem E_newId_0 {F : Fns} {v : Nat → Int} (h : StHold F v (rawSt p_newId_0.g.ssa)) : (seg v 0 15 = gets (F 1 ([] : List Int)) 0 15) := Eq.mp (by kernel_rfl) h
theorem A_newId_0 {pr : Prs} {v : Nat → Int} (h : (pr 0 (seg v 0 10 ++ [1, 0, 0, 0, 0] ++ seg v 10 5)) ∧ (pr 1 ([] : List Int)) ∧ True) : HoldL pr v p_newId_0.g.asm := Eq.mp (by kernel_rfl) h
def T_iPoint : Tmpl := ⟨18, [.one (.lf (.slc 0 0 32 none))], [(us .u8 0 32)], 32, 15, true, .one (.lf (.ptr 1 0)), [none], [((us .u64 32 10) ++ ([.int .u64 (.l 1)] ++ (lits .u64 0 4)) ++ (us .u64 42 5))]⟩
noncomputable def p_iPoint_0 : Out := (runBody Tryz.prog [T_pSet, T_newId] [] Tryz.f18 60 T_iPoint.args T_iPoint.mem T_iPoint.nin []).getD dOut
theorem r_iPoint_0 : runBody Tryz.prog [T_pSet, T_newId] [] Tryz.f18 60 T_iPoint.args T_iPoint.mem T_iPoint.nin [] = some p_iPoint_0 := run_get (by kernel_rfl)
def ft_iPoint_0 : Fit := ⟨(vs 47 15), [1]⟩
theorem w_iPoint_0 : (fitsB T_iPoint p_iPoint_0 ft_iPoint_0 && wfS T_iPoint.nin p_iPoint_0.g.ssa p_iPoint_0.g.n) = true := by kernel_rfl
theorem E_iPoint_0 {F : Fns} {v : Nat → Int} (h : StHold F v (rawSt p_iPoint_0.g.ssa)) : (seg v 32 15 = gets (F 1 ([] : List Int)) 0 15) ∧ (seg v 47 15 = gets (F 0 (seg v 0 32)) 0 15) := Eq.mp (by kernel_rfl) h
theorem A_iPoint_0 {pr : Prs} {v : Nat → Int} (h : (pr 0 (seg v 0 32)) ∧ (pr 1 ([] : List Int)) ∧ True) : HoldL pr v p_iPoint_0.g.asm := Eq.mp (by kernel_rfl) h
def T_chk2 : Tmpl := ⟨41, [.one (.lf (.slc 0 0 2 none))], [[.ptr 1 0, .ptr 2 0], (us .u64 0 20), (us .u64 20 20)], 40, 0, true, .tup [], [none, none, none], []⟩
noncomputable def p_chk2_0 : Out := (runBody Tryz.prog [] [] Tryz.f41 60 T_chk2.args T_chk2.mem T_chk2.nin [false, false]).getD dOut
theorem r_chk2_0 : runBody Tryz.prog [] [] Tryz.f41 60 T_chk2.args T_chk2.mem T_chk2.nin [false, false] = some p_chk2_0 := run_get (by kernel_rfl)
def ft_chk2_0 : Fit := ⟨[], []⟩
theorem w_chk2_0 : (fitsB T_chk2 p_chk2_0 ft_chk2_0 && wfS T_chk2.nin p_chk2_0.g.ssa p_chk2_0.g.n) = true := by kernel_rfl
theorem E_chk2_0 {F : Fns} {v : Nat → Int} (h : StHold F v (rawSt p_chk2_0.g.ssa)) : (v 40 = b2i ((seg v 0 5) == ([0, 0, 0, 0, 0]))) ∧ (v 41 = b2i ((seg v 20 5) == ([0, 0, 0, 0, 0]))) := Eq.mp (by kernel_rfl) h
theorem A_chk2_0 {pr : Prs} {v : Nat → Int} (h : ((v 41 != 0) = false) ∧ ((v 40 != 0) = false) ∧ True) : HoldL pr v p_chk2_0.g.asm := Eq.mp (by kernel_rfl) h
noncomputable def p_chk2_1 : Out := (runBody Tryz.prog [] [] Tryz.f41 60 T_chk2.args T_chk2.mem T_chk2.nin [true, false, false]).getD dOut
theorem r_chk2_1 : runBody Tryz.prog [] [] Tryz.f41 60 T_chk2.args T_chk2.mem T_chk2.nin [true, false, false] = some p_chk2_1 := run_get (by kernel_rfl)
def ft_chk2_1 : Fit := ⟨[], []⟩
theorem w_chk2_1 : (fitsB T_chk2 p_chk2_1 ft_chk2_1 && wfS T_chk2.nin p_chk2_1.g.ssa p_chk2_1.g.n) = true := by kernel_rfl
theorem E_chk2_1 {F : Fns} {v : Nat → Int} (h : StHold F v (rawSt p_chk2_1.g.ssa)) : (v 40 = b2i ((seg v 0 5) == ([0, 0, 0, 0, 0]))) ∧ (v 41 = b2i ((seg v 5 5) == ([0, 0, 0, 0, 0]))) ∧ (v 42 = b2i ((seg v 20 5) == ([0, 0, 0, 0, 0]))) := Eq.mp (by kernel_rfl) h
theorem A_chk2_1 {pr : Prs} {v : Nat → Int} (h : ((v 42 != 0) = false) ∧ ((v 41 != 0) = false) ∧ ((v 40 != 0) = true) ∧ True) : HoldL pr v p_chk2_1.g.asm := Eq.mp (by kernel_rfl) h
noncomputable def p_chk2_2 : Out := (runBody Tryz.prog [] [] Tryz.f41 60 T_chk2.args T_chk2.mem T_chk2.nin [false, true, false]).getD dOut
theorem r_chk2_2 : runBody Tryz.prog [] [] Tryz.f41 60 T_chk2.args T_chk2.mem T_chk2.nin [false, true, false] = some p_chk2_2 := run_get (by kernel_rfl)
def ft_chk2_2 : Fit := ⟨[], []⟩
theorem w_chk2_2 : (fitsB T_chk2 p_chk2_2 ft_chk2_2 && wfS T_chk2.nin p_chk2_2.g.ssa p_chk2_2.g.n) = true := by kernel_rfl
theorem E_chk2_2 {F : Fns} {v : Nat → Int} (h : StHold F v (rawSt p_chk2_2.g.ssa)) : (v 40 = b2i ((seg v 0 5) == ([0, 0, 0, 0, 0]))) ∧ (v 41 = b2i ((seg v 20 5) == ([0, 0, 0, 0, 0]))) ∧ (v 42 = b2i ((seg v 25 5) == ([0, 0, 0, 0, 0]))) := Eq.mp (by kernel_rfl) h
theorem A_chk2_2 {pr : Prs} {v : Nat → Int} (h : ((v 42 != 0) = false) ∧ ((v 41 != 0) = true) ∧ ((v 40 != 0) = false) ∧ True) : HoldL pr v p_chk2_2.g.asm := Eq.mp (by kernel_rfl) h
noncomputable def p_chk2_3 : Out := (runBody Tryz.prog [] [] Tryz.f41 60 T_chk2.args T_chk2.mem T_chk2.nin [true, false, true, false]).getD dOut
theorem r_chk2_3 : runBody Tryz.prog [] [] Tryz.f41 60 T_chk2.args T_chk2.mem T_chk2.nin [true, false, true, false] = some p_chk2_3 := run_get (by kernel_rfl)
def ft_chk2_3 : Fit := ⟨[], []⟩
theorem w_chk2_3 : (fitsB T_chk2 p_chk2_3 ft_chk2_3 && wfS T_chk2.nin p_chk2_3.g.ssa p_chk2_3.g.n) = true := by kernel_rfl
theorem E_chk2_3 {F : Fns} {v : Nat → Int} (h : StHold F v (rawSt p_chk2_3.g.ssa)) : (v 40 = b2i ((seg v 0 5) == ([0, 0, 0, 0, 0]))) ∧ (v 41 = b2i ((seg v 5 5) == ([0, 0, 0, 0, 0]))) ∧ (v 42 = b2i ((seg v 20 5) == ([0, 0, 0, 0, 0]))) ∧ (v 43 = b2i ((seg v 25 5) == ([0, 0, 0, 0, 0]))) := Eq.mp (by kernel_rfl) h
theorem A_chk2_3 {pr : Prs} {v : Nat → Int} (h : ((v 43 != 0) = false) ∧ ((v 42 != 0) = true) ∧ ((v 41 != 0) = false) ∧ ((v 40 != 0) = true) ∧ True) : HoldL pr v p_chk2_3.g.asm := Eq.mp (by kernel_rfl) h
def T_pAdd : Tmpl := ⟨20, [.one (.lf (.ptr 2 0)), .one (.lf (.ptr 0 0)), .one (.lf (.ptr 1 0))], [(us .u64 0 20), (us .u64 20 20), (anys 20)], 40, 20, true, .one (.lf (.ptr 2 0)), [none, none, some (us .u64 40 20)], []⟩
noncomputable def p_pAdd_0 : Out := (runBody Tryz.prog [T_P3c, T_P1Add, T_fromP1, T_chk, T_chk2] [] Tryz.f20 60 T_pAdd.args T_pAdd.mem T_pAdd.nin []).getD dOut
theorem r_pAdd_0 : runBody Tryz.prog [T_P3c, T_P1Add, T_fromP1, T_chk, T_chk2] [] Tryz.f20 60 T_pAdd.args T_pAdd.mem T_pAdd.nin [] = some p_pAdd_0 := run_get (by kernel_rfl)
def ft_pAdd_0 : Fit := ⟨(vs 75 20), []⟩
theorem w_pAdd_0 : (fitsB T_pAdd p_pAdd_0 ft_pAdd_0 && wfS T_pAdd.nin p_pAdd_0.g.ssa p_pAdd_0.g.n) = true := by kernel_rfl
theorem E_pAdd_0 {F : Fns} {v : Nat → Int} (h : StHold F v (rawSt p_pAdd_0.g.ssa)) : (seg v 40 15 = gets (F 0 (seg v 20 20)) 0 15) ∧ (seg v 55 20 = gets (F 1 (seg v 0 20 ++ seg v 40 10 ++ seg v 30 5 ++ seg v 50 5)) 0 20) ∧ (seg v 75 20 = gets (F 2 (seg v 55 20)) 0 20) := Eq.mp (by kernel_rfl) h
theorem A_pAdd_0 {pr : Prs} {v : Nat → Int} (h : (pr 2 (seg v 55 20)) ∧ (pr 1 (seg v 0 20 ++ seg v 40 10 ++ seg v 30 5 ++ seg v 50 5)) ∧ (pr 0 (seg v 20 20)) ∧ (pr 4 (seg v 0 40)) ∧ True) : HoldL pr v p_pAdd_0.g.asm := Eq.mp (by kernel_rfl) h
def T_pSub : Tmpl := ⟨22, [.one (.lf (.ptr 2 0)), .one (.lf (.ptr 0 0)), .one (.lf (.ptr 1 0))], [(us .u64 0 20), (us .u64 20 20), (anys 20)], 40, 20, true, .one (.lf (.ptr 2 0)), [none, none, some (us .u64 40 20)], []⟩
noncomputable def p_pSub_0 : Out := (runBody Tryz.prog [T_P3c, T_P1Sub, T_fromP1, T_chk, T_chk2] [] Tryz.f22 60 T_pSub.args T_pSub.mem T_pSub.nin []).getD dOut
theorem r_pSub_0 : runBody Tryz.prog [T_P3c, T_P1Sub, T_fromP1, T_chk, T_chk2] [] Tryz.f22 60 T_pSub.args T_pSub.mem T_pSub.nin [] = some p_pSub_0 := run_get (by kernel_rfl)
def ft_pSub_0 : Fit := ⟨(vs 75 20), []⟩
theorem w_pSub_0 : (fitsB T_pSub p_pSub_0 ft_pSub_0 && wfS T_pSub.nin p_pSub_0.g.ssa p_pSub_0.g.n) = true := by kernel_rfl
theorem E_pSub_0 {F : Fns} {v : Nat → Int} (h : StHold F v (rawSt p_pSub_0.g.ssa)) : (seg v 40 15 = gets (F 0 (seg v 20 20)) 0 15) ∧ (seg v 55 20 = gets (F 1 (seg v 0 20 ++ seg v 40 10 ++ seg v 30 5 ++ seg v 50 5)) 0 20) ∧ (seg v 75 20 = gets (F 2 (seg v 55 20)) 0 20) := Eq.mp (by kernel_rfl) h
theorem A_pSub_0 {pr : Prs} {v : Nat → Int} (h : (pr 2 (seg v 55 20)) ∧ (pr 1 (seg v 0 20 ++ seg v 40 10 ++ seg v 30 5 ++ seg v 50 5)) ∧ (pr 0 (seg v 20 20)) ∧ (pr 4 (seg v 0 40)) ∧ True) : HoldL pr v p_pSub_0.g.asm := Eq.mp (by kernel_rfl) h
def T_pNeg : Tmpl := ⟨23, [.one (.lf (.ptr 1 0)), .one (.lf (.ptr 0 0))], [(us .u64 0 20), (anys 20)], 20, 10, true, .one (.lf (.ptr 1 0)), [none, some ((us .u64 20 5) ++ (us .u64 5 10) ++ (us .u64 25 5))], []⟩
noncomputable def p_pNeg_0 : Out := (runBody Tryz.prog [T_Neg, T_Set, T_chk, T_chk2] [] Tryz.f23 60 T_pNeg.args T_pNeg.mem T_pNeg.nin []).getD dOut
theorem r_pNeg_0 : runBody Tryz.prog [T_Neg, T_Set, T_chk, T_chk2] [] Tryz.f23 60 T_pNeg.args T_pNeg.mem T_pNeg.nin [] = some p_pNeg_0 := run_get (by kernel_rfl)
def ft_pNeg_0 : Fit := ⟨(vs 20 10), []⟩
theorem w_pNeg_0 : (fitsB T_pNeg p_pNeg_0 ft_pNeg_0 && wfS T_pNeg.nin p_pNeg_0.g.ssa p_pNeg_0.g.n) = true := by kernel_rfl
theorem E_pNeg_0 {F : Fns} {v : Nat → Int} (h : StHold F v (rawSt p_pNeg_0.g.ssa)) : (seg v 20 5 = gets (F 0 (seg v 0 5)) 0 5) ∧ (seg v 25 5 = gets (F 0 (seg v 15 5)) 0 5) := Eq.mp (by kernel_rfl) h
theorem A_pNeg_0 {pr : Prs} {v : Nat → Int} (h : (pr 0 (seg v 15 5)) ∧ (pr 1 (seg v 10 5)) ∧ (pr 1 (seg v 5 5)) ∧ (pr 0 (seg v 0 5)) ∧ (pr 2 (seg v 0 20)) ∧ True) : HoldL pr v p_pNeg_0.g.asm := Eq.mp (by kernel_rfl) h
def T_pCof : Tmpl := ⟨24, [.one (.lf (.ptr 1 0)), .one (.lf (.ptr 0 0))], [(us .u64 0 20), (anys 20)], 20, 20, true, .one (.lf (.ptr 1 0)), [none, some (us .u64 20 20)], []⟩
noncomputable def p_pCof_0 : Out := (runBody Tryz.prog [T_fromP1, T_P2P3, T_P2P1, T_Dbl, T_chk, T_chk2] [] Tryz.f24 60 T_pCof.args T_pCof.mem T_pCof.nin []).getD dOut
theorem r_pCof_0 : runBody Tryz.prog [T_fromP1, T_P2P3, T_P2P1, T_Dbl, T_chk, T_chk2] [] Tryz.f24 60 T_pCof.args T_pCof.mem T_pCof.nin [] = some p_pCof_0 := run_get (by kernel_rfl)
def ft_pCof_0 : Fit := ⟨(vs 110 20), []⟩
theorem w_pCof_0 : (fitsB T_pCof p_pCof_0 ft_pCof_0 && wfS T_pCof.nin p_pCof_0.g.ssa p_pCof_0.g.n) = true := by kernel_rfl
theorem E_pCof_0 {F : Fns} {v : Nat → Int} (h : StHold F v (rawSt p_pCof_0.g.ssa)) : (seg v 20 20 = gets (F 3 (seg v 0 15)) 0 20) ∧ (seg v 40 15 = gets (F 2 (seg v 20 20)) 0 15) ∧ (seg v 55 20 = gets (F 3 (seg v 40 15)) 0 20) ∧ (seg v 75 15 = gets (F 2 (seg v 55 20)) 0 15) ∧ (seg v 90 20 = gets (F 3 (seg v 75 15)) 0 20) ∧ (seg v 110 20 = gets (F 0 (seg v 90 20)) 0 20) := Eq.mp (by kernel_rfl) h
theorem A_pCof_0 {pr : Prs} {v : Nat → Int} (h : (pr 0 (seg v 90 20)) ∧ (pr 3 (seg v 75 15)) ∧ (pr 2 (seg v 55 20)) ∧ (pr 3 (seg v 40 15)) ∧ (pr 2 (seg v 20 20)) ∧ (pr 3 (seg v 0 15)) ∧ (pr 1 (seg v 0 20)) ∧ (pr 4 (seg v 0 20)) ∧ True) : HoldL pr v p_pCof_0.g.asm := Eq.mp (by kernel_rfl) h
def T_pEql : Tmpl := ⟨25, [.one (.lf (.ptr 0 0)), .one (.lf (.ptr 1 0))], [(us .u64 0 20), (us .u64 20 20)], 40, 1, true, .one (.lf (.int .i64 (.v 40))), [none, none], []⟩
noncomputable def p_pEql_0 : Out := (runBody Tryz.prog [T_Mul, T_Mulx, T_Muly, T_Equal, T_chk, T_chk2] [] Tryz.f25 60 T_pEql.args T_pEql.mem T_pEql.nin []).getD dOut
theorem r_pEql_0 : runBody Tryz.prog [T_Mul, T_Mulx, T_Muly, T_Equal, T_chk, T_chk2] [] Tryz.f25 60 T_pEql.args T_pEql.mem T_pEql.nin [] = some p_pEql_0 := run_get (by kernel_rfl)
def ft_pEql_0 : Fit := ⟨[(.v 62)], []⟩
theorem w_pEql_0 : (fitsB T_pEql p_pEql_0 ft_pEql_0 && wfS T_pEql.nin p_pEql_0.g.ssa p_pEql_0.g.n) = true := by kernel_rfl
theorem E_pEql_0 {F : Fns} {v : Nat → Int} (h : StHold F v (rawSt p_pEql_0.g.ssa)) : (seg v 40 5 = gets (F 0 (seg v 0 5 ++ seg v 30 5)) 0 5) ∧ (seg v 45 5 = gets (F 0 (seg v 20 5 ++ seg v 10 5)) 0 5) ∧ (seg v 50 5 = gets (F 0 (seg v 5 5 ++ seg v 30 5)) 0 5) ∧ (seg v 55 5 = gets (F 0 (seg v 25 5 ++ seg v 10 5)) 0 5) ∧ (v 60 = (F 3 (seg v 40 10)).getD 0 0) ∧ (v 61 = (F 3 (seg v 50 10)).getD 0 0) ∧ (v 62 = op2 .and .i64 (v 60) (v 61)) := Eq.mp (by kernel_rfl) h
theorem A_pEql_0 {pr : Prs} {v : Nat → Int} (h : (pr 3 (seg v 50 10)) ∧ (pr 3 (seg v 40 10)) ∧ (pr 0 (seg v 25 5 ++ seg v 10 5)) ∧ (pr 0 (seg v 5 5 ++ seg v 30 5)) ∧ (pr 0 (seg v 20 5 ++ seg v 10 5)) ∧ (pr 0 (seg v 0 5 ++ seg v 30 5)) ∧ (pr 5 (seg v 0 40)) ∧ True) : HoldL pr v p_pEql_0.g.asm := Eq.mp (by kernel_rfl) h
def T_iSums : Tmpl := ⟨6, [.one (.lf (.slc 0 0 32 none)), .one (.lf (.slc 1 0 32 none))], [(us .u8 0 32), (us .u8 32 32)], 64, 129, true, .tup [.lf (.slc 2 0 4 (some 4)), .lf (.bool (.v 64))], [none, none], [[.slc 3 0 32 (some 32), .slc 4 0 32 (some 32), .slc 5 0 32 (some 32), .slc 6 0 32 (some 32)], (us .u8 65 32), (us .u8 97 32), (us .u8 129 32), (us .u8 161 32)]⟩
noncomputable def p_iSums_0 : Out := (runBody Tryz.prog [T_pByt, T_newId, T_iPoint, T_pAdd, T_pSub, T_pNeg, T_pCof, T_pEql] [] Tryz.f6 200 T_iSums.args T_iSums.mem T_iSums.nin []).getD dOut
theorem r_iSums_0 : runBody Tryz.prog [T_pByt, T_newId, T_iPoint, T_pAdd, T_pSub, T_pNeg, T_pCof, T_pEql] [] Tryz.f6 200 T_iSums.args T_iSums.mem T_iSums.nin [] = some p_iSums_0 := run_get (by kernel_rfl)
def ft_iSums_0 : Fit := ⟨(List.flatten [[(.v 353)], vs 129 32, vs 196 32, vs 253 32, vs 320 32]), [12, 5, 7, 9, 11]⟩
theorem w_iSums_0 : (fitsB T_iSums p_iSums_0 ft_iSums_0 && wfS T_iSums.nin p_iSums_0.g.ssa p_iSums_0.g.n) = true := by kernel_rfl
theorem E_iSums_0 {F : Fns} {v : Nat → Int} (h : StHold F v (rawSt p_iSums_0.g.ssa)) : (seg v 64 15 = gets (F 2 (seg v 0 32)) 0 15) ∧ (seg v 79 15 = gets (F 2 (seg v 32 32)) 0 15) ∧ (seg v 94 15 = gets (F 1 ([] : List Int)) 0 15) ∧ (seg v 109 20 = gets (F 3 (seg v 64 10 ++ [1, 0, 0, 0, 0] ++ seg v 74 15 ++ [1, 0, 0, 0, 0] ++ seg v 89 5)) 0 20) ∧ (seg v 129 32 = gets (F 0 (seg v 109 20)) 0 32) ∧ (seg v 161 15 = gets (F 1 ([] : List Int)) 0 15) ∧ (seg v 176 20 = gets (F 4 (seg v 64 10 ++ [1, 0, 0, 0, 0] ++ seg v 74 15 ++ [1, 0, 0, 0, 0] ++ seg v 89 5)) 0 20) ∧ (seg v 196 32 = gets (F 0 (seg v 176 20)) 0 32) ∧ (seg v 228 15 = gets (F 1 ([] : List Int)) 0 15) ∧ (seg v 243 10 = gets (F 5 (seg v 64 10 ++ [1, 0, 0, 0, 0] ++ seg v 74 5)) 0 10) ∧ (seg v 253 32 = gets (F 0 (seg v 243 5 ++ seg v 69 5 ++ [1, 0, 0, 0, 0] ++ seg v 248 5)) 0 32) ∧ (seg v 285 15 = gets (F 1 ([] : List Int)) 0 15) ∧ (seg v 300 20 = gets (F 6 (seg v 64 10 ++ [1, 0, 0, 0, 0] ++ seg v 74 5)) 0 20) ∧ (seg v 320 32 = gets (F 0 (seg v 300 20)) 0 32) ∧ (v 352 = (F 7 (seg v 64 10 ++ [1, 0, 0, 0, 0] ++ seg v 74 15 ++ [1, 0, 0, 0, 0] ++ seg v 89 5)).getD 0 0) ∧ (v 353 = op2 .eql .i64 (v 352) 1) := Eq.mp (by kernel_rfl) h
theorem A_iSums_0 {pr : Prs} {v : Nat → Int} (h : (pr 7 (seg v 64 10 ++ [1, 0, 0, 0, 0] ++ seg v 74 15 ++ [1, 0, 0, 0, 0] ++ seg v 89 5)) ∧ (pr 0 (seg v 300 20)) ∧ (pr 6 (seg v 64 10 ++ [1, 0, 0, 0, 0] ++ seg v 74 5)) ∧ (pr 1 ([] : List Int)) ∧ (pr 0 (seg v 243 5 ++ seg v 69 5 ++ [1, 0, 0, 0, 0] ++ seg v 248 5)) ∧ (pr 5 (seg v 64 10 ++ [1, 0, 0, 0, 0] ++ seg v 74 5)) ∧ (pr 1 ([] : List Int)) ∧ (pr 0 (seg v 176 20)) ∧ (pr 4 (seg v 64 10 ++ [1, 0, 0, 0, 0] ++ seg v 74 15 ++ [1, 0, 0, 0, 0] ++ seg v 89 5)) ∧ (pr 1 ([] : List Int)) ∧ (pr 0 (seg v 109 20)) ∧ (pr 3 (seg v 64 10 ++ [1, 0, 0, 0, 0] ++ seg v 74 15 ++ [1, 0, 0, 0, 0] ++ seg v 89 5)) ∧ (pr 1 ([] : List Int)) ∧ (pr 2 (seg v 32 32)) ∧ (pr 2 (seg v 0 32)) ∧ True) : HoldL pr v p_iSums_0.g.asm := Eq.mp (by kernel_rfl) h
end Go.X.Z

set_option maxRecDepth 20000
namespace Go.X.Z
open Go.Proofs

theorem out_of {l : List Int} {ft : List A} {ρ : Nat → Int} (h : l = ft.map (A.ev ρ)) (j : Nat) (a : A) (ha : ft[j]? = some a) : l.getD j 0 = a.ev ρ := by
  rw [h, List.getD_eq_getElem?_getD, List.getElem?_map, ha]; rfl

theorem seg_of {v : Nat → Int} {xs : List Int} {n : Nat} (hl : xs.length = n) (h : ∀ x, x < n → v x = xs.getD x 0) : seg v 0 n = xs := by
  have := seg_xs (v := v) (xs := xs) n 0 (by omega) (fun x hx => h x (by omega))
  rw [this]; rfl

theorem encB_len (x y : Fp) : (encB x y).length = 32 := by
  unfold encB
  by_cases h : x.val % 2 = 1
  · rw [if_pos h, List.length_append, List.length_take, bB_len, List.length_singleton]; decide
  · rw [if_neg h]; exact bB_len _

theorem good_chk (W : World0 Tryz.prog) : GoodP W T_chk sp_chk := by
  refine lawP_sound (ts := []) (l := []) (W := W) trivial (by decide) Tryz.func41 Tryz.call41 (by kernel_rfl) rfl ?_
  intro xs hlen hx
  have hx : nz xs := hx
  by_cases h0 : xs.take 5 = ZZ5
  · refine ⟨_, _, _, _, r_chk_1, w_chk_1, ?_⟩
    intro ρ hin hst
    obtain ⟨e20, e21⟩ := E_chk_1 hst
    have hs := seg_of (n := 20) hlen hin
    have s0 : seg ρ 0 5 = xs.take 5 := by rw [← hs, seg_take _ (by decide)]
    have s1 : seg ρ 5 5 = (xs.drop 5).take 5 := by rw [← hs, seg_drop _ (by decide), seg_take _ (by decide)]
    have h1 : ¬ (xs.drop 5).take 5 = ZZ5 := fun e => hx ⟨h0, e⟩
    rw [s0, b2i_beq] at e20
    rw [s1, b2i_beq] at e21
    have e20 : ρ 20 = 1 := e20.trans (if_pos h0)
    have e21 : ρ 21 = 0 := e21.trans (if_neg h1)
    exact ⟨out_of rfl, A_chk_1 ⟨by rw [e21]; rfl, by rw [e20]; rfl, trivial⟩⟩
  · refine ⟨_, _, _, _, r_chk_0, w_chk_0, ?_⟩
    intro ρ hin hst
    have e20 := E_chk_0 hst
    have hs := seg_of (n := 20) hlen hin
    have s0 : seg ρ 0 5 = xs.take 5 := by rw [← hs, seg_take _ (by decide)]
    rw [s0, b2i_beq] at e20
    have e20 : ρ 20 = 0 := e20.trans (if_neg h0)
    exact ⟨out_of rfl, A_chk_0 ⟨by rw [e20]; rfl, trivial⟩⟩

theorem good_pByt_ (W : World0 Tryz.prog) : GoodP W T_pByt_ sp_byt := by
  refine lawP_sound (ts := [T_Mul, T_Mulx, T_Muly, T_IsNeg, T_Invert, T_Invertx, T_cpEl, T_chk]) (l := [s_feMulG.toP, s_feMulG.toP, s_feMulG.toP, s_IsNeg.toP, s_Invert.toP, s_Invert.toP, s_cpEl.toP, sp_chk]) (W := W)
    ⟨(good_Mul W).toP, (good_Mulx W).toP, (good_Muly W).toP, (good_IsNeg W).toP, (good_Invert W).toP, (good_Invertx W).toP, (good_cpEl W).toP, good_chk W, trivial⟩ (by decide) Tryz.func45 Tryz.call45 (by kernel_rfl) rfl ?_
  intro xs hlen hx
  obtain ⟨hx, hnz⟩ : InB LB4 xs ∧ nz xs := hx
  refine ⟨_, _, _, _, r_pByt__0, w_pByt__0, ?_⟩
  intro ρ hin hst
  obtain ⟨e20, e25, e30, e35, e67, e68, e69, e70⟩ := E_pByt__0 hst
  clear hst
  have hs := seg_of (n := 20) hlen hin
  obtain ⟨⟨bX, fX⟩, ⟨bY, fY⟩, ⟨bZ, fZ⟩, -⟩ := pt_parts hx hs
  obtain ⟨fi, bi⟩ := invLB bZ
  have e20 : seg ρ 20 5 = gets (s_Invert.f (seg ρ 10 5)) 0 5 := e20
  rw [gets5 bi rfl] at e20
  rw [← e20, fZ] at fi; rw [← e20] at bi
  obtain ⟨fx, bx⟩ := mulLB bX bi
  have e25 : seg ρ 25 5 = gets (s_feMulG.f (seg ρ 0 5 ++ seg ρ 20 5)) 0 5 := e25
  rw [gets5 bx rfl] at e25
  rw [← e25, fX, fi] at fx; rw [← e25] at bx
  obtain ⟨fy, b_y⟩ := mulLB bY bi
  have e30 : seg ρ 30 5 = gets (s_feMulG.f (seg ρ 5 5 ++ seg ρ 20 5)) 0 5 := e30
  rw [gets5 b_y rfl] at e30
  rw [← e30, fY, fi] at fy; rw [← e30] at b_y
  have e35 : seg ρ 35 32 = gets (s_cpEl.f (seg ρ 30 5)) 0 32 := e35
  have hcp : s_cpEl.f (seg ρ 30 5) = bB (pY xs * inv (pZ xs)) := by
    obtain ⟨v, -, hin', h5, -, hf⟩ := E_cpEl (seg ρ 30 5) b_y
    rw [hin', bytesF b_y fy, gets_all (bB_len _)] at h5
    rw [hf, h5]
  rw [hcp, gets_all (bB_len _)] at e35
  have e67 : ρ 67 = (s_IsNeg.f (seg ρ 25 5)).getD 0 0 := e67
  rw [IsNeg_val _ bx, List.getD_cons_zero, ← φ_val, fx] at e67
  have e67 : ρ 67 = if (pX xs * inv (pZ xs)).val % 2 = 1 then 1 else 0 := by
    rw [e67]
    by_cases h : (pX xs * inv (pZ xs)).val % 2 = 1
    · rw [if_pos h]; omega
    · rw [if_neg h]; omega
  rw [e69, e68] at e70
  have ho := enc_out e35 e67 e70
  refine ⟨out_of (ρ := ρ) (ft := ft_pByt__0.outs) ?_, A_pByt__0 ⟨?_, ?_, ?_, ?_, ?_, ?_, trivial⟩⟩
  · have hf : sp_byt.f xs = encB (pX xs * inv (pZ xs)) (pY xs * inv (pZ xs)) := rfl
    rw [hf]
    have h1 : ∀ v : Nat → Int, ft_pByt__0.outs.map (A.ev v) = seg v 35 31 ++ [v 70] := fun v => by kernel_rfl
    rw [← ho, h1]
  · exact bx
  · exact b_y
  · exact InB.append bY bi
  · exact InB.append bX bi
  · exact bZ
  · show nz (seg ρ 0 20)
    rw [hs]; exact hnz

theorem good_pByt (W : World0 Tryz.prog) : GoodP W T_pByt sp_byt := by
  refine lawP_sound (ts := [T_pByt_]) (l := [sp_byt]) (W := W) ⟨good_pByt_ W, trivial⟩ (by decide) Tryz.func21 Tryz.call21 (by kernel_rfl) rfl ?_
  intro xs hlen hx
  refine ⟨_, _, _, _, r_pByt_0, w_pByt_0, ?_⟩
  intro ρ hin hst
  have e20 := E_pByt_0 hst
  have hs := seg_of (n := 20) hlen hin
  have e20 : seg ρ 20 32 = gets (sp_byt.f (seg ρ 0 20)) 0 32 := e20
  have hl : (sp_byt.f xs).length = 32 := encB_len _ _
  rw [hs, gets_all hl] at e20
  refine ⟨out_of (ρ := ρ) (ft := ft_pByt_0.outs) ?_, A_pByt_0 ⟨?_, trivial⟩⟩
  · have h1 : ∀ v : Nat → Int, ft_pByt_0.outs.map (A.ev v) = seg v 20 32 := fun v => by kernel_rfl
    rw [← e20, h1]
  · show sp_byt.pre (seg ρ 0 20)
    rw [hs]; exact hx

theorem shr7 {a : Int} (h : 0 ≤ a ∧ a < 256) : IntKind.wrap .i64 (op2 .shr .u8 a 7) = a / 128 := by
  have e : op2 .shr .u8 a 7 = a.fdiv (2 ^ min (7 : Int).toNat 8) := rfl
  have e2 : (2 : Int) ^ min (7 : Int).toNat 8 = 128 := by decide
  rw [e, e2, Int.fdiv_eq_ediv_of_nonneg _ (by decide), IntKind.wrap_i64]
  omega

theorem eql0 {P : Prop} [Decidable P] {t u : Int} (ht : t = if P then 1 else 0) (hu : u = op2 .eql .i64 t 0) : (u != 0) = !decide P := by
  by_cases h : P
  · rw [if_pos h] at ht
    subst ht hu
    rw [decide_eq_true h]; rfl
  · rw [if_neg h] at ht
    subst ht hu
    rw [decide_eq_false h]; rfl

section
variable {ρ : Nat → Int} {xs : List Int}

/-- the way to the root, common to both ends -/
theorem set_head (hx : InB (BB 32) xs) (hs : seg ρ 0 32 = xs)
    (e32 : seg ρ 32 5 = gets (s_SetBytes.f (seg ρ 0 32)) 0 5) (e37 : seg ρ 37 5 = gets (s_feSqG.f (seg ρ 32 5)) 0 5) (e42 : seg ρ 42 5 = gets (s_Sub.f (seg ρ 37 5 ++ one5)) 0 5)
    (e47 : seg ρ 47 5 = gets (s_dP.f []) 0 5) (e52 : seg ρ 52 5 = gets (s_feMulG.f (seg ρ 37 5 ++ seg ρ 47 5)) 0 5) (e57 : seg ρ 57 5 = gets (s_Add.f (seg ρ 52 5 ++ one5)) 0 5)
    (e62 : seg ρ 62 6 = gets (s_SqrtRatio.f (seg ρ 42 5 ++ seg ρ 57 5)) 0 6) :
    seg ρ 32 5 = qY xs ∧ seg ρ 37 5 = qY2 xs ∧ seg ρ 42 5 = qU xs ∧ seg ρ 47 5 = s_dP.f [] ∧ seg ρ 52 5 = s_feMulG.f (qY2 xs ++ s_dP.f []) ∧ seg ρ 57 5 = qV xs ∧ ρ 62 = (qR xs).getD 0 0 ∧ seg ρ 63 5 = (qR xs).drop 1 := by
  obtain ⟨b1, ⟨bu, -⟩, ⟨bd, bm⟩, ⟨bv, -⟩⟩ := qUV_val hx
  obtain ⟨lR, -⟩ := qR_val hx
  have by_ := (qY_val hx).1
  rw [hs] at e32
  have e32 : seg ρ 32 5 = gets (qY xs) 0 5 := e32
  rw [gets5 by_ rfl] at e32
  rw [e32] at e37
  have e37 : seg ρ 37 5 = gets (qY2 xs) 0 5 := e37
  rw [gets5 b1 rfl] at e37
  rw [e37] at e42
  have e42 : seg ρ 42 5 = gets (qU xs) 0 5 := e42
  rw [gets5 bu rfl] at e42
  rw [gets5 bd rfl] at e47
  rw [e37, e47, gets5 bm rfl] at e52
  rw [e52] at e57
  have e57 : seg ρ 57 5 = gets (qV xs) 0 5 := e57
  rw [gets5 bv rfl] at e57
  rw [e42, e57] at e62
  have e62 : seg ρ 62 6 = gets (qR xs) 0 6 := e62
  rw [gets_all lR] at e62
  refine ⟨e32, e37, e42, e47, e52, e57, ?_, ?_⟩
  · rw [← e62, seg_getD 0 (by decide)]
  · rw [← e62, seg_drop _ (by decide)]

end

theorem good_pSet (W : World0 Tryz.prog) : GoodP W T_pSet sp_set := by
  refine lawP_sound (ts := [T_Mul, T_Mulx, T_Muly, T_Sq, T_Sqx, T_Add, T_Addx, T_Sub, T_Subx, T_Neg, T_One, T_Set, T_Sel, T_Sely, T_SetBytes, T_SqrtRatio, T_feOneP, T_dP, T_errNew])
    (l := [s_feMulG.toP, s_feMulG.toP, s_feMulG.toP, s_feSqG.toP, s_feSqG.toP, s_Add.toP, s_Add.toP, s_Sub.toP, s_Sub.toP, s_Neg.toP, s_One.toP, s_Set.toP, s_Sel.toP, s_Sel.toP, s_SetBytes.toP, s_SqrtRatio.toP, s_feOneP.toP, s_dP.toP, s_errNew.toP]) (W := W)
    ⟨(good_Mul W).toP, (good_Mulx W).toP, (good_Muly W).toP, (good_Sq W).toP, (good_Sqx W).toP, (good_Add W).toP, (good_Addx W).toP, (good_Sub W).toP, (good_Subx W).toP, (good_Neg W).toP, (good_One W).toP, (good_Set W).toP, (good_Sel W).toP, (good_Sely W).toP, (good_SetBytes W).toP, (good_SqrtRatio W).toP, (good_feOneP W).toP, (good_dP W).toP, (good_errNew W).toP, trivial⟩ (by decide) Tryz.func38 Tryz.call38 (by kernel_rfl) rfl ?_
  intro xs hlen hx
  obtain ⟨hx, hp⟩ : InB (BB 32) xs ∧ isPt xs := hx
  refine ⟨_, _, _, _, r_pSet_0, w_pSet_0, ?_⟩
  intro ρ hin hst
  obtain ⟨e32, e37, e42, e47, e52, e57, e62, e68, e69, e74, e75, e76, e81⟩ := E_pSet_0 hst
  clear hst
  have hs := seg_of (n := 32) hlen hin
  obtain ⟨k32, k37, k42, k47, k52, k57, k62, k63⟩ := set_head hx hs e32 e37 e42 e47 e52 e57 e62
  clear e32 e37 e42 e47 e52 e57 e62
  obtain ⟨b1, ⟨bu, -⟩, ⟨bd, bm⟩, ⟨bv, -⟩⟩ := qUV_val hx
  obtain ⟨-, okR, bR, -⟩ := qR_val hx
  have by_ := (qY_val hx).1
  have bX := (qX_val hx).1
  have bT := (qT_in hx).1
  rw [okR] at k62
  have e68 := eql0 k62 e68
  rw [decide_eq_true (show okF (uF (eF xs)) (vF (eF xs)) from hp)] at e68
  have hN := negLB bR
  have e69 : seg ρ 69 5 = gets (s_Neg.f (seg ρ 63 5)) 0 5 := e69
  rw [k63, gets5 hN.2 rfl] at e69
  have d0 : InD 256 (seg ρ 0 32) := by rw [hs]; exact BB_in hx
  have t31 : 0 ≤ ρ 31 ∧ ρ 31 < 256 := seg_InD d0 31 (by decide) (by decide)
  have tb := top_bit d0
  have tb : ρ 31 / 128 = ofD 256 (seg ρ 0 32) / 57896044618658097711785492504343953926634992332820282019728792003956564819968 := tb
  rw [hs] at tb
  rw [e74, shr7 t31, tb] at e75
  have e75 : ρ 75 = sgB xs := e75
  have e76 : seg ρ 76 5 = gets (s_Sel.f (seg ρ 69 5 ++ seg ρ 63 5 ++ [ρ 75])) 0 5 := e76
  rw [e69, k63, e75] at e76
  have e76 : seg ρ 76 5 = gets (qX xs) 0 5 := e76
  rw [gets5 bX rfl] at e76
  have e81 : seg ρ 81 5 = gets (s_feMulG.f (seg ρ 76 5 ++ seg ρ 32 5)) 0 5 := e81
  rw [e76, k32] at e81
  have e81 : seg ρ 81 5 = gets (qT xs) 0 5 := e81
  rw [gets5 bT rfl] at e81
  have hsg : 0 ≤ sgB xs ∧ sgB xs ≤ 1 := by rcases sgB_01 hx with h | h <;> omega
  refine ⟨out_of (ρ := ρ) (ft := ft_pSet_0.outs) ?_, A_pSet_0 ⟨?_, trivial, ?_, ?_, ?_, ?_, e68, ?_, ?_, trivial, ?_, trivial, ?_, trivial, ?_, ?_, trivial⟩⟩
  · have h1 : ∀ v : Nat → Int, ft_pSet_0.outs.map (A.ev v) = seg v 76 5 ++ seg v 32 5 ++ seg v 81 5 := fun v => by kernel_rfl
    rw [h1, e76, k32, e81]; rfl
  · rw [e76, k32]; exact InB.append bX by_
  · rw [k32]; exact by_
  · rw [e76]; exact bX
  · rw [e69, k63, e75]; exact InB.append (a := LB ++ LB) (b := [(0, 1)]) (InB.append hN.2 bR) ⟨hsg.1, hsg.2, trivial⟩
  · rw [k63]; exact bR
  · rw [k42, k57]; exact InB.append bu bv
  · rw [k52]; exact InB.append bm one5_in
  · rw [k37, k47]; exact InB.append b1 bd
  · rw [k37]; exact InB.append b1 one5_in
  · rw [k32]; exact by_
  · rw [hs]; exact hx

theorem good_ident (W : World0 Tryz.prog) : GoodP W T_ident sp_id := by
  refine lawP_sound (ts := [T_pSet]) (l := [sp_set]) (W := W) ⟨good_pSet W, trivial⟩ (by decide) Tryz.func40 Tryz.call40 (by kernel_rfl) rfl ?_
  intro xs _ _
  refine ⟨_, _, _, _, r_ident_0, w_ident_0, ?_⟩
  intro ρ _ hst
  have e0 : seg ρ 0 15 = gets (sp_set.f idB) 0 15 := Eq.mp (by kernel_rfl) (E_ident_0 hst)
  rw [gets_all (set_len idB_in)] at e0
  refine ⟨out_of (ρ := ρ) (ft := ft_ident_0.outs) ?_, A_ident_0 ⟨⟨idB_in, idB_pt⟩, trivial⟩⟩
  have h1 : ∀ v : Nat → Int, ft_ident_0.outs.map (A.ev v) = seg v 0 15 := fun v => by kernel_rfl
  rw [h1, e0]; rfl

theorem good_newId (W : World0 Tryz.prog) : GoodP W T_newId sp_id := by
  refine lawP_sound (ts := [T_pCopy, T_ident]) (l := [s_pCopy.toP, sp_id]) (W := W) ⟨(good_pCopy W).toP, good_ident W, trivial⟩ (by decide) Tryz.func19 Tryz.call19 (by kernel_rfl) rfl ?_
  intro xs _ _
  refine ⟨_, _, _, _, r_newId_0, w_newId_0, ?_⟩
  intro ρ _ hst
  have e0 : seg ρ 0 15 = gets (sp_set.f idB) 0 15 := Eq.mp (by kernel_rfl) (E_newId_0 hst)
  rw [gets_all (set_len idB_in)] at e0
  refine ⟨out_of (ρ := ρ) (ft := ft_newId_0.outs) ?_, A_newId_0 ⟨?_, trivial, trivial⟩⟩
  · have h1 : ∀ v : Nat → Int, ft_newId_0.outs.map (A.ev v) = seg v 0 15 := fun v => by kernel_rfl
    rw [h1, e0]; rfl
  · show InB LB4 _
    rw [(seg_set (k := 0) idB_in e0).2.2.2]; exact ptL_in idB_in

theorem good_iPoint (W : World0 Tryz.prog) : GoodP W T_iPoint sp_set := by
  refine lawP_sound (ts := [T_pSet, T_newId]) (l := [sp_set, sp_id]) (W := W) ⟨good_pSet W, good_newId W, trivial⟩ (by decide) Tryz.func18 Tryz.call18 (by kernel_rfl) rfl ?_
  intro xs hlen hx
  refine ⟨_, _, _, _, r_iPoint_0, w_iPoint_0, ?_⟩
  intro ρ hin hst
  obtain ⟨-, e47⟩ := E_iPoint_0 hst
  have hs := seg_of (n := 32) hlen hin
  have e47 : seg ρ 47 15 = gets (sp_set.f (seg ρ 0 32)) 0 15 := e47
  rw [hs, gets_all (set_len hx.1)] at e47
  refine ⟨out_of (ρ := ρ) (ft := ft_iPoint_0.outs) ?_, A_iPoint_0 ⟨?_, trivial, trivial⟩⟩
  · have h1 : ∀ v : Nat → Int, ft_iPoint_0.outs.map (A.ev v) = seg v 47 15 := fun v => by kernel_rfl
    rw [h1, e47]
  · show sp_set.pre (seg ρ 0 32)
    rw [hs]; exact hx

end Go.X.Z

set_option maxRecDepth 20000
namespace Go.X.Z
open Go.Proofs

/-! ### sums of points: the program's functions -/

theorem chk_bits {ρ : Nat → Int} {xs : List Int} (hs : seg ρ 0 40 = xs) : seg ρ 0 5 = (pL1 xs).take 5 ∧ seg ρ 5 5 = ((pL1 xs).drop 5).take 5 ∧ seg ρ 20 5 = (pL2 xs).take 5 ∧ seg ρ 25 5 = ((pL2 xs).drop 5).take 5 := by
  have e1 : seg ρ 0 20 = pL1 xs := by rw [← hs]; exact (seg_take ρ (by decide) 0).symm
  have e2 : seg ρ 20 20 = pL2 xs := by rw [← hs]; exact (seg_drop ρ (show 20 ≤ 40 by decide) 0).symm
  refine ⟨?_, ?_, ?_, ?_⟩
  · rw [← e1, seg_take _ (by decide)]
  · rw [← e1, seg_drop _ (by decide), seg_take _ (by decide)]
  · rw [← e2, seg_take _ (by decide)]
  · rw [← e2, seg_drop _ (by decide), seg_take _ (by decide)]

theorem beq_t {l : List Int} {t : Int} (h : t = b2i (l == ZZ5)) (e : l = ZZ5) : (t != 0) = true := by
  rw [h, b2i_beq, if_pos e]; rfl
theorem beq_f {l : List Int} {t : Int} (h : t = b2i (l == ZZ5)) (e : ¬ l = ZZ5) : (t != 0) = false := by
  rw [h, b2i_beq, if_neg e]; rfl

theorem good_chk2 (W : World0 Tryz.prog) : GoodP W T_chk2 sp_chk2 := by
  refine lawP_sound (ts := []) (l := []) (W := W) trivial (by decide) Tryz.func41 Tryz.call41 (by kernel_rfl) rfl ?_
  intro xs hlen hx
  obtain ⟨n1, n2⟩ : nz (pL1 xs) ∧ nz (pL2 xs) := hx
  by_cases h1 : (pL1 xs).take 5 = ZZ5
  · have g1 : ¬ ((pL1 xs).drop 5).take 5 = ZZ5 := fun e => n1 ⟨h1, e⟩
    by_cases h2 : (pL2 xs).take 5 = ZZ5
    · have g2 : ¬ ((pL2 xs).drop 5).take 5 = ZZ5 := fun e => n2 ⟨h2, e⟩
      refine ⟨_, _, _, _, r_chk2_3, w_chk2_3, ?_⟩
      intro ρ hin hst
      obtain ⟨a, b, c, d⟩ := E_chk2_3 hst
      obtain ⟨k1, k2, k3, k4⟩ := chk_bits (seg_of (n := 40) hlen hin)
      rw [k1] at a; rw [k2] at b; rw [k3] at c; rw [k4] at d
      exact ⟨fun j a ha => by simp [ft_chk2_3] at ha, A_chk2_3 ⟨beq_f d g2, beq_t c h2, beq_f b g1, beq_t a h1, trivial⟩⟩
    · refine ⟨_, _, _, _, r_chk2_1, w_chk2_1, ?_⟩
      intro ρ hin hst
      obtain ⟨a, b, c⟩ := E_chk2_1 hst
      obtain ⟨k1, k2, k3, k4⟩ := chk_bits (seg_of (n := 40) hlen hin)
      rw [k1] at a; rw [k2] at b; rw [k3] at c
      exact ⟨fun j a ha => by simp [ft_chk2_1] at ha, A_chk2_1 ⟨beq_f c h2, beq_f b g1, beq_t a h1, trivial⟩⟩
  · by_cases h2 : (pL2 xs).take 5 = ZZ5
    · have g2 : ¬ ((pL2 xs).drop 5).take 5 = ZZ5 := fun e => n2 ⟨h2, e⟩
      refine ⟨_, _, _, _, r_chk2_2, w_chk2_2, ?_⟩
      intro ρ hin hst
      obtain ⟨a, c, d⟩ := E_chk2_2 hst
      obtain ⟨k1, k2, k3, k4⟩ := chk_bits (seg_of (n := 40) hlen hin)
      rw [k1] at a; rw [k3] at c; rw [k4] at d
      exact ⟨fun j a ha => by simp [ft_chk2_2] at ha, A_chk2_2 ⟨beq_f d g2, beq_t c h2, beq_f a h1, trivial⟩⟩
    · refine ⟨_, _, _, _, r_chk2_0, w_chk2_0, ?_⟩
      intro ρ hin hst
      obtain ⟨a, c⟩ := E_chk2_0 hst
      obtain ⟨k1, k2, k3, k4⟩ := chk_bits (seg_of (n := 40) hlen hin)
      rw [k1] at a; rw [k3] at c
      exact ⟨fun j a ha => by simp [ft_chk2_0] at ha, A_chk2_0 ⟨beq_f c h2, beq_f a h1, trivial⟩⟩

/-- the parts of two points -/
theorem two_seg {ρ : Nat → Int} {xs : List Int} (hs : seg ρ 0 40 = xs) : seg ρ 0 20 = pL1 xs ∧ seg ρ 20 20 = pL2 xs ∧ seg ρ 30 5 = ((pL2 xs).drop 10).take 5 := by
  have e1 : seg ρ 0 20 = pL1 xs := by rw [← hs]; exact (seg_take ρ (by decide) 0).symm
  have e2 : seg ρ 20 20 = pL2 xs := by rw [← hs]; exact (seg_drop ρ (show 20 ≤ 40 by decide) 0).symm
  refine ⟨e1, e2, ?_⟩
  rw [← e2, seg_drop _ (by decide), seg_take _ (by decide)]

theorem P3c_len {q : List Int} (h : InB LB4 q) : (s_P3c.f q).length = 15 := by
  obtain ⟨a, b, c, e, ha, hb, hc⟩ := P3c_val h
  rw [e, List.length_append, List.length_append, ha.1.len, hb.1.len, hc.1.len]; rfl

theorem cch_seg {ρ : Nat → Int} {xs : List Int} (h2 : InB LB4 (pL2 xs)) (hs : seg ρ 0 40 = xs) (e40 : seg ρ 40 15 = gets (s_P3c.f (seg ρ 20 20)) 0 15) : seg ρ 0 20 ++ seg ρ 40 10 ++ seg ρ 30 5 ++ seg ρ 50 5 = pL1 xs ++ cch (pL2 xs) := by
  obtain ⟨k1, k2, k3⟩ := two_seg hs
  rw [k2, gets_all (P3c_len h2)] at e40
  have a1 : seg ρ 40 10 = (s_P3c.f (pL2 xs)).take 10 := by rw [← e40, seg_take _ (by decide)]
  have a2 : seg ρ 50 5 = (s_P3c.f (pL2 xs)).drop 10 := by rw [← e40, seg_drop _ (by decide)]
  rw [k1, k3, a1, a2]
  unfold cch
  simp only [List.append_assoc]

theorem good_pAdd (W : World0 Tryz.prog) : GoodP W T_pAdd sp_pAdd := by
  refine lawP_sound (ts := [T_P3c, T_P1Add, T_fromP1, T_chk, T_chk2]) (l := [s_P3c.toP, s_P1Add.toP, s_fromP1.toP, sp_chk, sp_chk2]) (W := W) ⟨(good_P3c W).toP, (good_P1Add W).toP, (good_fromP1 W).toP, good_chk W, good_chk2 W, trivial⟩ (by decide) Tryz.func20 Tryz.call20 (by kernel_rfl) rfl ?_
  intro xs hlen hx
  have hx : two xs := hx
  obtain ⟨b1, b2, -⟩ := pAdd_val hx
  refine ⟨_, _, _, _, r_pAdd_0, w_pAdd_0, ?_⟩
  intro ρ hin hst
  obtain ⟨e40, e55, e75⟩ := E_pAdd_0 hst
  have hs := seg_of (n := 40) hlen hin
  have hc := cch_seg hx.2.1 hs e40
  have e55 : seg ρ 55 20 = gets (s_P1Add.f (seg ρ 0 20 ++ seg ρ 40 10 ++ seg ρ 30 5 ++ seg ρ 50 5)) 0 20 := e55
  rw [hc, gets_all (show _ = 20 from b1.len)] at e55
  have e75 : seg ρ 75 20 = gets (s_fromP1.f (seg ρ 55 20)) 0 20 := e75
  rw [e55] at e75
  have e75 : seg ρ 75 20 = gets (sp_pAdd.f xs) 0 20 := e75
  rw [gets_all (show _ = 20 from b2.len)] at e75
  refine ⟨out_of (ρ := ρ) (ft := ft_pAdd_0.outs) ?_, A_pAdd_0 ⟨?_, ?_, ?_, ?_, trivial⟩⟩
  · have h1 : ∀ v : Nat → Int, ft_pAdd_0.outs.map (A.ev v) = seg v 75 20 := fun v => by kernel_rfl
    rw [h1, e75]
  · show InB LB4 (seg ρ 55 20)
    rw [e55]; exact b1
  · show InB (LB4 ++ LB4) _
    rw [hc]; exact InB.append hx.1 (cch_val hx.2.1).1
  · show InB LB4 (seg ρ 20 20)
    rw [(two_seg hs).2.1]; exact hx.2.1
  · show sp_chk2.pre (seg ρ 0 40)
    rw [hs]; exact ⟨hx.2.2.1, hx.2.2.2⟩

theorem good_pSub (W : World0 Tryz.prog) : GoodP W T_pSub sp_pSub := by
  refine lawP_sound (ts := [T_P3c, T_P1Sub, T_fromP1, T_chk, T_chk2]) (l := [s_P3c.toP, s_P1Sub.toP, s_fromP1.toP, sp_chk, sp_chk2]) (W := W) ⟨(good_P3c W).toP, (good_P1Sub W).toP, (good_fromP1 W).toP, good_chk W, good_chk2 W, trivial⟩ (by decide) Tryz.func22 Tryz.call22 (by kernel_rfl) rfl ?_
  intro xs hlen hx
  have hx : two xs := hx
  obtain ⟨b1, b2, -⟩ := pSub_val hx
  refine ⟨_, _, _, _, r_pSub_0, w_pSub_0, ?_⟩
  intro ρ hin hst
  obtain ⟨e40, e55, e75⟩ := E_pSub_0 hst
  have hs := seg_of (n := 40) hlen hin
  have hc := cch_seg hx.2.1 hs e40
  have e55 : seg ρ 55 20 = gets (s_P1Sub.f (seg ρ 0 20 ++ seg ρ 40 10 ++ seg ρ 30 5 ++ seg ρ 50 5)) 0 20 := e55
  rw [hc, gets_all (show _ = 20 from b1.len)] at e55
  have e75 : seg ρ 75 20 = gets (s_fromP1.f (seg ρ 55 20)) 0 20 := e75
  rw [e55] at e75
  have e75 : seg ρ 75 20 = gets (sp_pSub.f xs) 0 20 := e75
  rw [gets_all (show _ = 20 from b2.len)] at e75
  refine ⟨out_of (ρ := ρ) (ft := ft_pSub_0.outs) ?_, A_pSub_0 ⟨?_, ?_, ?_, ?_, trivial⟩⟩
  · have h1 : ∀ v : Nat → Int, ft_pSub_0.outs.map (A.ev v) = seg v 75 20 := fun v => by kernel_rfl
    rw [h1, e75]
  · show InB LB4 (seg ρ 55 20)
    rw [e55]; exact b1
  · show InB (LB4 ++ LB4) _
    rw [hc]; exact InB.append hx.1 (cch_val hx.2.1).1
  · show InB LB4 (seg ρ 20 20)
    rw [(two_seg hs).2.1]; exact hx.2.1
  · show sp_chk2.pre (seg ρ 0 40)
    rw [hs]; exact ⟨hx.2.2.1, hx.2.2.2⟩

theorem good_pNeg (W : World0 Tryz.prog) : GoodP W T_pNeg sp_pNeg := by
  refine lawP_sound (ts := [T_Neg, T_Set, T_chk, T_chk2]) (l := [s_Neg.toP, s_Set.toP, sp_chk, sp_chk2]) (W := W) ⟨(good_Neg W).toP, (good_Set W).toP, good_chk W, good_chk2 W, trivial⟩ (by decide) Tryz.func23 Tryz.call23 (by kernel_rfl) rfl ?_
  intro xs hlen hx
  obtain ⟨hx, hnz⟩ : InB LB4 xs ∧ nz xs := hx
  refine ⟨_, _, _, _, r_pNeg_0, w_pNeg_0, ?_⟩
  intro ρ hin hst
  obtain ⟨e20, e25⟩ := E_pNeg_0 hst
  have hs := seg_of (n := 20) hlen hin
  obtain ⟨⟨bX, -⟩, ⟨bY, -⟩, ⟨bZ, -⟩, ⟨bT, -⟩⟩ := pt_parts hx hs
  have s0 : seg ρ 0 5 = xs.take 5 := by rw [← hs, seg_take _ (by decide)]
  have s3 : seg ρ 15 5 = xs.drop 15 := by rw [← hs, seg_drop _ (by decide)]
  have e20 : seg ρ 20 5 = gets (s_Neg.f (seg ρ 0 5)) 0 5 := e20
  have e25 : seg ρ 25 5 = gets (s_Neg.f (seg ρ 15 5)) 0 5 := e25
  rw [gets5 (negLB bX).2 rfl, s0] at e20
  rw [gets5 (negLB bT).2 rfl, s3] at e25
  refine ⟨out_of (ρ := ρ) (ft := ft_pNeg_0.outs) ?_, A_pNeg_0 ⟨bT, bZ, bY, bX, ?_, trivial⟩⟩
  · have h1 : ∀ v : Nat → Int, ft_pNeg_0.outs.map (A.ev v) = seg v 20 10 := fun v => by kernel_rfl
    rw [h1, seg10, e20, show seg ρ (20 + 5) 5 = _ from e25]; rfl
  · show nz (seg ρ 0 20)
    rw [hs]; exact hnz

theorem pCof_bd {xs : List Int} (h : InB LB4 xs) : InB LB3 (xs.take 15) ∧ InB LB4 (s_Dbl.f (xs.take 15)) ∧ InB LB3 (s_P2P1.f (s_Dbl.f (xs.take 15))) ∧ InB LB4 (s_Dbl.f (s_P2P1.f (s_Dbl.f (xs.take 15)))) ∧ InB LB3 (s_P2P1.f (s_Dbl.f (s_P2P1.f (s_Dbl.f (xs.take 15))))) ∧
    InB LB4 (s_Dbl.f (s_P2P1.f (s_Dbl.f (s_P2P1.f (s_Dbl.f (xs.take 15)))))) ∧ InB LB4 (sp_pCof.f xs) := by
  have i0 := (take15 h).1
  have i1 := (Dbl_val i0).1
  have i2 := (P2P1_val i1).1
  have i3 := (Dbl_val i2).1
  have i4 := (P2P1_val i3).1
  have i5 := (Dbl_val i4).1
  exact ⟨i0, i1, i2, i3, i4, i5, (fromP1_val i5).1⟩

theorem good_pCof (W : World0 Tryz.prog) : GoodP W T_pCof sp_pCof := by
  refine lawP_sound (ts := [T_fromP1, T_P2P3, T_P2P1, T_Dbl, T_chk, T_chk2]) (l := [s_fromP1.toP, s_P2P3.toP, s_P2P1.toP, s_Dbl.toP, sp_chk, sp_chk2]) (W := W) ⟨(good_fromP1 W).toP, (good_P2P3 W).toP, (good_P2P1 W).toP, (good_Dbl W).toP, good_chk W, good_chk2 W, trivial⟩ (by decide) Tryz.func24 Tryz.call24 (by kernel_rfl) rfl ?_
  intro xs hlen hx
  obtain ⟨hx, hnz⟩ : InB LB4 xs ∧ nz xs := hx
  obtain ⟨i0, i1, i2, i3, i4, i5, i6⟩ := pCof_bd hx
  refine ⟨_, _, _, _, r_pCof_0, w_pCof_0, ?_⟩
  intro ρ hin hst
  obtain ⟨e20, e40, e55, e75, e90, e110⟩ := E_pCof_0 hst
  have hs := seg_of (n := 20) hlen hin
  have s0 : seg ρ 0 15 = xs.take 15 := by rw [← hs, seg_take _ (by decide)]
  have e20 : seg ρ 20 20 = gets (s_Dbl.f (seg ρ 0 15)) 0 20 := e20
  rw [s0, gets_all (show _ = 20 from i1.len)] at e20
  have e40 : seg ρ 40 15 = gets (s_P2P1.f (seg ρ 20 20)) 0 15 := e40
  rw [e20, gets_all (show _ = 15 from i2.len)] at e40
  have e55 : seg ρ 55 20 = gets (s_Dbl.f (seg ρ 40 15)) 0 20 := e55
  rw [e40, gets_all (show _ = 20 from i3.len)] at e55
  have e75 : seg ρ 75 15 = gets (s_P2P1.f (seg ρ 55 20)) 0 15 := e75
  rw [e55, gets_all (show _ = 15 from i4.len)] at e75
  have e90 : seg ρ 90 20 = gets (s_Dbl.f (seg ρ 75 15)) 0 20 := e90
  rw [e75, gets_all (show _ = 20 from i5.len)] at e90
  have e110 : seg ρ 110 20 = gets (s_fromP1.f (seg ρ 90 20)) 0 20 := e110
  rw [e90] at e110
  have e110 : seg ρ 110 20 = gets (sp_pCof.f xs) 0 20 := e110
  rw [gets_all (show _ = 20 from i6.len)] at e110
  refine ⟨out_of (ρ := ρ) (ft := ft_pCof_0.outs) ?_, A_pCof_0 ⟨?_, ?_, ?_, ?_, ?_, ?_, ?_, ?_, trivial⟩⟩
  · have h1 : ∀ v : Nat → Int, ft_pCof_0.outs.map (A.ev v) = seg v 110 20 := fun v => by kernel_rfl
    rw [h1, e110]
  · show InB LB4 (seg ρ 90 20)
    rw [e90]; exact i5
  · show InB LB3 (seg ρ 75 15)
    rw [e75]; exact i4
  · show InB LB4 (seg ρ 55 20)
    rw [e55]; exact i3
  · show InB LB3 (seg ρ 40 15)
    rw [e40]; exact i2
  · show InB LB4 (seg ρ 20 20)
    rw [e20]; exact i1
  · show InB LB3 (seg ρ 0 15)
    rw [s0]; exact i0
  · show InB LB4 (seg ρ 0 20)
    rw [hs]; exact hx
  · show nz (seg ρ 0 20)
    rw [hs]; exact hnz

theorem and01 {P Q : Prop} [Decidable P] [Decidable Q] : op2 .and .i64 (if P then 1 else 0) (if Q then 1 else 0) = if P ∧ Q then 1 else 0 := by
  by_cases hp : P
  · by_cases hq : Q
    · rw [if_pos hp, if_pos hq, if_pos ⟨hp, hq⟩]; kernel_rfl
    · rw [if_pos hp, if_neg hq, if_neg (fun h => hq h.2)]; kernel_rfl
  · by_cases hq : Q
    · rw [if_neg hp, if_pos hq, if_neg (fun h => hp h.1)]; kernel_rfl
    · rw [if_neg hp, if_neg hq, if_neg (fun h => hp h.1)]; kernel_rfl

theorem good_pEql (W : World0 Tryz.prog) : GoodP W T_pEql sp_pEql := by
  refine lawP_sound (ts := [T_Mul, T_Mulx, T_Muly, T_Equal, T_chk, T_chk2]) (l := [s_feMulG.toP, s_feMulG.toP, s_feMulG.toP, s_Equal.toP, sp_chk, sp_chk2]) (W := W) ⟨(good_Mul W).toP, (good_Mulx W).toP, (good_Muly W).toP, (good_Equal W).toP, good_chk W, good_chk2 W, trivial⟩ (by decide) Tryz.func25 Tryz.call25 (by kernel_rfl) rfl ?_
  intro xs hlen hx
  obtain ⟨h1, h2, n1, n2⟩ : two xs := hx
  refine ⟨_, _, _, _, r_pEql_0, w_pEql_0, ?_⟩
  intro ρ hin hst
  obtain ⟨e40, e45, e50, e55, e60, e61, e62⟩ := E_pEql_0 hst
  have hs := seg_of (n := 40) hlen hin
  obtain ⟨k1, k2, -⟩ := two_seg hs
  obtain ⟨a, b, c, d, ha4, ha, hb, hc, hd⟩ := lb4_dec h1
  obtain ⟨a', b', c', d', hb4, ha', hb', hc', hd'⟩ := lb4_dec h2
  rw [ha4] at k1
  rw [hb4] at k2
  obtain ⟨s0, s5, s10, s15⟩ := limb_segs k1 ha hb hc
  obtain ⟨s20, s25, s30, s35⟩ := limb_segs k2 ha' hb' hc'
  have s5 : seg ρ 5 5 = b := s5
  have s10 : seg ρ 10 5 = c := s10
  have s25 : seg ρ 25 5 = b' := s25
  have s30 : seg ρ 30 5 = c' := s30
  obtain ⟨x1, x2, x3, -⟩ := limbs4 (d := d) ha.len hb.len hc.len
  obtain ⟨y1, y2, y3, -⟩ := limbs4 (d := d') ha'.len hb'.len hc'.len
  have e40 : seg ρ 40 5 = gets (s_feMulG.f (seg ρ 0 5 ++ seg ρ 30 5)) 0 5 := e40
  have e45 : seg ρ 45 5 = gets (s_feMulG.f (seg ρ 20 5 ++ seg ρ 10 5)) 0 5 := e45
  have e50 : seg ρ 50 5 = gets (s_feMulG.f (seg ρ 5 5 ++ seg ρ 30 5)) 0 5 := e50
  have e55 : seg ρ 55 5 = gets (s_feMulG.f (seg ρ 25 5 ++ seg ρ 10 5)) 0 5 := e55
  rw [s0, s30] at e40
  rw [s20, s10] at e45
  rw [s5, s30] at e50
  rw [s25, s10] at e55
  have v40 := vmul ⟨ha, rfl⟩ ⟨hc', rfl⟩ e40
  have v45 := vmul ⟨ha', rfl⟩ ⟨hc, rfl⟩ e45
  have v50 := vmul ⟨hb, rfl⟩ ⟨hc', rfl⟩ e50
  have v55 := vmul ⟨hb', rfl⟩ ⟨hc, rfl⟩ e55
  have e60 : ρ 60 = (s_Equal.f (seg ρ 40 10)).getD 0 0 := e60
  have e61 : ρ 61 = (s_Equal.f (seg ρ 50 10)).getD 0 0 := e61
  have t40 : seg ρ 40 10 = seg ρ 40 5 ++ seg ρ 45 5 := seg10 40
  have t50 : seg ρ 50 10 = seg ρ 50 5 ++ seg ρ 55 5 := seg10 50
  rw [t40, eqLB v40.1 v45.1, v40.2, v45.2, List.getD_cons_zero] at e60
  rw [t50, eqLB v50.1 v55.1, v50.2, v55.2, List.getD_cons_zero] at e61
  rw [e60, e61, and01] at e62
  refine ⟨out_of (ρ := ρ) (ft := ft_pEql_0.outs) ?_, A_pEql_0 ⟨?_, ?_, ?_, ?_, ?_, ?_, ?_, trivial⟩⟩
  · have q1 : ∀ v : Nat → Int, ft_pEql_0.outs.map (A.ev v) = [v 62] := fun v => by kernel_rfl
    rw [q1, e62]
    show [if eqF (eOf (pL1 xs)) (eOf (pL2 xs)) then (1 : Int) else 0] = _
    have : eqF (eOf (pL1 xs)) (eOf (pL2 xs)) ↔ (φ (v51 a) * φ (v51 c') = φ (v51 a') * φ (v51 c) ∧ φ (v51 b) * φ (v51 c') = φ (v51 b') * φ (v51 c)) := by
      unfold eqF eOf
      dsimp only
      rw [ha4, hb4, x1, x2, x3, y1, y2, y3]
    by_cases hq : φ (v51 a) * φ (v51 c') = φ (v51 a') * φ (v51 c) ∧ φ (v51 b) * φ (v51 c') = φ (v51 b') * φ (v51 c)
    · rw [if_pos hq, if_pos (this.2 hq)]
    · rw [if_neg hq, if_neg (fun e => hq (this.1 e))]
  · show InB (LB ++ LB) (seg ρ 50 10)
    rw [t50]; exact InB.append v50.1 v55.1
  · show InB (LB ++ LB) (seg ρ 40 10)
    rw [t40]; exact InB.append v40.1 v45.1
  · show InB (LB ++ LB) (seg ρ 25 5 ++ seg ρ 10 5)
    rw [s25, s10]; exact InB.append hb' hc
  · show InB (LB ++ LB) (seg ρ 5 5 ++ seg ρ 30 5)
    rw [s5, s30]; exact InB.append hb hc'
  · show InB (LB ++ LB) (seg ρ 20 5 ++ seg ρ 10 5)
    rw [s20, s10]; exact InB.append ha' hc
  · show InB (LB ++ LB) (seg ρ 0 5 ++ seg ρ 30 5)
    rw [s0, s30]; exact InB.append ha hc'
  · show sp_chk2.pre (seg ρ 0 40)
    rw [hs]; exact ⟨n1, n2⟩

end Go.X.Z

set_option maxRecDepth 20000
namespace Go.X

/-! ### the ends of the law of coordinates -/

end Go.X

set_option maxRecDepth 20000
namespace Go.X

/-! ### sums of two points of the program, and what the law says of them -/

section
variable {a b : List Int} (ha : InB (BB 32) a) (pa : isPt a) (hb : InB (BB 32) b) (pb : isPt b)
include ha pa hb pb

theorem pts_two : pL1 (ptL a ++ ptL b) = ptL a ∧ pL2 (ptL a ++ ptL b) = ptL b ∧ two (ptL a ++ ptL b) := by
  have l1 : (ptL a).length = 20 := (ptL_in ha).len
  have e1 : pL1 (ptL a ++ ptL b) = ptL a := List.take_left' l1
  have e2 : pL2 (ptL a ++ ptL b) = ptL b := List.drop_left' l1
  refine ⟨e1, e2, ?_⟩
  unfold two
  rw [e1, e2]
  exact ⟨ptL_in ha, ptL_in hb, ptL_nz ha pa, ptL_nz hb pb⟩

theorem sum_val : (eOf (sp_pAdd.f (ptL a ++ ptL b))).ok dF ∧ InB LB4 (sp_pAdd.f (ptL a ++ ptL b)) ∧ sp_byt.f (sp_pAdd.f (ptL a ++ ptL b)) = encB (aX dF (xF (eF a) (sgB a)) (eF a) (xF (eF b) (sgB b)) (eF b)) (aY dF (xF (eF a) (sgB a)) (eF a) (xF (eF b) (sgB b)) (eF b)) := by
  obtain ⟨e1, e2, ht⟩ := pts_two ha pa hb pb
  obtain ⟨-, i, e⟩ := pAdd_val ht
  obtain ⟨o1, x1, y1⟩ := ptL_ok ha pa
  obtain ⟨o2, x2, y2⟩ := ptL_ok hb pb
  obtain ⟨g1, -, g3, g4⟩ := E4.plus_good d_nsq o1 o2
  rw [e1, e2] at e
  rw [x1, y1, x2, y2] at g3 g4
  refine ⟨by rw [e]; exact g1, i, ?_⟩
  rw [byt_val, e]
  exact congr (congrArg encB g3) g4

theorem dif_val : (eOf (sp_pSub.f (ptL a ++ ptL b))).ok dF ∧ InB LB4 (sp_pSub.f (ptL a ++ ptL b)) ∧ sp_byt.f (sp_pSub.f (ptL a ++ ptL b)) = encB (aX dF (xF (eF a) (sgB a)) (eF a) (-(xF (eF b) (sgB b))) (eF b)) (aY dF (xF (eF a) (sgB a)) (eF a) (-(xF (eF b) (sgB b))) (eF b)) := by
  obtain ⟨e1, e2, ht⟩ := pts_two ha pa hb pb
  obtain ⟨-, i, e⟩ := pSub_val ht
  obtain ⟨o1, x1, y1⟩ := ptL_ok ha pa
  obtain ⟨o2, x2, y2⟩ := ptL_ok hb pb
  obtain ⟨g1, -, g3, g4⟩ := E4.plus_good d_nsq o1 (E4.turn_ok o2)
  rw [e1, e2, E4.minus_eq] at e
  have t1 : (eOf (ptL b)).turn.pt.x = -(xF (eF b) (sgB b)) := (Pt.turn_x (eOf (ptL b)).pt).trans (by rw [x2])
  have t2 : (eOf (ptL b)).turn.pt.y = eF b := y2
  rw [x1, y1, t1, t2] at g3 g4
  refine ⟨by rw [e]; exact g1, i, ?_⟩
  rw [byt_val, e]
  exact congr (congrArg encB g3) g4

theorem eql_val : sp_pEql.f (ptL a ++ ptL b) = [if xF (eF a) (sgB a) = xF (eF b) (sgB b) ∧ eF a = eF b then 1 else 0] := by
  obtain ⟨e1, e2, -⟩ := pts_two ha pa hb pb
  show [if eqF (eOf (pL1 (ptL a ++ ptL b))) (eOf (pL2 (ptL a ++ ptL b))) then (1 : Int) else 0] = _
  rw [e1, e2, ptL_eOf ha, ptL_eOf hb]
  have hq : eqF ⟨xF (eF a) (sgB a), eF a, 1, xF (eF a) (sgB a) * eF a⟩ ⟨xF (eF b) (sgB b), eF b, 1, xF (eF b) (sgB b) * eF b⟩ ↔ (xF (eF a) (sgB a) = xF (eF b) (sgB b) ∧ eF a = eF b) := by
    unfold eqF
    dsimp only
    rw [Fin.mul_one, Fin.mul_one, Fin.mul_one, Fin.mul_one]
  by_cases h : xF (eF a) (sgB a) = xF (eF b) (sgB b) ∧ eF a = eF b
  · rw [if_pos h, if_pos (hq.2 h)]
  · rw [if_neg h, if_neg (fun e => h (hq.1 e))]

end

theorem neg_val {a : List Int} (ha : InB (BB 32) a) (pa : isPt a) : (sp_pNeg.f (ptL a)) = s_Neg.f (qX a) ++ s_Neg.f (qT a) ∧ InB LB4 (s_Neg.f (qX a) ++ (qY a ++ (one5 ++ s_Neg.f (qT a)))) ∧ nz (s_Neg.f (qX a) ++ (qY a ++ (one5 ++ s_Neg.f (qT a)))) ∧
    sp_byt.f (s_Neg.f (qX a) ++ (qY a ++ (one5 ++ s_Neg.f (qT a)))) = encB (-(xF (eF a) (sgB a))) (eF a) := by
  obtain ⟨n1, b1⟩ := negLB (qX_val ha).1
  obtain ⟨n2, b2⟩ := negLB (qT_in ha).1
  rw [(qX_val ha).2] at n1
  rw [(qT_in ha).2] at n2
  have hY := qY_val ha
  obtain ⟨z1, z2, z3, z4⟩ := limbs4 (d := s_Neg.f (qT a)) b1.len hY.1.len (show one5.length = 5 from rfl)
  have he : eOf (s_Neg.f (qX a) ++ (qY a ++ (one5 ++ s_Neg.f (qT a)))) = ⟨-(xF (eF a) (sgB a)), eF a, 1, -(xF (eF a) (sgB a) * eF a)⟩ := by
    unfold eOf
    rw [z1, z2, z3, z4, n1, n2, hY.2, one5_φ]
  refine ⟨?_, InB.append b1 (InB.append hY.1 (InB.append one5_in b2)), ?_, ?_⟩
  · have e15 : (ptL a).drop 15 = qT a := by
      unfold ptL
      rw [show 15 = 5 + (5 + 5) from rfl, ← List.drop_drop, drop5 (qX_val ha).1.len, ← List.drop_drop, drop5 hY.1.len, drop5 (show one5.length = 5 from rfl)]
    show s_Neg.f ((ptL a).take 5) ++ s_Neg.f ((ptL a).drop 15) = _
    rw [e15]
    unfold ptL
    rw [take5 (qX_val ha).1.len]
  · refine eOf_nz ?_
    rw [he]
    refine ⟨Pt.one_ok (on_neg (dec_on pa)), ?_⟩
    show -(xF (eF a) (sgB a)) * eF a = 1 * -(xF (eF a) (sgB a) * eF a)
    rw [Fin.one_mul, neg_mul_F]
  · rw [byt_val, he]
    exact congr (congrArg encB (Pt.one_x _ _).1) (Pt.one_x _ _).2

theorem cof_val {a : List Int} (ha : InB (BB 32) a) (pa : isPt a) : (eOf (sp_pCof.f (ptL a))).ok dF ∧ InB LB4 (sp_pCof.f (ptL a)) ∧ sp_byt.f (sp_pCof.f (ptL a)) = encB (eight (xF (eF a) (sgB a)) (eF a)).1 (eight (xF (eF a) (sgB a)) (eF a)).2 := by
  obtain ⟨o1, x1, y1⟩ := ptL_ok ha pa
  obtain ⟨-, -, -, -, e, -, -, -, -, -, hf, -, -, -, -, -, -, i, ok, hx, hy⟩ := pCof_val (ptL_in ha) o1
  rw [x1, y1] at hx hy
  rw [hf]
  refine ⟨ok, i, ?_⟩
  rw [byt_val, hx, hy]

/-! the law's points -/

theorem enc_pt (d : Fp) (p : Pt) : f_Enc (nF d ++ pL p) = encB p.x p.y := Enc_val (nF_len _) _ _ _

/-- so many sums of points of the curve -/
theorem law_sums {P Q : Pt} (hp : P.ok dF) (hq : Q.ok dF) :
    encB (P.plus dF Q).x (P.plus dF Q).y = encB (aX dF P.x P.y Q.x Q.y) (aY dF P.x P.y Q.x Q.y) ∧
    encB (P.plus dF Q.turn).x (P.plus dF Q.turn).y = encB (aX dF P.x P.y (-Q.x) Q.y) (aY dF P.x P.y (-Q.x) Q.y) ∧
    encB P.turn.x P.turn.y = encB (-P.x) P.y ∧
    encB (((P.plus dF P).plus dF (P.plus dF P)).plus dF ((P.plus dF P).plus dF (P.plus dF P))).x (((P.plus dF P).plus dF (P.plus dF P)).plus dF ((P.plus dF P).plus dF (P.plus dF P))).y = encB (eight P.x P.y).1 (eight P.x P.y).2 := by
  obtain ⟨-, x1, y1⟩ := Pt.plus_ok d_nsq hp hq
  obtain ⟨-, x2, y2⟩ := Pt.plus_ok d_nsq hp (Pt.turn_ok hq)
  rw [Pt.turn_x] at x2 y2
  obtain ⟨o3, x3, y3⟩ := Pt.plus_ok d_nsq hp hp
  obtain ⟨o4, x4, y4⟩ := Pt.plus_ok d_nsq o3 o3
  obtain ⟨-, x5, y5⟩ := Pt.plus_ok d_nsq o4 o4
  refine ⟨by rw [x1, y1], by rw [x2, y2]; rfl, by rw [Pt.turn_x]; rfl, ?_⟩
  rw [x5, y5, x4, y4, x3, y3]; rfl

end Go.X

set_option maxRecDepth 20000
namespace Go.X.Z
open Go.Proofs

/-! ### impl.PointSums -/

theorem good_iSums (W : World0 Tryz.prog) : GoodP W T_iSums sp_iSums := by
  refine lawP_sound (ts := [T_pByt, T_newId, T_iPoint, T_pAdd, T_pSub, T_pNeg, T_pCof, T_pEql]) (l := [sp_byt, sp_id, sp_set, sp_pAdd, sp_pSub, sp_pNeg, sp_pCof, sp_pEql]) (W := W)
    ⟨good_pByt W, good_newId W, good_iPoint W, good_pAdd W, good_pSub W, good_pNeg W, good_pCof W, good_pEql W, trivial⟩ (by decide) Tryz.func6 Tryz.call6 (by kernel_rfl) rfl ?_
  intro xs hlen hx
  obtain ⟨⟨ha, pa⟩, hb, pb⟩ : (InB (BB 32) (xs.take 32) ∧ isPt (xs.take 32)) ∧ (InB (BB 32) (xs.drop 32) ∧ isPt (xs.drop 32)) := hx
  refine ⟨_, _, _, _, r_iSums_0, w_iSums_0, ?_⟩
  intro ρ hin hst
  obtain ⟨e64, e79, e94, e109, e129, e161, e176, e196, e228, e243, e253, e285, e300, e320, e352, e353⟩ := E_iSums_0 hst
  clear hst e94 e161 e228 e285
  have hs := seg_of (n := 64) hlen hin
  have s0 : seg ρ 0 32 = xs.take 32 := by rw [← hs, seg_take _ (by decide)]
  have s1 : seg ρ 32 32 = xs.drop 32 := by rw [← hs, seg_drop _ (by decide)]
  have hf : sp_iSums.f xs = f_iSums xs := rfl
  unfold f_iSums at hf
  dsimp only at hf
  generalize xs.take 32 = a at *
  generalize xs.drop 32 = b at *
  have e64 : seg ρ 64 15 = gets (sp_set.f (seg ρ 0 32)) 0 15 := e64
  rw [s0, gets_all (set_len ha)] at e64
  have e79 : seg ρ 79 15 = gets (sp_set.f (seg ρ 32 32)) 0 15 := e79
  rw [s1, gets_all (set_len hb)] at e79
  obtain ⟨kX, kY, kT, kA⟩ := seg_set ha e64
  obtain ⟨-, -, -, kB⟩ := seg_set hb e79
  have kY : seg ρ 69 5 = qY a := kY
  have kA : seg ρ 64 10 ++ [1, 0, 0, 0, 0] ++ seg ρ 74 5 = ptL a := kA
  have kB : seg ρ 79 10 ++ [1, 0, 0, 0, 0] ++ seg ρ 89 5 = ptL b := kB
  have t74 : seg ρ 74 15 = seg ρ 74 5 ++ seg ρ 79 10 := seg_add ρ 5 10 74
  have kAB : seg ρ 64 10 ++ [1, 0, 0, 0, 0] ++ seg ρ 74 15 ++ [1, 0, 0, 0, 0] ++ seg ρ 89 5 = ptL a ++ ptL b := by
    rw [t74, ← kA, ← kB]; simp only [List.append_assoc]
  obtain ⟨-, -, ht⟩ := pts_two ha pa hb pb
  obtain ⟨ok1, i1, b1⟩ := sum_val ha pa hb pb
  obtain ⟨ok2, i2, b2⟩ := dif_val ha pa hb pb
  obtain ⟨f3, i3, n3, b3⟩ := neg_val ha pa
  obtain ⟨ok4, i4, b4⟩ := cof_val ha pa
  have e109 : seg ρ 109 20 = gets (sp_pAdd.f (seg ρ 64 10 ++ [1, 0, 0, 0, 0] ++ seg ρ 74 15 ++ [1, 0, 0, 0, 0] ++ seg ρ 89 5)) 0 20 := e109
  rw [kAB, gets_all (show _ = 20 from i1.len)] at e109
  have e129 : seg ρ 129 32 = gets (sp_byt.f (seg ρ 109 20)) 0 32 := e129
  rw [e109, b1, gets_all (eB_len _ _)] at e129
  have e176 : seg ρ 176 20 = gets (sp_pSub.f (seg ρ 64 10 ++ [1, 0, 0, 0, 0] ++ seg ρ 74 15 ++ [1, 0, 0, 0, 0] ++ seg ρ 89 5)) 0 20 := e176
  rw [kAB, gets_all (show _ = 20 from i2.len)] at e176
  have e196 : seg ρ 196 32 = gets (sp_byt.f (seg ρ 176 20)) 0 32 := e196
  rw [e176, b2, gets_all (eB_len _ _)] at e196
  have e243 : seg ρ 243 10 = gets (sp_pNeg.f (seg ρ 64 10 ++ [1, 0, 0, 0, 0] ++ seg ρ 74 5)) 0 10 := e243
  have bN1 := (negLB (qX_val ha).1).2
  have bN2 := (negLB (qT_in ha).1).2
  rw [kA, f3, gets_all (show _ = 10 from (InB.append bN1 bN2).len)] at e243
  obtain ⟨k243, k248⟩ := seg_two (n := 5) (m := 5) e243 bN1.len
  have k248 : seg ρ 248 5 = _ := k248
  have kN : seg ρ 243 5 ++ seg ρ 69 5 ++ [1, 0, 0, 0, 0] ++ seg ρ 248 5 = s_Neg.f (qX a) ++ (qY a ++ (one5 ++ s_Neg.f (qT a))) := by
    rw [k243, kY, k248]; simp only [List.append_assoc]; rfl
  have e253 : seg ρ 253 32 = gets (sp_byt.f (seg ρ 243 5 ++ seg ρ 69 5 ++ [1, 0, 0, 0, 0] ++ seg ρ 248 5)) 0 32 := e253
  rw [kN, b3, gets_all (eB_len _ _)] at e253
  have e300 : seg ρ 300 20 = gets (sp_pCof.f (seg ρ 64 10 ++ [1, 0, 0, 0, 0] ++ seg ρ 74 5)) 0 20 := e300
  rw [kA, gets_all (show _ = 20 from i4.len)] at e300
  have e320 : seg ρ 320 32 = gets (sp_byt.f (seg ρ 300 20)) 0 32 := e320
  rw [e300, b4, gets_all (eB_len _ _)] at e320
  have e352 : ρ 352 = (sp_pEql.f (seg ρ 64 10 ++ [1, 0, 0, 0, 0] ++ seg ρ 74 15 ++ [1, 0, 0, 0, 0] ++ seg ρ 89 5)).getD 0 0 := e352
  rw [kAB, eql_val ha pa hb pb, List.getD_cons_zero] at e352
  rw [eql_1 e352] at e353
  refine ⟨out_of (ρ := ρ) (ft := ft_iSums_0.outs) ?_, A_iSums_0 ⟨?_, ?_, ?_, trivial, ?_, ?_, trivial, ?_, ?_, trivial, ?_, ?_, trivial, ?_, ?_, trivial⟩⟩
  · have h1 : ∀ v : Nat → Int, ft_iSums_0.outs.map (A.ev v) = [v 353] ++ (seg v 129 32 ++ (seg v 196 32 ++ (seg v 253 32 ++ seg v 320 32))) := fun v => by kernel_rfl
    rw [h1, e353, e129, e196, e253, e320, hf]
  · show two (seg ρ 64 10 ++ [1, 0, 0, 0, 0] ++ seg ρ 74 15 ++ [1, 0, 0, 0, 0] ++ seg ρ 89 5)
    rw [kAB]; exact ht
  · show sp_byt.pre (seg ρ 300 20)
    rw [e300]; exact ⟨i4, eOf_nz ok4⟩
  · show sp_pCof.pre (seg ρ 64 10 ++ [1, 0, 0, 0, 0] ++ seg ρ 74 5)
    rw [kA]; exact ⟨ptL_in ha, ptL_nz ha pa⟩
  · show sp_byt.pre (seg ρ 243 5 ++ seg ρ 69 5 ++ [1, 0, 0, 0, 0] ++ seg ρ 248 5)
    rw [kN]; exact ⟨i3, n3⟩
  · show sp_pNeg.pre (seg ρ 64 10 ++ [1, 0, 0, 0, 0] ++ seg ρ 74 5)
    rw [kA]; exact ⟨ptL_in ha, ptL_nz ha pa⟩
  · show sp_byt.pre (seg ρ 176 20)
    rw [e176]; exact ⟨i2, eOf_nz ok2⟩
  · show two (seg ρ 64 10 ++ [1, 0, 0, 0, 0] ++ seg ρ 74 15 ++ [1, 0, 0, 0, 0] ++ seg ρ 89 5)
    rw [kAB]; exact ht
  · show sp_byt.pre (seg ρ 109 20)
    rw [e109]; exact ⟨i1, eOf_nz ok1⟩
  · show two (seg ρ 64 10 ++ [1, 0, 0, 0, 0] ++ seg ρ 74 15 ++ [1, 0, 0, 0, 0] ++ seg ρ 89 5)
    rw [kAB]; exact ht
  · show sp_set.pre (seg ρ 32 32)
    rw [s1]; exact ⟨hb, pb⟩
  · show sp_set.pre (seg ρ 0 32)
    rw [s0]; exact ⟨ha, pa⟩

end Go.X.Z

namespace Go.X.Z
open Go.Proofs Go.RowKit

/-- the bytes of a slice that came in -/
def Row8 (w : World) (a : Option Addr) (len : Nat) (zs : List Int) : Prop :=
  (a = none ∧ len = 0) ∨
  ∃ x, a = some x ∧ len ≤ zs.length ∧ (∀ i, i < zs.length → w.cell? (x.add i) = some (.int .u8 (zs.getD i 0)))

/-- the first bytes, with noughts behind -/
def pad (n len : Nat) (zs : List Int) : List Int := (zs.take (min len n)) ++ List.replicate (n - min len n) 0

theorem block_addr (a : Addr) (i : Nat) : (a.add i).block = a.block := by unfold Addr.add; split <;> rfl

theorem info5 : (Tryz.prog.info? 5).map (fun i => (i.zero, i.size, i.bytes)) = some (some (.int .u8 0), 1, 1) := by kernel_rfl

set_option maxHeartbeats 4000000 in
set_option maxRecDepth 100000 in
theorem sized_calls (n : Nat) (hn : n ≤ 100) (a : Option Addr) (len cap : Nat) (zs : List Int) (w : World) (hr : Row8 w a len zs) (hc : a = none → cap = 0) (hb : ∀ x, a = some x → len ≠ 0 → x.block < w.heap.size) :
    Calls Tryz.prog 13 #[.slice a len cap, .int .i64 n] w fun e w' => e = .returned (.slice (some ⟨w.heap.size, 0, none⟩) n n) ∧
      ∃ Y : Array Value, Y.toList = (pad n len zs).map (Value.int .u8) ∧ w' = (w.alloc (.cells (madeCells #[.int .u8 0] n) 5)).setRow w.heap.size Y := by
  obtain ⟨i0, hi, hz0, hz1, hz2⟩ := info_parts info5
  have hinfo : (Tryz.prog.info? 5).map (·.size) = some 1 := by rw [hi]; simp [hz1]
  obtain ⟨M, hM⟩ : ∃ M, M = madeCells #[Value.int .u8 0] n := ⟨_, rfl⟩
  have hMl : M.toList = List.replicate n (.int .u8 0) := by rw [hM]; exact toList_madeCells_one _ _
  have hMs : M.size = n := by rw [hM, size_madeCells]
  have hmk : ∀ W : World, (Instr.makeSlice 22 (.int .i64 (n : Int)) (.int .i64 (n : Int))).run Tryz.prog W = .ok (.slice (some ⟨W.heap.size, 0, none⟩) n n) (W.alloc (.cells M 5)) := fun W => by
    have h := run_make (P := Tryz.prog) W 22 5 i0 (.int .u8 0) Tryz.underlying22 hi hz0 .i64 .i64 (n : Int) (n : Int) (by omega) (by omega) (by rw [hz2]; omega) (by omega)
    rw [hz1] at h
    have e : madeCells (Value.int .u8 0).cells ((n : Int).toNat * 1) = M := by rw [hM]; simp [Value.cells]
    rw [e] at h
    simpa using h
  rw [← hM]
  clear hM
  have hself : (w.alloc (.cells M 5)).setRow w.heap.size M = w.alloc (.cells M 5) := setRow_self _ _ _ 5 (0, 0) (heap_alloc_new w _)
  rcases hr with ⟨rfl, rfl⟩ | ⟨x, rfl, hl, hcell⟩
  · obtain rfl := hc rfl
    have hcp := run_copy_nil (P := Tryz.prog) (w.alloc (.cells M 5)) 22 22 3 5 ⟨w.heap.size, 0, none⟩ n n Tryz.underlying22 (by rw [hinfo]; rfl)
    go_enter Tryz.func13, Tryz.ntmps13
    go_wp2
    go_ret
    refine ⟨rfl, M, ?_, hself.symm⟩
    rw [hMl]
    simp [pad]
  · have hlen : (((zs.take (min len n)).map (Value.int .u8))).length = Nat.min len n := by
      rw [List.length_map, List.length_take]; show min (min len n) zs.length = min len n; omega
    have hcp := run_copy_row (P := Tryz.prog) (w.alloc (.cells M 5)) 22 22 3 5 w.heap.size 0 n n x len cap M 5 ((zs.take (min len n)).map (Value.int .u8)) Tryz.underlying22 hinfo (heap_alloc_new w _) hlen
      (by
        intro j v hj
        rw [List.getElem?_map, List.getElem?_take] at hj
        by_cases hjl : j < min len n
        · rw [if_pos hjl] at hj
          have hjz : j < zs.length := by omega
          rw [List.getElem?_eq_getElem hjz] at hj
          have hc1 := hcell j hjz
          rw [List.getD_eq_getElem?_getD, List.getElem?_eq_getElem hjz] at hc1
          have hxb := hb x rfl (by omega)
          have : (w.alloc (.cells M 5)).cell? (x.add j) = w.cell? (x.add j) := World.cell?_alloc_lt w _ (x.add j) (by rw [block_addr]; exact hxb)
          rw [this, hc1]
          exact hj
        · rw [if_neg hjl] at hj; simp at hj)
      (by rw [hlen, hMs, Nat.zero_add]; exact Nat.min_le_right _ _)
      (by
        intro v hv
        obtain ⟨m, -, rfl⟩ := List.mem_map.1 hv
        rfl)
    obtain ⟨Y, hY⟩ : ∃ Y, Y = (M.toList.take 0 ++ (zs.take (min len n)).map (Value.int .u8) ++ M.toList.drop (0 + ((zs.take (min len n)).map (Value.int .u8)).length)).toArray := ⟨_, rfl⟩
    rw [← hY] at hcp
    have hYl : Y.toList = (pad n len zs).map (Value.int .u8) := by
      rw [hY, List.toList_toArray, List.take_zero, List.nil_append, Nat.zero_add, hlen, hMl, List.drop_replicate]
      unfold pad
      rw [List.map_append, List.map_replicate]
    clear hY
    go_enter Tryz.func13, Tryz.ntmps13
    go_wp2
    go_ret
    exact ⟨rfl, Y, hYl, rfl⟩

end Go.X.Z

namespace Go.X.Z
open Go.Proofs Go.RowKit

def T_sz (k n : Nat) : Tmpl := ⟨13, [.one (.lf (.gho k)), .one (.lf (.int .i64 (.l n)))], [], 0, n, true, .one (.lf (.slc 0 0 n (some n))), [], [(List.range n).map fun i => .int .u8 (.v i)]⟩

theorem pad_len {n len : Nat} {zs : List Int} (h : len ≤ zs.length) : (pad n len zs).length = n := by
  unfold pad
  rw [List.length_append, List.length_take, List.length_replicate]; omega

theorem InD_take {b : Int} : ∀ {l : List Int} (n : Nat), InD b l → InD b (l.take n)
  | [], n, _ => by rw [List.take_nil]; trivial
  | _ :: _, 0, _ => trivial
  | _ :: _, n + 1, h => ⟨h.1, h.2.1, InD_take n h.2.2⟩

theorem InD_zeros {b : Int} (hb : 0 < b) : ∀ n : Nat, InD b (List.replicate n 0)
  | 0 => trivial
  | n + 1 => ⟨Int.le_refl _, hb, InD_zeros hb n⟩

theorem pad_in {n len : Nat} {zs : List Int} (h : len ≤ zs.length) (hz : InD 256 zs) : InB (BB n) (pad n len zs) :=
  in_BB (pad_len h) (InD_append (InD_take _ hz) (InD_zeros (by decide) _))

def s_sz (n len : Nat) (zs : List Int) (h : len ≤ zs.length) (hz : InD 256 zs) : X.Sem := X.Sem.of (fun _ => pad n len zs) [] (BB n) (fun _ _ => pad_in h hz)

theorem cell_of {w : World} {g i : Nat} {Y : Array Value} {t : TypeId} (hg : w.heap[g]? = some (.cells Y t (0, 0))) : w.cell? ⟨g, i, none⟩ = Y[i]? := by
  simp [World.cell?, hg]

theorem frozen_of {w : World} {g i : Nat} {Y : Array Value} {t : TypeId} (hg : w.heap[g]? = some (.cells Y t (0, 0))) : w.frozen? ⟨g, i, none⟩ = false := by
  simp [World.frozen?, hg]

set_option maxRecDepth 100000 in
theorem good_sz {W : World0 Tryz.prog} {k n len cap : Nat} {a : Option Addr} {zs : List Int} (hn : n ≤ 100) (h : len ≤ zs.length) (hz : InD 256 zs) (hgv : W.gv k = .slice a len cap)
    (hI : ∀ w, W.I w → W.base ≤ w.heap.size → Row8 w a len zs ∧ (∀ x, a = some x → len ≠ 0 → x.block < w.heap.size)) (hcap : a = none → cap = 0) : Good W (T_sz k n) (s_sz n len zs h hz) := by
  intro F pr c hF hp E σ w args hpre
  have hargs : args = [.slice a len cap, .int .i64 n] := by
    have ha := hpre.args
    show args = _
    cases ha with
    | cons h1 t1 =>
      cases t1 with
      | cons h2 t2 =>
        cases t2
        have h1 : _ = E.gv k := h1
        have h2 : _ = Value.int .i64 n := h2
        rw [h1, h2, hpre.gv, hgv]
  obtain ⟨r1, r2⟩ := hI w hpre.inv hpre.ble
  show Invokes Tryz.prog 13 ⟨args⟩ w _
  unfold Invokes
  rw [hargs, Tryz.call13]
  refine (sized_calls n hn a len cap zs w r1 hcap r2).mono fun e w' ⟨he, Y, hY, hw⟩ => ?_
  refine ⟨_, σ.set 0 (w.heap.size, 0), he, ?_⟩
  have hg : w'.heap[w.heap.size]? = some (.cells Y 5 (0, 0)) := by
    rw [hw]; exact setRow_heap _ _ _ _ 5 (0, 0) (heap_alloc_new w _)
  have hother : ∀ b, b ≠ w.heap.size → w'.heap[b]? = (w.alloc (.cells (madeCells #[.int .u8 0] n) 5)).heap[b]? := by
    intro b hb; rw [hw]; exact setRow_other _ _ _ _ hb
  have hsz : w'.heap.size = w.heap.size + 1 := by rw [hw]; simp
  have hold : ∀ b, b < w.heap.size → w'.heap[b]? = w.heap[b]? := by
    intro b hb
    rw [hother b (by omega)]
    exact (Ev.alloc w (fun _ _ => False) _).block b hb (fun _ h => h)
  have hYl : Y.toList.length = n := by rw [hY, List.length_map, pad_len h]
  have hval : ∀ i, i < n → E.ρ i = (pad n len zs).getD i 0 := by
    intro i hi
    have := hpre.out i hi
    rw [hF] at this
    have e : (T_sz k n).nin + i = i := Nat.zero_add i
    rw [e] at this
    exact this
  refine ⟨fun r hr => absurd hr (Nat.not_lt_zero r), ?_, ?_, ?_, ⟨?_, ?_⟩, ?_⟩
  · intro r hr
    have hr : 1 ≤ r := hr
    have := hpre.free r (Nat.zero_le r)
    show (if r = 0 then _ else σ r) = none
    rw [if_neg (by omega), this]
  · refine ⟨(w.heap.size, 0), n, rfl, Nat.le_refl n, ?_, rfl⟩
    intro c' h; cases h; rfl
  · intro r cs p h1 _
    have h1 : ([] : List (Option (List L)))[r]? = some (some cs) := h1
    simp at h1
  · intro j cs hj
    have hj : [((List.range n).map fun i => L.int .u8 (.v i))][j]? = some cs := hj
    match j, hj with
    | 0, hj =>
      simp at hj
      subst hj
      refine ⟨(w.heap.size, 0), rfl, Nat.le_refl _, by show w.heap.size < w'.heap.size; omega, ?_⟩
      intro i c hc
      have hi : i < n := by
        have := (List.getElem?_eq_some_iff.1 hc).1
        simpa using this
      rw [List.getElem?_map, List.getElem?_range hi] at hc
      cases hc
      have ea : adr (w.heap.size, 0) i = ⟨w.heap.size, i, none⟩ := by unfold adr; rw [Nat.zero_add]
      refine ⟨.int .u8 (E.ρ i), ?_, rfl, ?_⟩
      · rw [ea, cell_of hg, ← Array.getElem?_toList, hY, List.getElem?_map, List.getElem?_eq_getElem (by rw [pad_len h]; exact hi), hval i hi, List.getD_eq_getElem?_getD, List.getElem?_eq_getElem (by rw [pad_len h]; exact hi)]
        rfl
      · rw [ea]; exact frozen_of hg
  · intro i j p q cs cs' h1 h2 hne _ _
    have h1 : [((List.range n).map fun i => L.int .u8 (.v i))][i]? = some cs := h1
    have h2 : [((List.range n).map fun i => L.int .u8 (.v i))][j]? = some cs' := h2
    have := (List.getElem?_eq_some_iff.1 h1).1
    have := (List.getElem?_eq_some_iff.1 h2).1
    simp at *
    omega
  · refine ⟨by rw [hw]; rfl, by rw [hw]; rfl, by rw [hw]; rfl, by omega, fun b hb _ => hold b hb, ?_, ?_⟩
    · intro b o hb _
      unfold World.cell?
      simp only [hold b hb]
    · intro b o hb
      unfold World.frozen?
      simp only [hold b hb]

end Go.X.Z

set_option maxRecDepth 20000
namespace Go.X.Z
open Go.Proofs

abbrev T_szA : Tmpl := T_sz 0 32
abbrev T_szB : Tmpl := T_sz 1 32

section
variable (a0 : Option Addr) (len0 cap0 : Nat) (a1 : Option Addr) (len1 cap1 : Nat) (w : World)

def gv2 : Nat → Value
  | 0 => .slice a0 len0 cap0
  | 1 => .slice a1 len1 cap1
  | _ => .slice none 0 0

def gl2 : Nat → Nat
  | 0 => len0
  | 1 => len1
  | _ => 0

theorem mixed : Tryz.prog.follows .mixedOrders = true := by kernel_rfl

/-- the world that the law finds -/
def W2 : World0 Tryz.prog where
  gv := gv2 a0 len0 cap0 a1 len1 cap1
  gl := gl2 len0 len1
  I := fun w' => ∀ b, b < w.heap.size → w'.heap[b]? = w.heap[b]?
  base := w.heap.size
  hg := fun k => by
    match k with
    | 0 => exact ⟨a0, cap0, rfl⟩
    | 1 => exact ⟨a1, cap1, rfl⟩
    | _ + 2 => exact ⟨none, 0, rfl⟩
  st := fun w1 w2 h _ _ h2 b hb => (h2 b hb).trans (h b hb)
  mix := mixed

end

/-- what is said of a slice that came in -/
structure SOk (w : World) (a : Option Addr) (len cap : Nat) (zs : List Int) : Prop where
  row : Row8 w a len zs
  nil : a = none → cap = 0
  lt : ∀ x, a = some x → len ≠ 0 → x.block < w.heap.size
  len : len ≤ zs.length
  bytes : InD 256 zs

theorem cell_same {w w' : World} (h : ∀ b, b < w.heap.size → w'.heap[b]? = w.heap[b]?) {x : Addr} (hx : x.block < w.heap.size) : w'.cell? x = w.cell? x := by
  have := h x.block hx
  unfold World.cell?
  simp only [this]

theorem SOk.keep {w w' : World} {a : Option Addr} {len cap : Nat} {zs : List Int} (h : SOk w a len cap zs) (hI : ∀ b, b < w.heap.size → w'.heap[b]? = w.heap[b]?) (hs : w.heap.size ≤ w'.heap.size) :
    Row8 w' a len zs ∧ (∀ x, a = some x → len ≠ 0 → x.block < w'.heap.size) := by
  refine ⟨?_, fun x hx hl => Nat.lt_of_lt_of_le (h.lt x hx hl) hs⟩
  rcases h.row with ⟨e1, e2⟩ | ⟨x, e, h1, h2⟩
  · exact .inl ⟨e1, e2⟩
  · refine .inr ⟨x, e, h1, ?_⟩
    intro i hi
    have hc := h2 i hi
    rw [← hc]
    have hb : (x.add i).block < w.heap.size := by
      unfold World.cell? at hc
      cases hh : w.heap[(x.add i).block]? with
      | none => rw [hh] at hc; simp at hc
      | some o => exact (Array.getElem?_eq_some_iff.1 hh).1
    exact cell_same hI hb

section
variable {a0 : Option Addr} {len0 cap0 : Nat} {z0 : List Int} {a1 : Option Addr} {len1 cap1 : Nat} {z1 : List Int} {w : World}
  (h0 : SOk w a0 len0 cap0 z0) (h1 : SOk w a1 len1 cap1 z1)

def sA : X.Sem := s_sz 32 len0 z0 h0.len h0.bytes
def sB : X.Sem := s_sz 32 len1 z1 h1.len h1.bytes

theorem good_szA : Good (W2 a0 len0 cap0 a1 len1 cap1 w) T_szA (sA h0) :=
  good_sz (k := 0) (a := a0) (by decide) h0.len h0.bytes rfl (fun _ hI hs => h0.keep hI hs) h0.nil
theorem good_szB : Good (W2 a0 len0 cap0 a1 len1 cap1 w) T_szB (sB h1) :=
  good_sz (k := 1) (a := a1) (by decide) h1.len h1.bytes rfl (fun _ hI hs => h1.keep hI hs) h1.nil

theorem one_out {v : Int} (h : v = 1) (j : Nat) (a : A) (ha : [A.l v][j]? = some a) {ρ : Nat → Int} : ([1] : List Int).getD j 0 = a.ev ρ := by
  match j, ha with
  | 0, ha => cases ha; exact h.symm

theorem one_outv {x : Nat} {ρ : Nat → Int} (h : ρ x = 1) (j : Nat) (a : A) (ha : [A.v x][j]? = some a) : ([1] : List Int).getD j 0 = a.ev ρ := by
  match j, ha with
  | 0, ha => cases ha; exact h.symm

end

end Go.X.Z
