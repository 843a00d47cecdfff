/-
  A part of the proof of YtkjhclknbkleoaaGreat: texts M19, G8, M20, M21, G9, M22, M23, M24, ZK, X31, X32, M25, G10, N7, N8, N9, M26, M27. No conditions.
-/
import Derived.Test.YtkjhclknbkleoaaGreatT15
import Derived.KernelRfl
import Derived.Test.YtkjhclknbkleoaaGreatProg
namespace Go.X

/-! ### pieces for the laws -/

theorem gtr_b (a b : Int) : op2 .gtr .i64 a b = b2i (decide (a > b)) := rfl

theorem bytes_in (n : Int) : InB (BB 32) (toD 256 32 n) := in_BB (toD_len _ _ _) (toD_in (by decide) _ _)

/-- the words of 32 bytes -/
theorem of32_in {l : List Int} (h : InB (BB 32) l) : InB (WB 8) (s_Of32.f l) := by
  rw [Of32_val l h]
  exact InD_InB (b := 4294967296) (toD_len _ _ _) (toD_in (by decide) _ _)

end Go.X

namespace Go.X
set_option maxRecDepth 20000
noncomputable section
end
end Go.X

namespace Go.X

/-! ### the program's sums of elements -/

theorem bytesLB {r : List Int} (h : InB LB r) : s_Bytes.f r = toD 256 32 ((φ (v51 r)).val : Int) := by
  rw [Bytes_val r h, φ_val]

end Go.X

namespace Go.X

theorem seg_two {v : Nat → Int} {x n m : Nat} {a b : List Int} (h : seg v x (n + m) = a ++ b) (ha : a.length = n) : seg v x n = a ∧ seg v (x + n) m = b := by
  rw [seg_add] at h
  exact List.append_inj h (by rw [seg_len, ha])

theorem top_bit {v : Nat → Int} {x : Nat} (h : InD 256 (seg v x 32)) : v (x + 31) / 128 = ofD 256 (seg v x 32) / 57896044618658097711785492504343953926634992332820282019728792003956564819968 := by
  have e : seg v x 32 = seg v x 31 ++ [v (x + 31)] := seg_add v 31 1 x
  rw [e] at h ⊢
  obtain ⟨l0, l1⟩ := ofD_bound (b := 256) (by decide) (InD_left h)
  have hr := InD_right h
  have h0 := hr.1
  have h1 := hr.2.1
  rw [seg_len] at l1
  rw [ofD_append, seg_len]
  have e2 : ofD 256 [v (x + 31)] = v (x + 31) + 256 * 0 := rfl
  rw [e2]
  have l1 : ofD 256 (seg v x 31) < 256 ^ 31 := l1
  generalize ofD 256 (seg v x 31) = L at *
  generalize v (x + 31) = t at *
  have : (256 : Int) ^ 31 = 452312848583266388373324160190187140051835877600158453279131187530910662656 := by decide
  rw [this] at *
  omega

def bB (x : Fp) : List Int := toD 256 32 (x.val : Int)

theorem bB_len (x : Fp) : (bB x).length = 32 := toD_len _ _ _
theorem bB_in (x : Fp) : InB (BB 32) (bB x) := bytes_in _

theorem bytesF {r : List Int} {x : Fp} (h : InB LB r) (e : φ (v51 r) = x) : s_Bytes.f r = bB x := by
  rw [bytesLB h, e]; rfl

/-- the element of 32 bytes -/
def eF (a : List Int) : Fp := φ (v51 (toD 2251799813685248 5 (ofD 256 a)))

theorem eql_1 {P : Prop} [Decidable P] {t : Int} (h : t = if P then 1 else 0) : op2 .eql .i64 t 1 = if P then 1 else 0 := by
  rw [h, b2i_one]

end Go.X

namespace Go.X
set_option maxRecDepth 20000
noncomputable section
abbrev l_sd : List Sem := [s_Small, s_FMul, s_FNeg, s_Inv]
def g_sd : List (Nat × Ins) := (List.flatten [apps 2 (vs 18 16) 34 16, apps 1 ([(.v 0)] ++ (ls 0 15) ++ (vs 2 16)) 18 16, apps 3 ([(.v 1)] ++ (ls 0 15)) 2 16, [(1, .app 0 [(.l 121666)] 0), (0, .app 0 [(.l 121665)] 0)]])
def outs_sd : List A := (vs 34 16)
def s_sd : Sem := Sem.st l_sd g_sd 0 50 outs_sd [] (bs 16 0 4294967295) (by kernel_rfl)

theorem E_sd (xs : List Int) (hx : InB [] xs) : ∃ v : Nat → Int, vals l_sd g_sd xs = v ∧ seg v 0 0 = xs ∧ ((v 0 = (s_Small.f ([121665])).getD 0 0) ∧ (v 1 = (s_Small.f ([121666])).getD 0 0) ∧ (seg v 2 16 = gets (s_Inv.f ([v 1, 0, 0, 0, 0, 0, 0, 0, 0, 0, 0, 0, 0, 0, 0, 0])) 0 16) ∧ (seg v 18 16 = gets (s_FMul.f ([v 0, 0, 0, 0, 0, 0, 0, 0, 0, 0, 0, 0, 0, 0, 0, 0] ++ seg v 2 16)) 0 16) ∧ (seg v 34 16 = gets (s_FNeg.f (seg v 18 16)) 0 16)) ∧ (True) ∧ s_sd.f xs = (seg v 34 16) :=
  Eq.mp (by kernel_rfl) (runE (s := s_sd) (o := outs_sd) (l := l_sd) (g := g_sd) (nin := 0) (top := 50) (by kernel_rfl) hx (by kernel_rfl))

abbrev l_Edw : List Sem := [s_sd]
def g_Edw : List (Nat × Ins) := (apps 0 [] 0 16)
def outs_Edw : List A := (vs 0 16)
def s_Edw : Sem := Sem.st l_Edw g_Edw 0 16 outs_Edw [] (bs 16 0 4294967295) (by kernel_rfl)

theorem E_Edw (xs : List Int) (hx : InB [] xs) : ∃ v : Nat → Int, vals l_Edw g_Edw xs = v ∧ seg v 0 0 = xs ∧ ((seg v 0 16 = gets (s_sd.f ([] : List Int)) 0 16)) ∧ (True) ∧ s_Edw.f xs = (seg v 0 16) :=
  Eq.mp (by kernel_rfl) (runE (s := s_Edw) (o := outs_Edw) (l := l_Edw) (g := g_Edw) (nin := 0) (top := 16) (by kernel_rfl) hx (by kernel_rfl))

abbrev l_Dec : List Sem := [s_Of32, s_Of64, s_Small, s_Bit, s_Field, s_FAdd, s_FSub, s_FMul, s_FNeg, s_Ratio]
def g_Dec_0 : List (Nat × Ins) := (List.flatten [[(157, .ite (.v 156) (.l 0) (.l 1))], apps 9 ((vs 91 16) ++ (vs 124 16)) 140 17, apps 5 ((vs 107 17) ++ (ls 0 15)) 124 16, [(123, .app 2 [(.l 1)] 0)], apps 7 ((vs 0 16) ++ (vs 74 16)) 107 16, apps 6 ((vs 74 17) ++ (ls 0 15)) 91 16, [(90, .app 2 [(.l 1)] 0)], apps 7 ((vs 58 16) ++ (vs 58 16)) 74 16, apps 4 ((vs 48 7) ++ [(.v 57)] ++ (ls 0 8)) 58 16, [(57, .op2 .and .u32 (.v 55) (.l 2147483647)), (56, .app 3 ((vs 48 8) ++ (ls 0 8) ++ [(.l 255)]) 0)], apps 0 (vs 16 32) 48 8])
def outs_Dec_0 : List A := (ls 0 34)
def q_Dec_0 : FPath := ⟨((bs 16 0 4294967295) ++ (bs 32 0 255)), g_Dec_0, [.cond (.v 157) true, .pre 9 ((vs 91 16) ++ (vs 124 16)), .pre 5 ((vs 107 17) ++ (ls 0 15)), .pre 2 [(.l 1)], .pre 7 ((vs 0 16) ++ (vs 74 16)), .pre 6 ((vs 74 17) ++ (ls 0 15)), .pre 2 [(.l 1)], .pre 7 ((vs 58 16) ++ (vs 58 16)), .pre 4 ((vs 48 7) ++ [(.v 57)] ++ (ls 0 8)), .pre 3 ((vs 48 8) ++ (ls 0 8) ++ [(.l 255)]), .pre 0 (vs 16 32)], outs_Dec_0⟩
def g_Dec_1 : List (Nat × Ins) := (List.flatten [[(177, .app 2 [(.l 1)] 0)], apps 8 (vs 140 16) 161 16, [(160, .op2 .neq .i64 (.v 159) (.v 56)), (159, .conv .i64 (.v 158)), (158, .op2 .and .u32 (.v 140) (.l 1)), (157, .ite (.v 156) (.l 0) (.l 1))], apps 9 ((vs 91 16) ++ (vs 124 16)) 140 17, apps 5 ((vs 107 17) ++ (ls 0 15)) 124 16, [(123, .app 2 [(.l 1)] 0)], apps 7 ((vs 0 16) ++ (vs 74 16)) 107 16, apps 6 ((vs 74 17) ++ (ls 0 15)) 91 16, [(90, .app 2 [(.l 1)] 0)], apps 7 ((vs 58 16) ++ (vs 58 16)) 74 16, apps 4 ((vs 48 7) ++ [(.v 57)] ++ (ls 0 8)) 58 16, [(57, .op2 .and .u32 (.v 55) (.l 2147483647)), (56, .app 3 ((vs 48 8) ++ (ls 0 8) ++ [(.l 255)]) 0)], apps 0 (vs 16 32) 48 8])
def outs_Dec_1 : List A := ((vs 161 16) ++ (vs 58 16) ++ [(.v 177), (.l 1)])
def q_Dec_1 : FPath := ⟨((bs 16 0 4294967295) ++ (bs 32 0 255)), g_Dec_1, [.pre 2 [(.l 1)], .pre 8 (vs 140 16), .cond (.v 160) true, .cond (.v 157) false, .pre 9 ((vs 91 16) ++ (vs 124 16)), .pre 5 ((vs 107 17) ++ (ls 0 15)), .pre 2 [(.l 1)], .pre 7 ((vs 0 16) ++ (vs 74 16)), .pre 6 ((vs 74 17) ++ (ls 0 15)), .pre 2 [(.l 1)], .pre 7 ((vs 58 16) ++ (vs 58 16)), .pre 4 ((vs 48 7) ++ [(.v 57)] ++ (ls 0 8)), .pre 3 ((vs 48 8) ++ (ls 0 8) ++ [(.l 255)]), .pre 0 (vs 16 32)], outs_Dec_1⟩
def g_Dec_2 : List (Nat × Ins) := (List.flatten [[(161, .app 2 [(.l 1)] 0), (160, .op2 .neq .i64 (.v 159) (.v 56)), (159, .conv .i64 (.v 158)), (158, .op2 .and .u32 (.v 140) (.l 1)), (157, .ite (.v 156) (.l 0) (.l 1))], apps 9 ((vs 91 16) ++ (vs 124 16)) 140 17, apps 5 ((vs 107 17) ++ (ls 0 15)) 124 16, [(123, .app 2 [(.l 1)] 0)], apps 7 ((vs 0 16) ++ (vs 74 16)) 107 16, apps 6 ((vs 74 17) ++ (ls 0 15)) 91 16, [(90, .app 2 [(.l 1)] 0)], apps 7 ((vs 58 16) ++ (vs 58 16)) 74 16, apps 4 ((vs 48 7) ++ [(.v 57)] ++ (ls 0 8)) 58 16, [(57, .op2 .and .u32 (.v 55) (.l 2147483647)), (56, .app 3 ((vs 48 8) ++ (ls 0 8) ++ [(.l 255)]) 0)], apps 0 (vs 16 32) 48 8])
def outs_Dec_2 : List A := ((vs 140 16) ++ (vs 58 16) ++ [(.v 161), (.l 1)])
def q_Dec_2 : FPath := ⟨((bs 16 0 4294967295) ++ (bs 32 0 255)), g_Dec_2, [.pre 2 [(.l 1)], .cond (.v 160) false, .cond (.v 157) false, .pre 9 ((vs 91 16) ++ (vs 124 16)), .pre 5 ((vs 107 17) ++ (ls 0 15)), .pre 2 [(.l 1)], .pre 7 ((vs 0 16) ++ (vs 74 16)), .pre 6 ((vs 74 17) ++ (ls 0 15)), .pre 2 [(.l 1)], .pre 7 ((vs 58 16) ++ (vs 58 16)), .pre 4 ((vs 48 7) ++ [(.v 57)] ++ (ls 0 8)), .pre 3 ((vs 48 8) ++ (ls 0 8) ++ [(.l 255)]), .pre 0 (vs 16 32)], outs_Dec_2⟩
def q_Dec : List FPath := [q_Dec_0, q_Dec_1, q_Dec_2]
theorem E_Dec_0 (xs : List Int) (hx : InB ((bs 16 0 4294967295) ++ (bs 32 0 255)) xs) : ∃ v : Nat → Int, vals l_Dec g_Dec_0 xs = v ∧ seg v 0 48 = xs ∧ ((seg v 48 8 = gets (s_Of32.f (seg v 16 32)) 0 8) ∧ (v 56 = (s_Bit.f (seg v 48 8 ++ [0, 0, 0, 0, 0, 0, 0, 0, 255])).getD 0 0) ∧ (v 57 = (v 55) % 2147483648) ∧ (seg v 58 16 = gets (s_Field.f (seg v 48 7 ++ [v 57, 0, 0, 0, 0, 0, 0, 0, 0])) 0 16) ∧ (seg v 74 16 = gets (s_FMul.f (seg v 58 16 ++ seg v 58 16)) 0 16) ∧ (v 90 = (s_Small.f ([1])).getD 0 0) ∧ (seg v 91 16 = gets (s_FSub.f (seg v 74 17 ++ [0, 0, 0, 0, 0, 0, 0, 0, 0, 0, 0, 0, 0, 0, 0])) 0 16) ∧ (seg v 107 16 = gets (s_FMul.f (seg v 0 16 ++ seg v 74 16)) 0 16) ∧ (v 123 = (s_Small.f ([1])).getD 0 0) ∧ (seg v 124 16 = gets (s_FAdd.f (seg v 107 17 ++ [0, 0, 0, 0, 0, 0, 0, 0, 0, 0, 0, 0, 0, 0, 0])) 0 16) ∧ (seg v 140 17 = gets (s_Ratio.f (seg v 91 16 ++ seg v 124 16)) 0 17) ∧ (v 157 = (if v 156 ≠ 0 then 0 else 1))) ∧ (True) ∧ (CondHold v q_Dec_0.asm = ((v 157 != 0) = true ∧ True)) ∧ outs_Dec_0.map (A.ev v) = ([0, 0, 0, 0, 0, 0, 0, 0, 0, 0, 0, 0, 0, 0, 0, 0, 0, 0, 0, 0, 0, 0, 0, 0, 0, 0, 0, 0, 0, 0, 0, 0, 0, 0]) :=
  Eq.mp (by kernel_rfl) (runQ (q := q_Dec_0.asm) (o := outs_Dec_0) (l := l_Dec) (g := g_Dec_0) (nin := 48) (top := 158) (by kernel_rfl) hx)
theorem E_Dec_1 (xs : List Int) (hx : InB ((bs 16 0 4294967295) ++ (bs 32 0 255)) xs) : ∃ v : Nat → Int, vals l_Dec g_Dec_1 xs = v ∧ seg v 0 48 = xs ∧ ((seg v 48 8 = gets (s_Of32.f (seg v 16 32)) 0 8) ∧ (v 56 = (s_Bit.f (seg v 48 8 ++ [0, 0, 0, 0, 0, 0, 0, 0, 255])).getD 0 0) ∧ (v 57 = (v 55) % 2147483648) ∧ (seg v 58 16 = gets (s_Field.f (seg v 48 7 ++ [v 57, 0, 0, 0, 0, 0, 0, 0, 0])) 0 16) ∧ (seg v 74 16 = gets (s_FMul.f (seg v 58 16 ++ seg v 58 16)) 0 16) ∧ (v 90 = (s_Small.f ([1])).getD 0 0) ∧ (seg v 91 16 = gets (s_FSub.f (seg v 74 17 ++ [0, 0, 0, 0, 0, 0, 0, 0, 0, 0, 0, 0, 0, 0, 0])) 0 16) ∧ (seg v 107 16 = gets (s_FMul.f (seg v 0 16 ++ seg v 74 16)) 0 16) ∧ (v 123 = (s_Small.f ([1])).getD 0 0) ∧ (seg v 124 16 = gets (s_FAdd.f (seg v 107 17 ++ [0, 0, 0, 0, 0, 0, 0, 0, 0, 0, 0, 0, 0, 0, 0])) 0 16) ∧ (seg v 140 17 = gets (s_Ratio.f (seg v 91 16 ++ seg v 124 16)) 0 17) ∧ (v 157 = (if v 156 ≠ 0 then 0 else 1)) ∧ (v 158 = (v 140) % 2) ∧ (v 159 = (v 158)) ∧ (v 160 = op2 .neq .i64 (v 159) (v 56)) ∧ (seg v 161 16 = gets (s_FNeg.f (seg v 140 16)) 0 16) ∧ (v 177 = (s_Small.f ([1])).getD 0 0)) ∧ (True) ∧ (CondHold v q_Dec_1.asm = ((v 160 != 0) = true ∧ ((v 157 != 0) = false ∧ True))) ∧ outs_Dec_1.map (A.ev v) = (seg v 161 16 ++ seg v 58 16 ++ [v 177, 1]) :=
  Eq.mp (by kernel_rfl) (runQ (q := q_Dec_1.asm) (o := outs_Dec_1) (l := l_Dec) (g := g_Dec_1) (nin := 48) (top := 178) (by kernel_rfl) hx)
theorem E_Dec_2 (xs : List Int) (hx : InB ((bs 16 0 4294967295) ++ (bs 32 0 255)) xs) : ∃ v : Nat → Int, vals l_Dec g_Dec_2 xs = v ∧ seg v 0 48 = xs ∧ ((seg v 48 8 = gets (s_Of32.f (seg v 16 32)) 0 8) ∧ (v 56 = (s_Bit.f (seg v 48 8 ++ [0, 0, 0, 0, 0, 0, 0, 0, 255])).getD 0 0) ∧ (v 57 = (v 55) % 2147483648) ∧ (seg v 58 16 = gets (s_Field.f (seg v 48 7 ++ [v 57, 0, 0, 0, 0, 0, 0, 0, 0])) 0 16) ∧ (seg v 74 16 = gets (s_FMul.f (seg v 58 16 ++ seg v 58 16)) 0 16) ∧ (v 90 = (s_Small.f ([1])).getD 0 0) ∧ (seg v 91 16 = gets (s_FSub.f (seg v 74 17 ++ [0, 0, 0, 0, 0, 0, 0, 0, 0, 0, 0, 0, 0, 0, 0])) 0 16) ∧ (seg v 107 16 = gets (s_FMul.f (seg v 0 16 ++ seg v 74 16)) 0 16) ∧ (v 123 = (s_Small.f ([1])).getD 0 0) ∧ (seg v 124 16 = gets (s_FAdd.f (seg v 107 17 ++ [0, 0, 0, 0, 0, 0, 0, 0, 0, 0, 0, 0, 0, 0, 0])) 0 16) ∧ (seg v 140 17 = gets (s_Ratio.f (seg v 91 16 ++ seg v 124 16)) 0 17) ∧ (v 157 = (if v 156 ≠ 0 then 0 else 1)) ∧ (v 158 = (v 140) % 2) ∧ (v 159 = (v 158)) ∧ (v 160 = op2 .neq .i64 (v 159) (v 56)) ∧ (v 161 = (s_Small.f ([1])).getD 0 0)) ∧ (True) ∧ (CondHold v q_Dec_2.asm = ((v 160 != 0) = false ∧ ((v 157 != 0) = false ∧ True))) ∧ outs_Dec_2.map (A.ev v) = (seg v 140 16 ++ seg v 58 16 ++ [v 161, 1]) :=
  Eq.mp (by kernel_rfl) (runQ (q := q_Dec_2.asm) (o := outs_Dec_2) (l := l_Dec) (g := g_Dec_2) (nin := 48) (top := 162) (by kernel_rfl) hx)

abbrev l_Enc : List Sem := [s_NBytes, s_FMul, s_Odd, s_Inv]
def g_Enc_0 : List (Nat × Ins) := (List.flatten [[(145, .op2 .or .u8 (.v 127) (.l 128)), (144, .app 2 (vs 128 16) 0)], apps 1 ((vs 16 16) ++ (vs 64 16)) 128 16, apps 0 (vs 80 16) 96 32, apps 1 ((vs 32 16) ++ (vs 64 16)) 80 16, apps 3 (vs 48 16) 64 16])
def outs_Enc_0 : List A := ((vs 96 31) ++ [(.v 145)])
def q_Enc_0 : FPath := ⟨(bs 64 0 4294967295), g_Enc_0, [.cond (.v 144) true, .pre 2 (vs 128 16), .pre 1 ((vs 16 16) ++ (vs 64 16)), .pre 0 (vs 80 16), .pre 1 ((vs 32 16) ++ (vs 64 16)), .pre 3 (vs 48 16)], outs_Enc_0⟩
def g_Enc_1 : List (Nat × Ins) := (List.flatten [[(144, .app 2 (vs 128 16) 0)], apps 1 ((vs 16 16) ++ (vs 64 16)) 128 16, apps 0 (vs 80 16) 96 32, apps 1 ((vs 32 16) ++ (vs 64 16)) 80 16, apps 3 (vs 48 16) 64 16])
def outs_Enc_1 : List A := (vs 96 32)
def q_Enc_1 : FPath := ⟨(bs 64 0 4294967295), g_Enc_1, [.cond (.v 144) false, .pre 2 (vs 128 16), .pre 1 ((vs 16 16) ++ (vs 64 16)), .pre 0 (vs 80 16), .pre 1 ((vs 32 16) ++ (vs 64 16)), .pre 3 (vs 48 16)], outs_Enc_1⟩
def q_Enc : List FPath := [q_Enc_0, q_Enc_1]
theorem E_Enc_0 (xs : List Int) (hx : InB (bs 64 0 4294967295) xs) : ∃ v : Nat → Int, vals l_Enc g_Enc_0 xs = v ∧ seg v 0 64 = xs ∧ ((seg v 64 16 = gets (s_Inv.f (seg v 48 16)) 0 16) ∧ (seg v 80 16 = gets (s_FMul.f (seg v 32 16 ++ seg v 64 16)) 0 16) ∧ (seg v 96 32 = gets (s_NBytes.f (seg v 80 16)) 0 32) ∧ (seg v 128 16 = gets (s_FMul.f (seg v 16 16 ++ seg v 64 16)) 0 16) ∧ (v 144 = (s_Odd.f (seg v 128 16)).getD 0 0) ∧ (v 145 = op2 .or .u8 (v 127) 128)) ∧ (True) ∧ (CondHold v q_Enc_0.asm = ((v 144 != 0) = true ∧ True)) ∧ outs_Enc_0.map (A.ev v) = (seg v 96 31 ++ [v 145]) :=
  Eq.mp (by kernel_rfl) (runQ (q := q_Enc_0.asm) (o := outs_Enc_0) (l := l_Enc) (g := g_Enc_0) (nin := 64) (top := 146) (by kernel_rfl) hx)
theorem E_Enc_1 (xs : List Int) (hx : InB (bs 64 0 4294967295) xs) : ∃ v : Nat → Int, vals l_Enc g_Enc_1 xs = v ∧ seg v 0 64 = xs ∧ ((seg v 64 16 = gets (s_Inv.f (seg v 48 16)) 0 16) ∧ (seg v 80 16 = gets (s_FMul.f (seg v 32 16 ++ seg v 64 16)) 0 16) ∧ (seg v 96 32 = gets (s_NBytes.f (seg v 80 16)) 0 32) ∧ (seg v 128 16 = gets (s_FMul.f (seg v 16 16 ++ seg v 64 16)) 0 16) ∧ (v 144 = (s_Odd.f (seg v 128 16)).getD 0 0)) ∧ (True) ∧ (CondHold v q_Enc_1.asm = ((v 144 != 0) = false ∧ True)) ∧ outs_Enc_1.map (A.ev v) = (seg v 96 32) :=
  Eq.mp (by kernel_rfl) (runQ (q := q_Enc_1.asm) (o := outs_Enc_1) (l := l_Enc) (g := g_Enc_1) (nin := 64) (top := 145) (by kernel_rfl) hx)

abbrev l_feOneP : List Sem := [s_One]
def g_feOneP : List (Nat × Ins) := []
def outs_feOneP : List A := []
def s_feOneP : Sem := Sem.st l_feOneP g_feOneP 0 0 outs_feOneP [] [] (by kernel_rfl)

abbrev l_dP : List Sem := [s_SetBytes]
def g_dP : List (Nat × Ins) := (apps 0 [(.l 163), (.l 120), (.l 89), (.l 19), (.l 202), (.l 77), (.l 235), (.l 117), (.l 171), (.l 216), (.l 65), (.l 65), (.l 77), (.l 10), (.l 112), (.l 0), (.l 152), (.l 232), (.l 121), (.l 119), (.l 121), (.l 64), (.l 199), (.l 140), (.l 115), (.l 254), (.l 111), (.l 43), (.l 238), (.l 108), (.l 3), (.l 82)] 0 5)
def outs_dP : List A := (vs 0 5)
def s_dP : Sem := Sem.st l_dP g_dP 0 5 outs_dP [] (bs 5 0 2251799813685247) (by kernel_rfl)

theorem E_dP (xs : List Int) (hx : InB [] xs) : ∃ v : Nat → Int, vals l_dP g_dP xs = v ∧ seg v 0 0 = xs ∧ ((seg v 0 5 = gets (s_SetBytes.f ([163, 120, 89, 19, 202, 77, 235, 117, 171, 216, 65, 65, 77, 10, 112, 0, 152, 232, 121, 119, 121, 64, 199, 140, 115, 254, 111, 43, 238, 108, 3, 82])) 0 5)) ∧ (True) ∧ s_dP.f xs = (seg v 0 5) :=
  Eq.mp (by kernel_rfl) (runE (s := s_dP) (o := outs_dP) (l := l_dP) (g := g_dP) (nin := 0) (top := 5) (by kernel_rfl) hx (by kernel_rfl))

abbrev l_cpEl : List Sem := [s_Bytes]
def g_cpEl : List (Nat × Ins) := (apps 0 (vs 0 5) 5 32)
def outs_cpEl : List A := (vs 5 32)
def s_cpEl : Sem := Sem.st l_cpEl g_cpEl 5 37 outs_cpEl (bs 5 0 4503599627370458) (bs 32 0 255) (by kernel_rfl)

theorem E_cpEl (xs : List Int) (hx : InB (bs 5 0 4503599627370458) xs) : ∃ v : Nat → Int, vals l_cpEl g_cpEl xs = v ∧ seg v 0 5 = xs ∧ ((seg v 5 32 = gets (s_Bytes.f (seg v 0 5)) 0 32)) ∧ (True) ∧ s_cpEl.f xs = (seg v 5 32) :=
  Eq.mp (by kernel_rfl) (runE (s := s_cpEl) (o := outs_cpEl) (l := l_cpEl) (g := g_cpEl) (nin := 5) (top := 37) (by kernel_rfl) hx (by kernel_rfl))

abbrev l_errNew : List Sem := []
def g_errNew : List (Nat × Ins) := []
def outs_errNew : List A := []
def s_errNew : Sem := Sem.st l_errNew g_errNew 0 0 outs_errNew [] [] (by kernel_rfl)

end
end Go.X

set_option maxRecDepth 20000
namespace Go.X

/-! ### points: what is said of them -/

theorem small_F {m : Int} (h : 0 ≤ m) (h' : m ≤ 4294967295) : [m, 0, 0, 0, 0, 0, 0, 0, 0, 0, 0, 0, 0, 0, 0, 0] = nF (φ m) := by
  have hl : InB (WB 16) [m, 0, 0, 0, 0, 0, 0, 0, 0, 0, 0, 0, 0, 0, 0, 0] := InD_InB (b := 4294967296) rfl ⟨h, by omega, by decide, by decide, by decide, by decide, by decide, by decide, by decide, by decide, by decide, by decide, by decide, by decide, by decide, by decide, by decide, by decide, by decide, by decide, by decide, by decide, by decide, by decide, by decide, by decide, by decide, by decide, by decide, by decide, by decide, by decide, trivial⟩
  have e : ofD 4294967296 [m, 0, 0, 0, 0, 0, 0, 0, 0, 0, 0, 0, 0, 0, 0, 0] = m := by
    show m + 4294967296 * ofD 4294967296 (List.replicate 15 0) = m
    rw [tz]; omega
  have := nF_of hl (by rw [e]; omega)
  rw [e] at this
  exact this

/-- the curve's number -/
def dF : Fp := -(φ 121665 * inv (φ 121666))

theorem sd_val : s_sd.f [] = nF dF := by
  obtain ⟨v, -, -, ⟨h0, h1, h2, h18, h34⟩, -, hf⟩ := E_sd [] trivial
  rw [Small_val (by decide) (by decide)] at h0 h1
  have h0 : v 0 = 121665 := h0
  have h1 : v 1 = 121666 := h1
  rw [h1, small_F (by decide) (by decide), Inv_val, gets_all (nF_len _)] at h2
  rw [h0, small_F (by decide) (by decide), h2, FMul_val, gets_all (nF_len _)] at h18
  rw [h18, FNeg_val, gets_all (nF_len _)] at h34
  rw [hf, h34]; rfl

theorem Edw_val : s_Edw.f [] = nF dF := by
  obtain ⟨v, -, -, h0, -, hf⟩ := E_Edw [] trivial
  rw [sd_val, gets_all (nF_len _)] at h0
  rw [hf, h0]

def dN : Int := 37095705934669439343138083508754565189542113879843219016388785533085940283555

theorem d_ne : φ 121666 ≠ 0 := by
  intro h
  have h2 := φ_iff.1 (h.trans φ_zero.symm)
  have h3 : (121666 : Int) % p25519 = 121666 := by kernel_rfl
  rw [h3] at h2
  exact absurd h2 (by decide)

theorem d_mul : φ 121666 * φ dN = -φ 121665 := by
  have h : φ (121666 * dN) = φ (-121665) := φ_iff.2 (by kernel_rfl)
  rw [φ_mul, φ_neg] at h
  exact h

theorem d_gen {a b c x : Fp} (h1 : a ≠ 0) (h2 : a * x = -c) (h3 : a * b = 1) : x = -(c * b) := by
  refine mul_cancel h1 ?_
  rw [h2]
  grind

theorem dN_dF : φ dN = dF := d_gen d_ne d_mul (inv_mul d_ne)

theorem dP_val : ∃ l, s_dP.f [] = l ∧ InB LB l ∧ φ (v51 l) = dF := by
  obtain ⟨v, -, -, h0, -, hf⟩ := E_dP [] trivial
  have hb : InB (BB 32) [163, 120, 89, 19, 202, 77, 235, 117, 171, 216, 65, 65, 77, 10, 112, 0, 152, 232, 121, 119, 121, 64, 199, 140, 115, 254, 111, 43, 238, 108, 3, 82] := in_BB rfl (by
    refine ⟨by decide, by decide, by decide, by decide, by decide, by decide, by decide, by decide, by decide, by decide, by decide, by decide, by decide, by decide, by decide, by decide, by decide, by decide, by decide, by decide, by decide, by decide, by decide, by decide, by decide, by decide, by decide, by decide, by decide, by decide, by decide, by decide, by decide, by decide, by decide, by decide, by decide, by decide, by decide, by decide, by decide, by decide, by decide, by decide, by decide, by decide, by decide, by decide, by decide, by decide, by decide, by decide, by decide, by decide, by decide, by decide, by decide, by decide, by decide, by decide, by decide, by decide, by decide, by decide, trivial⟩)
  have e : ofD 256 [163, 120, 89, 19, 202, 77, 235, 117, 171, 216, 65, 65, 77, 10, 112, 0, 152, 232, 121, 119, 121, 64, 199, 140, 115, 254, 111, 43, 238, 108, 3, 82] = dN := by decide
  rw [SetBytes_val _ hb, gets_all (toD_len _ _ _), e] at h0
  refine ⟨_, hf, ?_, ?_⟩
  · rw [h0]; exact el_in _
  · rw [h0, el_val, show dN % 57896044618658097711785492504343953926634992332820282019728792003956564819968 = dN from by decide, dN_dF]

/-- a point in 32 bytes -/
@[irreducible] def encB (x y : Fp) : List Int := if x.val % 2 = 1 then (bB y).take 31 ++ [op2 .or .u8 ((bB y).getD 31 0) 128] else bB y

def eY (xs : List Int) : List Int := s_NBytes.f (s_FMul.f ((xs.drop 32).take 16 ++ s_Inv.f (xs.drop 48)))
def eO (xs : List Int) : Int := (s_Odd.f (s_FMul.f ((xs.drop 16).take 16 ++ s_Inv.f (xs.drop 48)))).getD 0 0
def f_Enc (xs : List Int) : List Int := if eO xs ≠ 0 then (eY xs).take 31 ++ [op2 .or .u8 ((eY xs).getD 31 0) 128] else eY xs

theorem or_bd {x : Int} (h : 0 ≤ x ∧ x ≤ 255) : 0 ≤ op2 .or .u8 x 128 ∧ op2 .or .u8 x 128 ≤ 255 := by
  obtain ⟨n, rfl⟩ := Int.eq_ofNat_of_zero_le h.1
  have hn : n < 2 ^ 8 := by omega
  have e1 := (bits_nat .u8 8 (by decide) (fun n a b => wrap_w (k := .u8) n a b) n 128 hn (by decide)).2
  have e : op2 .or .u8 (n : Int) 128 = ((n ||| 128 : Nat) : Int) := e1
  have := Nat.or_lt_two_pow hn (show 128 < 2 ^ 8 by decide)
  rw [e]; omega

theorem enc_parts {xs : List Int} (h : InB (WB 64) xs) : InB (WB 16) ((xs.drop 16).take 16) ∧ InB (WB 16) ((xs.drop 32).take 16) ∧ InB (WB 16) (xs.drop 48) := by
  obtain ⟨-, h1⟩ := InB.split (a := WB 16) (b := WB 48) h
  obtain ⟨h2, h3⟩ := InB.split (a := WB 16) (b := WB 32) h1
  obtain ⟨h4, h5⟩ := InB.split (a := WB 16) (b := WB 16) h3
  rw [List.drop_drop] at h4 h5
  rw [List.drop_drop] at h5
  exact ⟨h2, h4, h5⟩

theorem eY_bd {xs : List Int} (h : InB (WB 64) xs) : InB (BB 32) (eY xs) := by
  obtain ⟨-, h2, h3⟩ := enc_parts h
  exact s_NBytes.ok _ _ (show s_NBytes.bt (WB 16) = some (BB 32) by kernel_rfl) _ (FMul_bd h2 (Inv_bd h3))

theorem top_or {l : List Int} (h : InB (BB 32) l) : InB (BB 32) (l.take 31 ++ [op2 .or .u8 (l.getD 31 0) 128]) := by
  have hg := h.get 31 (0, 255) rfl
  have ho := or_bd hg
  have ht := (InB.split (a := BB 31) (b := BB 1) h).1
  exact InB.append (a := BB 31) (b := [(0, 255)]) ht ⟨ho.1, ho.2, trivial⟩

def s_Enc : Sem := Sem.of f_Enc (WB 64) (BB 32) (fun xs h => by
  unfold f_Enc
  split
  · exact top_or (eY_bd h)
  · exact eY_bd h)

theorem cov_Enc : Covered l_Enc s_Enc q_Enc := by
  intro xs hx
  have hx : InB (WB 64) xs := hx
  obtain ⟨b1, b2, b3⟩ := enc_parts hx
  have hs : s_Enc.f xs = f_Enc xs := rfl
  have key : ∀ {v : Nat → Int}, seg v 0 64 = xs → seg v 16 16 = (xs.drop 16).take 16 ∧ seg v 32 16 = (xs.drop 32).take 16 ∧ seg v 48 16 = xs.drop 48 := by
    intro v hin
    refine ⟨?_, ?_, ?_⟩
    · rw [← hin, seg_drop _ (by decide), seg_take _ (by decide)]
    · rw [← hin, seg_drop _ (by decide), seg_take _ (by decide)]
    · rw [← hin, seg_drop _ (by decide)]
  have lI : (s_Inv.f (xs.drop 48)).length = 16 := (Inv_bd b3).len
  by_cases ho : eO xs ≠ 0
  · obtain ⟨v, hv, hin, ⟨h64, h80, h96, h128, h144, h145⟩, -, hc, hout⟩ := E_Enc_0 xs hx
    obtain ⟨k1, k2, k3⟩ := key hin
    rw [k3, gets_all lI] at h64
    rw [k2, h64, gets_all (show _ = 16 from (FMul_bd b2 (Inv_bd b3)).len)] at h80
    rw [h80] at h96
    have h96 : seg v 96 32 = gets (eY xs) 0 32 := h96
    rw [gets_all (show _ = 32 from (eY_bd hx).len)] at h96
    rw [k1, h64, gets_all (show _ = 16 from (FMul_bd b1 (Inv_bd b3)).len)] at h128
    rw [h128] at h144
    have h144 : v 144 = eO xs := h144
    have t1 : seg v 96 31 = (eY xs).take 31 := by rw [← h96, seg_take v (by decide)]
    have t2 : v 127 = (eY xs).getD 31 0 := by rw [← h96, seg_getD 31 (by decide)]
    refine ⟨q_Enc_0, List.mem_of_getElem? (show q_Enc[0]? = some q_Enc_0 from rfl), hx, ?_, ?_⟩
    · show CondHold (vals l_Enc g_Enc_0 xs) _
      rw [hv, hc, h144]; exact ⟨ne_t ho, trivial⟩
    · show _ = outs_Enc_0.map (A.ev (vals l_Enc g_Enc_0 xs))
      rw [hv, hout, hs, f_Enc, if_pos ho, h145, t1, t2]
  · obtain ⟨v, hv, hin, ⟨h64, h80, h96, h128, h144⟩, -, hc, hout⟩ := E_Enc_1 xs hx
    obtain ⟨k1, k2, k3⟩ := key hin
    rw [k3, gets_all lI] at h64
    rw [k2, h64, gets_all (show _ = 16 from (FMul_bd b2 (Inv_bd b3)).len)] at h80
    rw [h80] at h96
    have h96 : seg v 96 32 = gets (eY xs) 0 32 := h96
    rw [gets_all (show _ = 32 from (eY_bd hx).len)] at h96
    rw [k1, h64, gets_all (show _ = 16 from (FMul_bd b1 (Inv_bd b3)).len)] at h128
    rw [h128] at h144
    have h144 : v 144 = eO xs := h144
    refine ⟨q_Enc_1, List.mem_of_getElem? (show q_Enc[1]? = some q_Enc_1 from rfl), hx, ?_, ?_⟩
    · show CondHold (vals l_Enc g_Enc_1 xs) _
      rw [hv, hc, h144]; exact ⟨ne_f ho, trivial⟩
    · show _ = outs_Enc_1.map (A.ev (vals l_Enc g_Enc_1 xs))
      rw [hv, hout, hs, f_Enc, if_neg ho, h96]

theorem four_split {d : List Int} (hd : d.length = 16) (x y z : Fp) : ((d ++ (nF x ++ (nF y ++ nF z))).drop 16).take 16 = nF x ∧ ((d ++ (nF x ++ (nF y ++ nF z))).drop 32).take 16 = nF y ∧ (d ++ (nF x ++ (nF y ++ nF z))).drop 48 = nF z := by
  have e1 : (d ++ (nF x ++ (nF y ++ nF z))).drop 16 = nF x ++ (nF y ++ nF z) := List.drop_left' hd
  have e2 : (d ++ (nF x ++ (nF y ++ nF z))).drop 32 = nF y ++ nF z := by
    rw [show 32 = 16 + 16 from rfl, ← List.drop_drop, e1]; exact List.drop_left' (nF_len _)
  have e3 : (d ++ (nF x ++ (nF y ++ nF z))).drop 48 = nF z := by
    rw [show 48 = 32 + 16 from rfl, ← List.drop_drop, e2]; exact List.drop_left' (nF_len _)
  rw [e1, e2, e3]
  exact ⟨List.take_left' (nF_len _), List.take_left' (nF_len _), rfl⟩

theorem Enc_val {d : List Int} (hd : d.length = 16) (x y z : Fp) : f_Enc (d ++ (nF x ++ (nF y ++ nF z))) = encB (x * inv z) (y * inv z) := by
  obtain ⟨e1, e2, e3⟩ := four_split hd x y z
  have hY : eY (d ++ (nF x ++ (nF y ++ nF z))) = bB (y * inv z) := by
    unfold eY
    rw [e2, e3, Inv_val, FMul_val, NBytes_nF]; rfl
  have hO : eO (d ++ (nF x ++ (nF y ++ nF z))) = if (x * inv z).val % 2 = 1 then 1 else 0 := by
    unfold eO
    rw [e1, e3, Inv_val, FMul_val, Odd_val, List.getD_cons_zero]
  unfold f_Enc encB
  rw [hY, hO]
  by_cases h : (x * inv z).val % 2 = 1
  · rw [if_pos h, if_pos (by decide), if_pos h]
  · rw [if_neg h, if_neg (by decide), if_neg h]

end Go.X

set_option maxRecDepth 20000
namespace Go.X

/-! ### a point out of 32 bytes, as it is said -/

def Z8 : List Int := [0, 0, 0, 0, 0, 0, 0, 0]
def O16 : List Int := [1, 0, 0, 0, 0, 0, 0, 0, 0, 0, 0, 0, 0, 0, 0, 0]

def dY (b : List Int) : List Int := s_Field.f ((s_Of32.f b).take 7 ++ [((s_Of32.f b).getD 7 0) % 2147483648, 0, 0, 0, 0, 0, 0, 0, 0])
def dS (b : List Int) : Int := (s_Bit.f (s_Of32.f b ++ [0, 0, 0, 0, 0, 0, 0, 0, 255])).getD 0 0
@[irreducible] def dR (d b : List Int) : List Int := f_Ratio (s_FSub.f (s_FMul.f (dY b ++ dY b) ++ O16) ++ s_FAdd.f (s_FMul.f (d ++ s_FMul.f (dY b ++ dY b)) ++ O16))
def dQ (d b : List Int) : Int := op2 .neq .i64 ((dR d b).getD 0 0 % 2) (dS b)

def f_Dec (xs : List Int) : List Int :=
  if (dR (xs.take 16) (xs.drop 16)).getD 16 0 ≠ 0 then
    (if dQ (xs.take 16) (xs.drop 16) ≠ 0 then s_FNeg.f ((dR (xs.take 16) (xs.drop 16)).take 16) ++ dY (xs.drop 16) ++ [1, 1] else (dR (xs.take 16) (xs.drop 16)).take 16 ++ dY (xs.drop 16) ++ [1, 1])
  else List.replicate 34 0

theorem Of8_in {b : List Int} (hb : InB (BB 32) b) : InB (WB 16) ((s_Of32.f b).take 7 ++ [((s_Of32.f b).getD 7 0) % 2147483648, 0, 0, 0, 0, 0, 0, 0, 0]) := by
  have h8 := of32_in hb
  have hd : InD 4294967296 (s_Of32.f b) := InB_InD (b := 4294967296) (n := 8) h8
  have ht : InD 4294967296 ((s_Of32.f b).take 7) := by
    rw [← List.take_append_drop 7 (s_Of32.f b)] at hd
    exact InD_left hd
  have hl : ((s_Of32.f b).take 7).length = 7 := by rw [List.length_take, h8.len]; rfl
  refine InD_InB (b := 4294967296) ?_ (InD_append ht ⟨?_, ?_, by decide, by decide, by decide, by decide, by decide, by decide, by decide, by decide, by decide, by decide, by decide, by decide, by decide, by decide, by decide, by decide, trivial⟩)
  · rw [List.length_append, hl]; rfl
  · exact Int.emod_nonneg _ (by decide)
  · exact Int.lt_of_lt_of_le (Int.emod_lt_of_pos _ (by decide)) (by decide)

theorem Field_bd {x : List Int} (h : InB (WB 16) x) : InB (WB 16) (s_Field.f x) :=
  s_Field.ok _ _ (show s_Field.bt (WB 16) = some (WB 16) by kernel_rfl) _ h
theorem FAdd_bd {x y : List Int} (hx : InB (WB 16) x) (hy : InB (WB 16) y) : InB (WB 16) (s_FAdd.f (x ++ y)) :=
  s_FAdd.ok _ _ (show s_FAdd.bt (WB 32) = some (WB 16) by kernel_rfl) _ (sub_in hx hy)
theorem FSub_bd {x y : List Int} (hx : InB (WB 16) x) (hy : InB (WB 16) y) : InB (WB 16) (s_FSub.f (x ++ y)) :=
  s_FSub.ok _ _ (show s_FSub.bt (WB 32) = some (WB 16) by kernel_rfl) _ (sub_in hx hy)

theorem O16_in : InB (WB 16) O16 := by rw [O16, ← nF_one]; exact nF_in 1
theorem dY_bd {b : List Int} (hb : InB (BB 32) b) : InB (WB 16) (dY b) := Field_bd (Of8_in hb)
theorem dY2_bd {b : List Int} (hb : InB (BB 32) b) : InB (WB 16) (s_FMul.f (dY b ++ dY b)) := FMul_bd (dY_bd hb) (dY_bd hb)
theorem dU_bd {b : List Int} (hb : InB (BB 32) b) : InB (WB 16) (s_FSub.f (s_FMul.f (dY b ++ dY b) ++ O16)) := FSub_bd (dY2_bd hb) O16_in
theorem dM_bd {d b : List Int} (hd : InB (WB 16) d) (hb : InB (BB 32) b) : InB (WB 16) (s_FMul.f (d ++ s_FMul.f (dY b ++ dY b))) := FMul_bd hd (dY2_bd hb)
theorem dV_bd {d b : List Int} (hd : InB (WB 16) d) (hb : InB (BB 32) b) : InB (WB 16) (s_FAdd.f (s_FMul.f (d ++ s_FMul.f (dY b ++ dY b)) ++ O16)) := FAdd_bd (dM_bd hd hb) O16_in
theorem dR_eq (d b : List Int) : dR d b = f_Ratio (s_FSub.f (s_FMul.f (dY b ++ dY b) ++ O16) ++ s_FAdd.f (s_FMul.f (d ++ s_FMul.f (dY b ++ dY b)) ++ O16)) := by
  unfold dR; rfl
theorem Ratio_f : s_Ratio.f = f_Ratio := rfl
theorem Ratio_ok (xs : List Int) (h : InB (WB 32) xs) (y : List Int) (e : y = f_Ratio xs) : InB (WB 16 ++ [(0, 1)]) y := by
  rw [e, ← Ratio_f]
  exact s_Ratio.ok (WB 32) (WB 16 ++ [(0, 1)]) (by kernel_rfl) xs h
theorem dR_bd {d b : List Int} (hd : InB (WB 16) d) (hb : InB (BB 32) b) : InB (WB 16 ++ [(0, 1)]) (dR d b) := by
  have h1 := dU_bd hb
  have h2 := dV_bd hd hb
  exact Ratio_ok _ (sub_in h1 h2) _ (dR_eq d b)
theorem dR16 {d b : List Int} (hd : InB (WB 16) d) (hb : InB (BB 32) b) : InB (WB 16) ((dR d b).take 16) := (InB.split (a := WB 16) (b := [(0, 1)]) (dR_bd hd hb)).1

theorem dec_in {xs : List Int} (h : InB (WB 16 ++ BB 32) xs) : InB (WB 16) (xs.take 16) ∧ InB (BB 32) (xs.drop 16) := InB.split (a := WB 16) (b := BB 32) h

abbrev bDo : Bd := WB 16 ++ WB 16 ++ [(0, 1), (0, 1)]

theorem eleven : InB [(0, 1), (0, 1)] [(1 : Int), 1] := ⟨by decide, by decide, by decide, by decide, trivial⟩

theorem pt_in {x y : List Int} (hx : InB (WB 16) x) (hy : InB (WB 16) y) : InB bDo (x ++ y ++ [1, 1]) :=
  InB.append (a := WB 16 ++ WB 16) (b := [(0, 1), (0, 1)]) (InB.append hx hy) eleven

theorem z34_in : InB bDo (List.replicate 34 0) :=
  InB.append (a := WB 16 ++ WB 16) (b := [(0, 1), (0, 1)]) (x := List.replicate 32 0) (y := [0, 0]) (InB.append (a := WB 16) (b := WB 16) (x := List.replicate 16 0) (y := List.replicate 16 0) Z_in Z_in) ⟨by decide, by decide, by decide, by decide, trivial⟩

theorem Dec_bd (xs : List Int) (h : InB (WB 16 ++ BB 32) xs) : InB bDo (f_Dec xs) := by
  obtain ⟨hd, hb⟩ := dec_in h
  have hr := dR16 hd hb
  have hy := dY_bd hb
  unfold f_Dec
  by_cases h1 : (dR (xs.take 16) (xs.drop 16)).getD 16 0 ≠ 0
  · rw [if_pos h1]
    by_cases h2 : dQ (xs.take 16) (xs.drop 16) ≠ 0
    · rw [if_pos h2]; exact pt_in (FNeg_bd hr) hy
    · rw [if_neg h2]; exact pt_in hr hy
  · rw [if_neg h1]; exact z34_in

def s_Dec : Sem := Sem.of f_Dec (WB 16 ++ BB 32) bDo Dec_bd

theorem seg7_app {v : Nat → Int} {x : Nat} {l : List Int} (h : seg v x 8 = l) : seg v x 7 = l.take 7 ∧ v (x + 7) = l.getD 7 0 := by
  refine ⟨?_, ?_⟩
  · rw [← h, seg_take v (by decide)]
  · rw [← h, seg_getD 7 (by decide)]

theorem cov_Dec : Covered l_Dec s_Dec q_Dec := by
  intro xs hx
  have hx : InB (WB 16 ++ BB 32) xs := hx
  obtain ⟨hd, hb⟩ := dec_in hx
  have hs : s_Dec.f xs = f_Dec xs := rfl
  have lO : (s_Of32.f (xs.drop 16)).length = 8 := (of32_in hb).len
  have l16 : ∀ {l : List Int}, InB (WB 16) l → l.length = 16 := fun h => h.len
  have lR : (dR (xs.take 16) (xs.drop 16)).length = 17 := (dR_bd hd hb).len
  have key : ∀ {v : Nat → Int}, seg v 0 48 = xs → seg v 48 8 = gets (s_Of32.f (seg v 16 32)) 0 8 → v 56 = (s_Bit.f (seg v 48 8 ++ [0, 0, 0, 0, 0, 0, 0, 0, 255])).getD 0 0 → v 57 = (v 55) % 2147483648 →
      seg v 58 16 = gets (s_Field.f (seg v 48 7 ++ [v 57, 0, 0, 0, 0, 0, 0, 0, 0])) 0 16 → seg v 74 16 = gets (s_FMul.f (seg v 58 16 ++ seg v 58 16)) 0 16 → v 90 = (s_Small.f ([1])).getD 0 0 →
      seg v 91 16 = gets (s_FSub.f (seg v 74 17 ++ [0, 0, 0, 0, 0, 0, 0, 0, 0, 0, 0, 0, 0, 0, 0])) 0 16 → seg v 107 16 = gets (s_FMul.f (seg v 0 16 ++ seg v 74 16)) 0 16 → v 123 = (s_Small.f ([1])).getD 0 0 →
      seg v 124 16 = gets (s_FAdd.f (seg v 107 17 ++ [0, 0, 0, 0, 0, 0, 0, 0, 0, 0, 0, 0, 0, 0, 0])) 0 16 → seg v 140 17 = gets (s_Ratio.f (seg v 91 16 ++ seg v 124 16)) 0 17 →
      v 56 = dS (xs.drop 16) ∧ seg v 58 16 = dY (xs.drop 16) ∧ seg v 140 16 = (dR (xs.take 16) (xs.drop 16)).take 16 ∧ v 156 = (dR (xs.take 16) (xs.drop 16)).getD 16 0 ∧ v 140 = (dR (xs.take 16) (xs.drop 16)).getD 0 0 := by
    intro v hin h48 h56 h57 h58 h74 h90 h91 h107 h123 h124 h140
    have e0 : seg v 0 16 = xs.take 16 := by rw [← hin, seg_take _ (by decide)]
    have e1 : seg v 16 32 = xs.drop 16 := by rw [← hin, seg_drop _ (by decide)]
    rw [e1, gets_all lO] at h48
    obtain ⟨k7, k8⟩ := seg7_app h48
    have k8 : v 55 = _ := k8
    rw [h48] at h56
    rw [k7, h57, k8] at h58
    have h58 : seg v 58 16 = gets (dY (xs.drop 16)) 0 16 := h58
    rw [gets_all (l16 (dY_bd hb))] at h58
    rw [h58, gets_all (l16 (dY2_bd hb))] at h74
    rw [Small_val (by decide) (by decide)] at h90 h123
    have a1 : seg v 74 17 ++ [0, 0, 0, 0, 0, 0, 0, 0, 0, 0, 0, 0, 0, 0, 0] = s_FMul.f (dY (xs.drop 16) ++ dY (xs.drop 16)) ++ O16 := by
      have : seg v 74 17 = seg v 74 16 ++ [v 90] := seg_add v 16 1 74
      rw [this, h74, h90, List.append_assoc]; rfl
    rw [a1, gets_all (l16 (dU_bd hb))] at h91
    rw [e0, h74, gets_all (l16 (dM_bd hd hb))] at h107
    have a2 : seg v 107 17 ++ [0, 0, 0, 0, 0, 0, 0, 0, 0, 0, 0, 0, 0, 0, 0] = s_FMul.f (xs.take 16 ++ s_FMul.f (dY (xs.drop 16) ++ dY (xs.drop 16))) ++ O16 := by
      have : seg v 107 17 = seg v 107 16 ++ [v 123] := seg_add v 16 1 107
      rw [this, h107, h123, List.append_assoc]; rfl
    rw [a2, gets_all (l16 (dV_bd hd hb))] at h124
    rw [h91, h124] at h140
    rw [Ratio_f, ← dR_eq] at h140
    obtain ⟨r1, r2⟩ := seg17 h140 lR
    refine ⟨h56, h58, r1, r2, ?_⟩
    have : (seg v 140 16).getD 0 0 = v 140 := seg_getD 0 (by decide)
    rw [← this, r1, List.getD_eq_getElem?_getD, List.getElem?_take, if_pos (by decide), ← List.getD_eq_getElem?_getD]
  by_cases hok : (dR (xs.take 16) (xs.drop 16)).getD 16 0 ≠ 0
  · by_cases hq : dQ (xs.take 16) (xs.drop 16) ≠ 0
    · obtain ⟨v, hv, hin, ⟨h48, h56, h57, h58, h74, h90, h91, h107, h123, h124, h140, h157, h158, h159, h160, h161, h177⟩, -, hc, ho⟩ := E_Dec_1 xs hx
      obtain ⟨k1, k2, k3, k4, k5⟩ := key hin h48 h56 h57 h58 h74 h90 h91 h107 h123 h124 h140
      rw [k4, if_pos hok] at h157
      rw [h159, h158, k5, k1] at h160
      have h160 : v 160 = dQ (xs.take 16) (xs.drop 16) := h160
      have hr := dR16 hd hb
      rw [k3, gets_all (show _ = 16 from (FNeg_bd hr).len)] at h161
      rw [Small_val (by decide) (by decide)] at h177
      have h177 : v 177 = 1 := h177
      refine ⟨q_Dec_1, List.mem_of_getElem? (show q_Dec[1]? = some q_Dec_1 from rfl), hx, ?_, ?_⟩
      · show CondHold (vals l_Dec g_Dec_1 xs) _
        rw [hv, hc, h160, h157]; exact ⟨ne_t hq, rfl, trivial⟩
      · show _ = outs_Dec_1.map (A.ev (vals l_Dec g_Dec_1 xs))
        rw [hv, ho, hs, f_Dec, if_pos hok, if_pos hq, h161, k2, h177]
    · obtain ⟨v, hv, hin, ⟨h48, h56, h57, h58, h74, h90, h91, h107, h123, h124, h140, h157, h158, h159, h160, h161⟩, -, hc, ho⟩ := E_Dec_2 xs hx
      obtain ⟨k1, k2, k3, k4, k5⟩ := key hin h48 h56 h57 h58 h74 h90 h91 h107 h123 h124 h140
      rw [k4, if_pos hok] at h157
      rw [h159, h158, k5, k1] at h160
      have h160 : v 160 = dQ (xs.take 16) (xs.drop 16) := h160
      rw [Small_val (by decide) (by decide)] at h161
      have h161 : v 161 = 1 := h161
      refine ⟨q_Dec_2, List.mem_of_getElem? (show q_Dec[2]? = some q_Dec_2 from rfl), hx, ?_, ?_⟩
      · show CondHold (vals l_Dec g_Dec_2 xs) _
        rw [hv, hc, h160, h157]; exact ⟨ne_f hq, rfl, trivial⟩
      · show _ = outs_Dec_2.map (A.ev (vals l_Dec g_Dec_2 xs))
        rw [hv, ho, hs, f_Dec, if_pos hok, if_neg hq, k3, k2, h161]
  · obtain ⟨v, hv, hin, ⟨h48, h56, h57, h58, h74, h90, h91, h107, h123, h124, h140, h157⟩, -, hc, ho⟩ := E_Dec_0 xs hx
    obtain ⟨k1, k2, k3, k4, k5⟩ := key hin h48 h56 h57 h58 h74 h90 h91 h107 h123 h124 h140
    rw [k4, if_neg hok] at h157
    refine ⟨q_Dec_0, List.mem_of_getElem? (show q_Dec[0]? = some q_Dec_0 from rfl), hx, ?_, ?_⟩
    · show CondHold (vals l_Dec g_Dec_0 xs) _
      rw [hv, hc, h157]; exact ⟨rfl, trivial⟩
    · show _ = outs_Dec_0.map (A.ev (vals l_Dec g_Dec_0 xs))
      rw [hv, ho, hs, f_Dec, if_neg hok]; rfl

end Go.X

set_option maxRecDepth 20000
namespace Go.X

theorem of_mask {b : List Int} (hb : InB (BB 32) b) : φ (ofD 4294967296 ((s_Of32.f b).take 7 ++ [((s_Of32.f b).getD 7 0) % 2147483648, 0, 0, 0, 0, 0, 0, 0, 0])) = eF b := by
  obtain ⟨A0, A1⟩ := ofD_bound (b := 256) (by decide) (BB_in hb)
  rw [hb.len] at A1
  have A1 : ofD 256 b < 115792089237316195423570985008687907853269984665640564039457584007913129639936 := A1
  unfold eF
  rw [el_val, Of32_val b hb]
  generalize ofD 256 b = n at *
  have e1 : toD 4294967296 8 n = toD 4294967296 7 n ++ toD 4294967296 1 (n / 4294967296 ^ 7) := toD_split (by decide) 7 1 n
  have e2 : (toD 4294967296 8 n).take 7 = toD 4294967296 7 n := by rw [e1]; exact List.take_left' (toD_len _ _ _)
  have e3 : (toD 4294967296 8 n).getD 7 0 = (n / 4294967296 ^ 7) % 4294967296 := by
    rw [e1, List.getD_eq_getElem?_getD, List.getElem?_append_right (by rw [toD_len]; decide), toD_len]; rfl
  rw [e2, e3, ofD_append, toD_len, ofD_toD (by decide)]
  have e4 : ofD 4294967296 [(n / 4294967296 ^ 7) % 4294967296 % 2147483648, 0, 0, 0, 0, 0, 0, 0, 0] = (n / 4294967296 ^ 7) % 4294967296 % 2147483648 + 4294967296 * ofD 4294967296 (List.replicate 8 0) := rfl
  rw [e4, tz]
  have e7 : (4294967296 : Int) ^ 7 = 26959946667150639794667015087019630673637144422540572481103610249216 := by decide
  rw [e7]
  congr 1
  omega

theorem dY_val {b : List Int} (hb : InB (BB 32) b) : dY b = nF (eF b) := by
  unfold dY
  rw [Field_val _ (Of8_in hb), of_mask hb]

/-- the highest bit of 32 bytes -/
def sgB (b : List Int) : Int := ofD 256 b / 57896044618658097711785492504343953926634992332820282019728792003956564819968

theorem sgB_01 {b : List Int} (hb : InB (BB 32) b) : sgB b = 0 ∨ sgB b = 1 := by
  obtain ⟨A0, A1⟩ := ofD_bound (b := 256) (by decide) (BB_in hb)
  rw [hb.len] at A1
  have A1 : ofD 256 b < 115792089237316195423570985008687907853269984665640564039457584007913129639936 := A1
  unfold sgB; omega

theorem Z8_in : InB (WB 8) Z8 := ⟨by decide, by decide, by decide, by decide, by decide, by decide, by decide, by decide, by decide, by decide, by decide, by decide, by decide, by decide, by decide, by decide, trivial⟩

theorem dS_val {b : List Int} (hb : InB (BB 32) b) : dS b = sgB b := by
  have h8 := of32_in hb
  have hin : InB (WB 16) (s_Of32.f b ++ Z8) := InB.append (a := WB 8) (b := WB 8) h8 Z8_in
  have hbit := Bit_val hin (n := 255) (by decide)
  have e : dS b = bitOf (s_Of32.f b ++ Z8) ((255 : Nat) : Int) := by
    unfold dS bitOf
    rw [List.append_assoc]; rfl
  have e0 : ofD 4294967296 Z8 = 0 := by decide
  obtain ⟨A0, A1⟩ := ofD_bound (b := 256) (by decide) (BB_in hb)
  rw [hb.len] at A1
  have A1 : ofD 256 b < 115792089237316195423570985008687907853269984665640564039457584007913129639936 := A1
  have hn : ofD 4294967296 (s_Of32.f b ++ Z8) = ofD 256 b := by
    rw [ofD_append, e0, Of32_val b hb, ofD_toD (by decide), Int.mul_zero, Int.add_zero]
    exact Int.emod_eq_of_lt A0 A1
  have h2 : (2 : Int) ^ 255 = 57896044618658097711785492504343953926634992332820282019728792003956564819968 := by decide
  rw [e, hbit, hn, h2]
  have := sgB_01 hb
  unfold sgB at *
  omega

theorem absF_even (x : Fp) : (absF x).val % 2 = 0 := by
  unfold absF
  by_cases h : x.val % 2 = 1
  · rw [if_pos h]
    have hl := x.isLt
    have hv : (-x).val = pN - x.val := by
      rw [Fin.val_neg', Nat.mod_eq_of_lt (by omega)]
    have hp : pN % 2 = 1 := by decide
    rw [hv]; omega
  · rw [if_neg h]; omega

def uF (y : Fp) : Fp := y * y - 1
def vF (y : Fp) : Fp := dF * (y * y) + 1
/-- the first coordinate that goes with the second one and a bit -/
def xF (y : Fp) (s : Int) : Fp := if s = 1 then -sqF (uF y) (vF y) else sqF (uF y) (vF y)

theorem O16_nF : O16 = nF 1 := nF_one.symm

theorem dR_val {b : List Int} (hb : InB (BB 32) b) : dR (nF dF) b = nF (sqF (uF (eF b)) (vF (eF b))) ++ [if okF (uF (eF b)) (vF (eF b)) then 1 else 0] := by
  rw [dR_eq, dY_val hb, O16_nF, FMul_val, FSub_val, FMul_val, FAdd_val, Ratio_val]
  rfl

theorem neq_i {a b : Int} : op2 .neq .i64 a b = if a = b then 0 else 1 := by
  have e : op2 .neq .i64 a b = b2i (a != b) := rfl
  rw [e]
  by_cases h : a = b
  · subst h; rw [if_pos rfl, bne_self_eq_false]; rfl
  · rw [if_neg h, bne_iff_ne.2 h]; rfl

theorem dQ_val {b : List Int} (hb : InB (BB 32) b) : dQ (nF dF) b = sgB b := by
  unfold dQ
  rw [dR_val hb, dS_val hb, neq_i]
  have h0 : (nF (sqF (uF (eF b)) (vF (eF b))) ++ [if okF (uF (eF b)) (vF (eF b)) then (1 : Int) else 0]).getD 0 0 = ((sqF (uF (eF b)) (vF (eF b))).val : Int) % 4294967296 := rfl
  rw [h0]
  have he : (sqF (uF (eF b)) (vF (eF b))).val % 2 = 0 := absF_even _
  have := sgB_01 hb
  by_cases h : ((sqF (uF (eF b)) (vF (eF b))).val : Int) % 4294967296 % 2 = sgB b
  · rw [if_pos h]; omega
  · rw [if_neg h]; omega

theorem Dec_val {b : List Int} (hb : InB (BB 32) b) : f_Dec (nF dF ++ b) = if okF (uF (eF b)) (vF (eF b)) then nF (xF (eF b) (sgB b)) ++ nF (eF b) ++ [1, 1] else List.replicate 34 0 := by
  unfold f_Dec
  rw [take_nF, drop_nF, dQ_val hb, dR_val hb, getD16 (nF_len _), List.take_left' (nF_len _), dY_val hb]
  by_cases hok : okF (uF (eF b)) (vF (eF b))
  · rw [if_pos hok, if_pos (by decide), if_pos hok]
    unfold xF
    rcases sgB_01 hb with h | h
    · rw [if_neg (by rw [h]; decide), if_neg (by rw [h]; decide)]
    · rw [if_pos (by rw [h]; decide), if_pos h, FNeg_val]
  · rw [if_neg hok, if_neg (by decide), if_neg hok]

end Go.X

set_option maxRecDepth 20000
namespace Go.X.Z
open Go.Proofs
noncomputable section
def T_sd : Tmpl := ⟨12, [], [], 0, 16, true, .one (.agg (us .u32 0 16)), [], []⟩
def p_sd : Path := ⟨[], [], ⟨.one (.agg (us .u32 34 16)), [(us .u32 34 16)], ⟨g_sd, 50, [.pre 2 (vs 18 16), .pre 1 ([(.v 0)] ++ (ls 0 15) ++ (vs 2 16)), .pre 3 ([(.v 1)] ++ (ls 0 15)), .pre 0 [(.l 121666)], .pre 0 [(.l 121665)]], [], [0]⟩⟩, ⟨outs_sd, []⟩, 60⟩
theorem r_sd : runBody Tryz.prog [T_Small, T_FMul, T_FNeg, T_Inv] [] Tryz.f12 p_sd.fuel T_sd.args T_sd.mem T_sd.nin p_sd.orc = some p_sd.out := by kernel_rfl
theorem good_sd (W : World0 Tryz.prog) : Good W T_sd s_sd := straight (l := l_sd) (p := p_sd) (by exact ⟨good_Small W, good_FMul W, good_FNeg W, good_Inv W, trivial⟩) Tryz.func12 Tryz.call12 r_sd (by kernel_rfl) rfl

def T_Edw : Tmpl := ⟨4, [], [], 0, 16, true, .one (.agg (us .u32 0 16)), [], []⟩
def p_Edw : Path := ⟨[], [], ⟨.one (.agg (us .u32 0 16)), [(us .u32 0 16)], ⟨g_Edw, 16, [.pre 0 []], [], [0]⟩⟩, ⟨outs_Edw, []⟩, 60⟩
theorem r_Edw : runBody Tryz.prog [T_sd] [] Tryz.f4 p_Edw.fuel T_Edw.args T_Edw.mem T_Edw.nin p_Edw.orc = some p_Edw.out := by kernel_rfl
theorem good_Edw (W : World0 Tryz.prog) : Good W T_Edw s_Edw := straight (l := l_Edw) (p := p_Edw) (by exact ⟨good_sd W, trivial⟩) Tryz.func4 Tryz.call4 r_Edw (by kernel_rfl) rfl

def T_Dec : Tmpl := ⟨14, [.one (.agg (us .u32 0 16)), .one (.lf (.slc 0 0 32 none))], [(us .u8 16 32)], 48, 34, true, .tup [.agg ((us .u32 48 33) ++ (lits .u32 0 15)), .lf (.bool (.v 81))], [none], []⟩
def p_Dec_0 : Path := ⟨((bs 16 0 4294967295) ++ (bs 32 0 255)), [true], ⟨.tup [.agg (lits .u32 0 48), .lf (.bool (.l 0))], [(us .u8 16 32), (us .u32 0 16), (lits .u32 0 48), ((us .u32 48 7) ++ ([.int .u32 (.v 57)] ++ (lits .u32 0 8))), (us .u32 58 16), (us .u32 74 16), (us .u32 140 16)], ⟨g_Dec_0, 158, [.cond (.v 157) true, .pre 9 ((vs 91 16) ++ (vs 124 16)), .pre 5 ((vs 107 17) ++ (ls 0 15)), .pre 2 [(.l 1)], .pre 7 ((vs 0 16) ++ (vs 74 16)), .pre 6 ((vs 74 17) ++ (ls 0 15)), .pre 2 [(.l 1)], .pre 7 ((vs 58 16) ++ (vs 58 16)), .pre 4 ((vs 48 7) ++ [(.v 57)] ++ (ls 0 8)), .pre 3 ((vs 48 8) ++ (ls 0 8) ++ [(.l 255)]), .pre 0 (vs 16 32)], [], [2, 6, 5, 4, 3, 3]⟩⟩, ⟨outs_Dec_0, []⟩, 60⟩
theorem r_Dec_0 : runBody Tryz.prog [T_Of32, T_Of64, T_Small, T_Bit, T_Field, T_FAdd, T_FSub, T_FMul, T_FNeg, T_Ratio] [] Tryz.f14 p_Dec_0.fuel T_Dec.args T_Dec.mem T_Dec.nin p_Dec_0.orc = some p_Dec_0.out := by kernel_rfl
def p_Dec_1 : Path := ⟨((bs 16 0 4294967295) ++ (bs 32 0 255)), [false, true], ⟨.tup [.agg ((us .u32 161 16) ++ (us .u32 58 16) ++ ([.int .u32 (.v 177)] ++ (lits .u32 0 15))), .lf (.bool (.l 1))], [(us .u8 16 32), (us .u32 0 16), ((us .u32 161 16) ++ (us .u32 58 16) ++ ([.int .u32 (.v 177)] ++ (lits .u32 0 15))), ((us .u32 48 7) ++ ([.int .u32 (.v 57)] ++ (lits .u32 0 8))), (us .u32 58 16), (us .u32 74 16), (us .u32 161 16)], ⟨g_Dec_1, 178, [.pre 2 [(.l 1)], .pre 8 (vs 140 16), .cond (.v 160) true, .cond (.v 157) false, .pre 9 ((vs 91 16) ++ (vs 124 16)), .pre 5 ((vs 107 17) ++ (ls 0 15)), .pre 2 [(.l 1)], .pre 7 ((vs 0 16) ++ (vs 74 16)), .pre 6 ((vs 74 17) ++ (ls 0 15)), .pre 2 [(.l 1)], .pre 7 ((vs 58 16) ++ (vs 58 16)), .pre 4 ((vs 48 7) ++ [(.v 57)] ++ (ls 0 8)), .pre 3 ((vs 48 8) ++ (ls 0 8) ++ [(.l 255)]), .pre 0 (vs 16 32)], [], [2, 6, 6, 5, 4, 3, 3]⟩⟩, ⟨outs_Dec_1, []⟩, 60⟩
theorem r_Dec_1 : runBody Tryz.prog [T_Of32, T_Of64, T_Small, T_Bit, T_Field, T_FAdd, T_FSub, T_FMul, T_FNeg, T_Ratio] [] Tryz.f14 p_Dec_1.fuel T_Dec.args T_Dec.mem T_Dec.nin p_Dec_1.orc = some p_Dec_1.out := by kernel_rfl
def p_Dec_2 : Path := ⟨((bs 16 0 4294967295) ++ (bs 32 0 255)), [false, false], ⟨.tup [.agg ((us .u32 140 16) ++ (us .u32 58 16) ++ ([.int .u32 (.v 161)] ++ (lits .u32 0 15))), .lf (.bool (.l 1))], [(us .u8 16 32), (us .u32 0 16), ((us .u32 140 16) ++ (us .u32 58 16) ++ ([.int .u32 (.v 161)] ++ (lits .u32 0 15))), ((us .u32 48 7) ++ ([.int .u32 (.v 57)] ++ (lits .u32 0 8))), (us .u32 58 16), (us .u32 74 16), (us .u32 140 16)], ⟨g_Dec_2, 162, [.pre 2 [(.l 1)], .cond (.v 160) false, .cond (.v 157) false, .pre 9 ((vs 91 16) ++ (vs 124 16)), .pre 5 ((vs 107 17) ++ (ls 0 15)), .pre 2 [(.l 1)], .pre 7 ((vs 0 16) ++ (vs 74 16)), .pre 6 ((vs 74 17) ++ (ls 0 15)), .pre 2 [(.l 1)], .pre 7 ((vs 58 16) ++ (vs 58 16)), .pre 4 ((vs 48 7) ++ [(.v 57)] ++ (ls 0 8)), .pre 3 ((vs 48 8) ++ (ls 0 8) ++ [(.l 255)]), .pre 0 (vs 16 32)], [], [2, 6, 5, 4, 3, 3]⟩⟩, ⟨outs_Dec_2, []⟩, 60⟩
theorem r_Dec_2 : runBody Tryz.prog [T_Of32, T_Of64, T_Small, T_Bit, T_Field, T_FAdd, T_FSub, T_FMul, T_FNeg, T_Ratio] [] Tryz.f14 p_Dec_2.fuel T_Dec.args T_Dec.mem T_Dec.nin p_Dec_2.orc = some p_Dec_2.out := by kernel_rfl
theorem good_Dec (W : World0 Tryz.prog) : Good W T_Dec s_Dec := paths (ts := [T_Of32, T_Of64, T_Small, T_Bit, T_Field, T_FAdd, T_FSub, T_FMul, T_FNeg, T_Ratio]) (l := l_Dec) (ps := [p_Dec_0, p_Dec_1, p_Dec_2]) (by exact ⟨good_Of32 W, good_Of64 W, good_Small W, good_Bit W, good_Field W, good_FAdd W, good_FSub W, good_FMul W, good_FNeg W, good_Ratio W, trivial⟩) (by kernel_rfl) Tryz.func14 Tryz.call14 (by kernel_rfl) (by
  intro p hp
  simp only [List.mem_cons, List.not_mem_nil, or_false] at hp
  rcases hp with rfl | rfl | rfl
  · exact ⟨r_Dec_0, by kernel_rfl⟩
  · exact ⟨r_Dec_1, by kernel_rfl⟩
  · exact ⟨r_Dec_2, by kernel_rfl⟩
  ) (paths_fp cov_Dec (by kernel_rfl))

def T_Enc : Tmpl := ⟨10, [.one (.agg (us .u32 0 16)), .one (.agg (us .u32 16 48))], [], 64, 32, true, .one (.lf (.slc 0 0 32 (some 32))), [], [(us .u8 64 32)]⟩
def p_Enc_0 : Path := ⟨(bs 64 0 4294967295), [true], ⟨.one (.lf (.slc 3 0 32 (some 32))), [(us .u32 0 16), (us .u32 16 48), (us .u32 64 16), ((us .u8 96 31) ++ [.int .u8 (.v 145)])], ⟨g_Enc_0, 146, [.cond (.v 144) true, .pre 2 (vs 128 16), .pre 1 ((vs 16 16) ++ (vs 64 16)), .pre 0 (vs 80 16), .pre 1 ((vs 32 16) ++ (vs 64 16)), .pre 3 (vs 48 16)], [], [3, 2]⟩⟩, ⟨outs_Enc_0, [3]⟩, 60⟩
theorem r_Enc_0 : runBody Tryz.prog [T_NBytes, T_FMul, T_Odd, T_Inv] [] Tryz.f10 p_Enc_0.fuel T_Enc.args T_Enc.mem T_Enc.nin p_Enc_0.orc = some p_Enc_0.out := by kernel_rfl
def p_Enc_1 : Path := ⟨(bs 64 0 4294967295), [false], ⟨.one (.lf (.slc 3 0 32 (some 32))), [(us .u32 0 16), (us .u32 16 48), (us .u32 64 16), (us .u8 96 32)], ⟨g_Enc_1, 145, [.cond (.v 144) false, .pre 2 (vs 128 16), .pre 1 ((vs 16 16) ++ (vs 64 16)), .pre 0 (vs 80 16), .pre 1 ((vs 32 16) ++ (vs 64 16)), .pre 3 (vs 48 16)], [], [2]⟩⟩, ⟨outs_Enc_1, [3]⟩, 60⟩
theorem r_Enc_1 : runBody Tryz.prog [T_NBytes, T_FMul, T_Odd, T_Inv] [] Tryz.f10 p_Enc_1.fuel T_Enc.args T_Enc.mem T_Enc.nin p_Enc_1.orc = some p_Enc_1.out := by kernel_rfl
theorem good_Enc (W : World0 Tryz.prog) : Good W T_Enc s_Enc := paths (ts := [T_NBytes, T_FMul, T_Odd, T_Inv]) (l := l_Enc) (ps := [p_Enc_0, p_Enc_1]) (by exact ⟨good_NBytes W, good_FMul W, good_Odd W, good_Inv W, trivial⟩) (by kernel_rfl) Tryz.func10 Tryz.call10 (by kernel_rfl) (by
  intro p hp
  simp only [List.mem_cons, List.not_mem_nil, or_false] at hp
  rcases hp with rfl | rfl
  · exact ⟨r_Enc_0, by kernel_rfl⟩
  · exact ⟨r_Enc_1, by kernel_rfl⟩
  ) (paths_fp cov_Enc (by kernel_rfl))

def T_feOneP : Tmpl := ⟨66, [], [], 0, 0, true, .one (.lf (.ptr 0 0)), [], [([.int .u64 (.l 1)] ++ (lits .u64 0 4))]⟩
def p_feOneP : Path := ⟨[], [], ⟨.one (.lf (.ptr 0 0)), [([.int .u64 (.l 1)] ++ (lits .u64 0 4))], ⟨g_feOneP, 0, [.pre 0 []], [], [0]⟩⟩, ⟨outs_feOneP, [0]⟩, 60⟩
theorem r_feOneP : runBody Tryz.prog [T_One] [] Tryz.f66 p_feOneP.fuel T_feOneP.args T_feOneP.mem T_feOneP.nin p_feOneP.orc = some p_feOneP.out := by kernel_rfl
theorem good_feOneP (W : World0 Tryz.prog) : Good W T_feOneP s_feOneP := straight (l := l_feOneP) (p := p_feOneP) (by exact ⟨good_One W, trivial⟩) Tryz.func66 Tryz.call66 r_feOneP (by kernel_rfl) rfl

def T_dP : Tmpl := ⟨67, [], [], 0, 5, true, .one (.lf (.ptr 0 0)), [], [(us .u64 0 5)]⟩
def p_dP : Path := ⟨[], [], ⟨.one (.lf (.ptr 0 0)), [(us .u64 0 5), [.int .u8 (.l 163), .int .u8 (.l 120), .int .u8 (.l 89), .int .u8 (.l 19), .int .u8 (.l 202), .int .u8 (.l 77), .int .u8 (.l 235), .int .u8 (.l 117), .int .u8 (.l 171), .int .u8 (.l 216), .int .u8 (.l 65), .int .u8 (.l 65), .int .u8 (.l 77), .int .u8 (.l 10), .int .u8 (.l 112), .int .u8 (.l 0), .int .u8 (.l 152), .int .u8 (.l 232), .int .u8 (.l 121), .int .u8 (.l 119), .int .u8 (.l 121), .int .u8 (.l 64), .int .u8 (.l 199), .int .u8 (.l 140), .int .u8 (.l 115), .int .u8 (.l 254), .int .u8 (.l 111), .int .u8 (.l 43), .int .u8 (.l 238), .int .u8 (.l 108), .int .u8 (.l 3), .int .u8 (.l 82)]], ⟨g_dP, 5, [.pre 0 [(.l 163), (.l 120), (.l 89), (.l 19), (.l 202), (.l 77), (.l 235), (.l 117), (.l 171), (.l 216), (.l 65), (.l 65), (.l 77), (.l 10), (.l 112), (.l 0), (.l 152), (.l 232), (.l 121), (.l 119), (.l 121), (.l 64), (.l 199), (.l 140), (.l 115), (.l 254), (.l 111), (.l 43), (.l 238), (.l 108), (.l 3), (.l 82)]], [], [0]⟩⟩, ⟨outs_dP, [0]⟩, 60⟩
theorem r_dP : runBody Tryz.prog [T_SetBytes] [] Tryz.f67 p_dP.fuel T_dP.args T_dP.mem T_dP.nin p_dP.orc = some p_dP.out := by kernel_rfl
theorem good_dP (W : World0 Tryz.prog) : Good W T_dP s_dP := straight (l := l_dP) (p := p_dP) (by exact ⟨good_SetBytes W, trivial⟩) Tryz.func67 Tryz.call67 r_dP (by kernel_rfl) rfl

def T_cpEl : Tmpl := ⟨74, [.one (.lf (.ptr 1 0)), .one (.lf (.ptr 0 0))], [(us .u64 0 5), (anys 32)], 5, 32, true, .one (.lf (.slc 1 0 32 (some 32))), [none, some (us .u8 5 32)], []⟩
def p_cpEl : Path := ⟨(bs 5 0 4503599627370458), [], ⟨.one (.lf (.slc 1 0 32 (some 32))), [(us .u64 0 5), (us .u8 5 32), (us .u8 5 32)], ⟨g_cpEl, 37, [.pre 0 (vs 0 5)], [], [1]⟩⟩, ⟨outs_cpEl, []⟩, 60⟩
theorem r_cpEl : runBody Tryz.prog [T_Bytes] [] Tryz.f74 p_cpEl.fuel T_cpEl.args T_cpEl.mem T_cpEl.nin p_cpEl.orc = some p_cpEl.out := by kernel_rfl
theorem good_cpEl (W : World0 Tryz.prog) : Good W T_cpEl s_cpEl := straight (l := l_cpEl) (p := p_cpEl) (by exact ⟨good_Bytes W, trivial⟩) Tryz.func74 Tryz.call74 r_cpEl (by kernel_rfl) rfl

def T_errNew : Tmpl := ⟨63, [.one (.lf (.cst (.string ⟨#[101, 100, 119, 97, 114, 100, 115, 50, 53, 53, 49, 57, 58, 32, 105, 110, 118, 97, 108, 105, 100, 32, 112, 111, 105, 110, 116, 32, 101, 110, 99, 111, 100, 105, 110, 103]⟩)))], [], 0, 0, true, .one (.lf (.ifp 112 0 0)), [], [[.cst (.string ⟨#[101, 100, 119, 97, 114, 100, 115, 50, 53, 53, 49, 57, 58, 32, 105, 110, 118, 97, 108, 105, 100, 32, 112, 111, 105, 110, 116, 32, 101, 110, 99, 111, 100, 105, 110, 103]⟩)]]⟩
def p_errNew : Path := ⟨[], [], ⟨.one (.lf (.ifp 112 0 0)), [[.cst (.string ⟨#[101, 100, 119, 97, 114, 100, 115, 50, 53, 53, 49, 57, 58, 32, 105, 110, 118, 97, 108, 105, 100, 32, 112, 111, 105, 110, 116, 32, 101, 110, 99, 111, 100, 105, 110, 103]⟩)]], ⟨g_errNew, 0, [], [], []⟩⟩, ⟨outs_errNew, [0]⟩, 60⟩
theorem r_errNew : runBody Tryz.prog [] [] Tryz.f63 p_errNew.fuel T_errNew.args T_errNew.mem T_errNew.nin p_errNew.orc = some p_errNew.out := by kernel_rfl
theorem good_errNew (W : World0 Tryz.prog) : Good W T_errNew s_errNew := straight (l := l_errNew) (p := p_errNew) (by exact trivial) Tryz.func63 Tryz.call63 r_errNew (by kernel_rfl) rfl

end
end Go.X.Z

namespace Go.X
open Go

/-! ### a law: a run whose instructions stand as they are, slices from without and all -/

def rawL (l : List (Nat × Ins)) : List (Nat × CI) := l.map fun p => (p.1, CI.raw p.2)

theorem raw_hold {F : Fns} {ρ : Nat → Int} : ∀ {l : List (Nat × Ins)}, Sat F ρ l → CHold F ρ (rawL l)
  | [], _ => trivial
  | (x, i) :: _, h => ⟨h (x, i) (List.mem_cons_self ..), raw_hold fun y hy => h y (List.mem_cons_of_mem _ hy)⟩

def rawSt (l : List (Nat × Ins)) : List St := (group 1000000 (rawL l)).reverse

def HoldL (pr : Prs) (ρ : Nat → Int) : List Asm → Prop
  | [] => True
  | x :: r => x.holds pr ρ ∧ HoldL pr ρ r

theorem HoldL.hold {pr : Prs} {ρ : Nat → Int} : ∀ {l : List Asm}, HoldL pr ρ l → Hold pr ρ l
  | [], _ => fun x hx => by cases hx
  | y :: r, h => fun x hx => by
    cases hx with
    | head => exact h.1
    | tail _ hx => exact HoldL.hold h.2 x hx

end Go.X

namespace Go.X
open Go

/-! ### functions with a condition of any kind -/

structure SemP where
  f : List Int → List Int
  pre : List Int → Prop

def Sem.toP (s : Sem) : SemP := ⟨s.f, InB s.bi⟩

def GoodP {P : Program} (W : World0 P) (T : Tmpl) (s : SemP) : Prop :=
  ∀ (F : Fns) (pr : Prs) (c : Nat), F c = s.f → pr c = s.pre → TSound P F pr W.gv W.I W.base c T

theorem Good.toP {P : Program} {W : World0 P} {T : Tmpl} {s : Sem} (h : Good W T s) : GoodP W T s.toP := h

def tabFP (gl : Nat → Nat) (l : List SemP) : Fns := fun c => match l[c]? with
  | some t => t.f
  | none => fun _ => [((gl (c - 1000000) : Nat) : Int)]

def tabPP (l : List SemP) : Prs := fun c => match l[c]? with
  | some t => t.pre
  | none => fun _ => False

def GoodPL {P : Program} (W : World0 P) : List Tmpl → List SemP → Prop
  | [], _ => True
  | _ :: _, [] => False
  | t :: r, s :: q => GoodP W t s ∧ GoodPL W r q

theorem GoodPL.get {P : Program} {W : World0 P} : ∀ {l : List Tmpl} {q : List SemP}, GoodPL W l q → ∀ (i : Nat) (t : Tmpl), l[i]? = some t → ∃ s, q[i]? = some s ∧ GoodP W t s
  | [], _, _, i, t, h => by simp at h
  | _ :: _, [], h, _, _, _ => h.elim
  | x :: r, y :: q, h, i, t, ht => by
    cases i with
    | zero => simp at ht; subst ht; exact ⟨y, rfl, h.1⟩
    | succ i => simpa using GoodPL.get h.2 i t (by simpa using ht)

theorem GoodPL.cx {P : Program} {W : World0 P} {l : List Tmpl} {q : List SemP} (h : GoodPL W l q) (hlen : q.length ≤ 1000000) (E : Env) (hE : E.gv = W.gv) : Cx P (tabFP W.gl q) (tabPP q) W.I W.base l E := by
  refine ⟨?_, ?_, W.st, W.mix⟩
  · intro i T hT
    obtain ⟨s, hs, hg⟩ := h.get i T hT
    rw [hE]
    exact hg _ _ i (by simp [tabFP, hs]) (by simp [tabPP, hs])
  · intro k
    obtain ⟨a, cap, e⟩ := W.hg k
    refine ⟨a, W.gl k, cap, by rw [hE, e], ?_⟩
    have hn : q[ghostFn k]? = none := List.getElem?_eq_none (by unfold ghostFn; omega)
    simp only [tabFP, hn]
    simp [ghostFn]

theorem lawP_sound {P : Program} {W : World0 P} {ts : List Tmpl} {l : List SemP} (hl : GoodPL W ts l) (hlen : l.length ≤ 1000000) {T : Tmpl} {s : SemP} {fn : Func}
    (hf : P.funcs[T.f]? = some fn) (hc : ∀ args w, (callFunc T.f args).run P w = .ok (.enter T.f args) w) (hown : ownT T = true) (hpre : T.hasPre = true)
    (hcov : ∀ xs, xs.length = T.nin → s.pre xs → ∃ fuel orc out ft, runBody P ts [] fn fuel T.args T.mem T.nin orc = some out ∧ (fitsB T out ft && wfS T.nin out.g.ssa out.g.n) = true ∧
      ∀ ρ : Nat → Int, (∀ x, x < T.nin → ρ x = xs.getD x 0) → StHold (tabFP W.gl l) ρ (rawSt out.g.ssa) →
        (∀ (j : Nat) (a : A), ft.outs[j]? = some a → (s.f xs).getD j 0 = a.ev ρ) ∧ HoldL (tabPP l) ρ out.g.asm) : GoodP W T s := by
  intro F pr c hF hp
  refine body_sound (ls := []) (F' := tabFP W.gl l) (pr' := tabPP l) hf hc hown (fun E hE => hl.cx hlen E hE) ?_ ?_ ?_
  · intro l hl; cases hl
  · intro _ _ _ _ l hl; cases hl
  · intro xs hlen hx
    have hb : s.pre xs := by rw [hp] at hx; exact hx hpre
    obtain ⟨fuel, orc, out, ft, h1, h2, h3⟩ := hcov xs hlen hb
    simp only [Bool.and_eq_true] at h2
    obtain ⟨hsat, hin, _⟩ := evalS_sat (F := tabFP W.gl l) (ρ0 := fun x => xs.getD x 0) h2.2
    obtain ⟨k1, k2⟩ := h3 _ hin (StHold_rev (group_hold (raw_hold hsat)))
    refine ⟨fuel, orc, out, ft, h1, h2.1, h2.2, ?_, k2.hold⟩
    rw [hF]; exact k1

end Go.X

set_option maxRecDepth 20000
namespace Go.X

/-! ### points, as the program has them -/

def pX (xs : List Int) : Fp := φ (v51 (xs.take 5))
def pY (xs : List Int) : Fp := φ (v51 ((xs.drop 5).take 5))
def pZ (xs : List Int) : Fp := φ (v51 ((xs.drop 10).take 5))
def pT (xs : List Int) : Fp := φ (v51 (xs.drop 15))
def ZZ5 : List Int := [0, 0, 0, 0, 0]

abbrev LB4 : Bd := LB ++ (LB ++ (LB ++ LB))

/-- neither coordinate is all noughts -/
def nz (xs : List Int) : Prop := ¬ (xs.take 5 = ZZ5 ∧ (xs.drop 5).take 5 = ZZ5)

def sp_chk : SemP := ⟨fun _ => [], nz⟩
def sp_byt : SemP := ⟨fun xs => encB (pX xs * inv (pZ xs)) (pY xs * inv (pZ xs)), fun xs => InB LB4 xs ∧ nz xs⟩
theorem pt_parts {v : Nat → Int} {xs : List Int} (h : InB LB4 xs) (hin : seg v 0 20 = xs) :
    (InB LB (seg v 0 5) ∧ φ (v51 (seg v 0 5)) = pX xs) ∧ (InB LB (seg v 5 5) ∧ φ (v51 (seg v 5 5)) = pY xs) ∧ (InB LB (seg v 10 5) ∧ φ (v51 (seg v 10 5)) = pZ xs) ∧ (InB LB (seg v 15 5) ∧ φ (v51 (seg v 15 5)) = pT xs) := by
  obtain ⟨h0, h1⟩ := InB.split (a := LB) (b := LB ++ (LB ++ LB)) h
  obtain ⟨h1, h2⟩ := InB.split (a := LB) (b := LB ++ LB) h1
  obtain ⟨h2, h3⟩ := InB.split (a := LB) (b := LB) h2
  have s0 : seg v 0 5 = xs.take 5 := by rw [← hin, seg_take _ (by decide)]
  have s1 : seg v 5 5 = (xs.drop 5).take 5 := by rw [← hin, seg_drop _ (by decide), seg_take _ (by decide)]
  have s2 : seg v 10 5 = (xs.drop 10).take 5 := by rw [← hin, seg_drop _ (by decide), seg_take _ (by decide)]
  have s3 : seg v 15 5 = xs.drop 15 := by rw [← hin, seg_drop _ (by decide)]
  have e2 : (List.drop (List.length LB) (List.drop (List.length LB) xs)) = xs.drop 10 := by rw [List.drop_drop]; rfl
  have e3 : List.drop (List.length LB) (List.drop (List.length LB) (List.drop (List.length LB) xs)) = xs.drop 15 := by rw [List.drop_drop, List.drop_drop]; rfl
  rw [e2] at h2
  rw [e3] at h3
  rw [s0, s1, s2, s3]
  exact ⟨⟨h0, rfl⟩, ⟨h1, rfl⟩, ⟨h2, rfl⟩, ⟨h3, rfl⟩⟩

def one5 : List Int := [1, 0, 0, 0, 0]
theorem one5_in : InB LB one5 := ⟨by decide, by decide, by decide, by decide, by decide, by decide, by decide, by decide, by decide, by decide, trivial⟩
theorem one5_φ : φ (v51 one5) = 1 := by kernel_rfl

theorem shl7 {t : Int} (h : t = 0 ∨ t = 1) : IntKind.wrap .u8 (op2 .shl .i64 t 7) = 128 * t := by
  rcases h with rfl | rfl <;> kernel_rfl

theorem or_0 {x : Int} (h : 0 ≤ x ∧ x ≤ 255) : op2 .or .u8 x 0 = x := by
  obtain ⟨n, rfl⟩ := Int.eq_ofNat_of_zero_le h.1
  have hn : n < 2 ^ 8 := by omega
  have e1 := (bits_nat .u8 8 (by decide) (fun n a b => wrap_w (k := .u8) n a b) n 0 hn (by decide)).2
  have e : op2 .or .u8 (n : Int) 0 = ((n ||| 0 : Nat) : Int) := e1
  rw [e, Nat.or_zero]

theorem enc_out {x y : Fp} {v : Nat → Int} {t : Int} (h35 : seg v 35 32 = bB y) (h67 : v 67 = if x.val % 2 = 1 then 1 else 0) (h70 : t = op2 .or .u8 (v 66) (IntKind.wrap .u8 (op2 .shl .i64 (v 67) 7))) :
    seg v 35 31 ++ [t] = encB x y := by
  have t1 : seg v 35 31 = (bB y).take 31 := by rw [← h35, seg_take v (by decide)]
  have t2 : v 66 = (bB y).getD 31 0 := by rw [← h35, seg_getD 31 (by decide)]
  have hb := (bB_in y).get 31 (0, 255) rfl
  unfold encB
  by_cases h : x.val % 2 = 1
  · rw [if_pos h] at h67 ⊢
    rw [h70, shl7 (.inr h67), h67, t1, t2]
    rfl
  · rw [if_neg h] at h67 ⊢
    rw [h70, shl7 (.inl h67), h67, t2]
    show seg v 35 31 ++ [op2 .or .u8 ((bB y).getD 31 0) 0] = bB y
    rw [or_0 hb, ← t2, ← h35]
    exact (seg_add v 31 1 35).symm

/-! the point out of bytes -/

def qY (xs : List Int) : List Int := s_SetBytes.f xs
def qY2 (xs : List Int) : List Int := s_feSqG.f (qY xs)
def qU (xs : List Int) : List Int := s_Sub.f (qY2 xs ++ one5)
def qV (xs : List Int) : List Int := s_Add.f (s_feMulG.f (qY2 xs ++ s_dP.f []) ++ one5)
def qR (xs : List Int) : List Int := s_SqrtRatio.f (qU xs ++ qV xs)
def qX (xs : List Int) : List Int := s_Sel.f (s_Neg.f ((qR xs).drop 1) ++ (qR xs).drop 1 ++ [sgB xs])
def qT (xs : List Int) : List Int := s_feMulG.f (qX xs ++ qY xs)

theorem qY_val {xs : List Int} (h : InB (BB 32) xs) : InB LB (qY xs) ∧ φ (v51 (qY xs)) = eF xs := by
  unfold qY
  rw [SetBytes_val xs h]
  exact ⟨el_in _, rfl⟩

theorem g5 (a d e : Fp) : a * a * d + e = d * (a * a) + e := by grind
theorem g6 {x : Fp} : -x * -x = x * x := by grind
theorem g7 {a u b v : Fp} (h1 : a = u * b) (h2 : v * b = 1) : a * v = u := by grind

theorem qUV_val {xs : List Int} (h : InB (BB 32) xs) : (InB LB (qY2 xs)) ∧ (InB LB (qU xs) ∧ φ (v51 (qU xs)) = uF (eF xs)) ∧ (InB LB (s_dP.f []) ∧ InB LB (s_feMulG.f (qY2 xs ++ s_dP.f []))) ∧ (InB LB (qV xs) ∧ φ (v51 (qV xs)) = vF (eF xs)) := by
  obtain ⟨b0, e0⟩ := qY_val h
  obtain ⟨e1, b1⟩ := sqLB b0
  rw [e0] at e1
  obtain ⟨e2, b2⟩ := subLB b1 one5_in
  rw [e1, one5_φ] at e2
  obtain ⟨l, hl, bl, el⟩ := dP_val
  rw [← hl] at bl el
  obtain ⟨e3, b3⟩ := mulLB b1 bl
  rw [e1, el] at e3
  obtain ⟨e4, b4⟩ := addLB b3 one5_in
  rw [e3, one5_φ] at e4
  refine ⟨b1, ⟨b2, e2⟩, ⟨bl, b3⟩, b4, ?_⟩
  have e4 : φ (v51 (qV xs)) = eF xs * eF xs * dF + 1 := e4
  rw [e4]; exact g5 _ _ _

theorem qR_val {xs : List Int} (h : InB (BB 32) xs) : (qR xs).length = 6 ∧ ((qR xs).getD 0 0 = if okF (uF (eF xs)) (vF (eF xs)) then 1 else 0) ∧ InB LB ((qR xs).drop 1) ∧ φ (v51 ((qR xs).drop 1)) = sqF (uF (eF xs)) (vF (eF xs)) := by
  obtain ⟨-, ⟨bu, eu⟩, -, ⟨bv, ev⟩⟩ := qUV_val h
  obtain ⟨t, r, e, ht, ht', hr, hv⟩ := SqrtRatio_val bu bv
  have e : qR xs = t :: r := e
  rw [eu, ev] at ht hv
  rw [e]
  refine ⟨?_, ?_, hr, hv⟩
  · rw [List.length_cons, hr.len]; rfl
  · show t = _
    exact if_one ht ht'

theorem qX_val {xs : List Int} (h : InB (BB 32) xs) : InB LB (qX xs) ∧ φ (v51 (qX xs)) = xF (eF xs) (sgB xs) := by
  obtain ⟨-, -, b, e⟩ := qR_val h
  obtain ⟨e2, b2⟩ := negLB b
  unfold qX xF
  rw [selLB b2 b]
  by_cases hs : sgB xs = 1
  · rw [if_pos hs, if_pos hs]
    exact ⟨b2, by rw [e2, e]⟩
  · rw [if_neg hs, if_neg hs]
    exact ⟨b, e⟩

theorem qT_in {xs : List Int} (h : InB (BB 32) xs) : InB LB (qT xs) ∧ φ (v51 (qT xs)) = xF (eF xs) (sgB xs) * eF xs := by
  obtain ⟨e, b⟩ := mulLB (qX_val h).1 (qY_val h).1
  rw [(qX_val h).2, (qY_val h).2] at e
  exact ⟨b, e⟩

def isPt (xs : List Int) : Prop := okF (uF (eF xs)) (vF (eF xs))

def sp_set : SemP := ⟨fun xs => qX xs ++ qY xs ++ qT xs, fun xs => InB (BB 32) xs ∧ isPt xs⟩
/-- the square of the first coordinate -/
theorem xF_sq {y : Fp} {s : Int} (hv : vF y ≠ 0) (hu : uF y ≠ 0) (h : okF (uF y) (vF y)) : xF y s * xF y s * vF y = uF y := by
  have h1 : sqF (uF y) (vF y) * sqF (uF y) (vF y) = uF y * inv (vF y) := by
    unfold sqF
    rw [absF_sq, sel_sq hu hv, if_pos h]
  have h2 : xF y s * xF y s = uF y * inv (vF y) := by
    unfold xF
    by_cases hs : s = 1
    · rw [if_pos hs, g6, h1]
    · rw [if_neg hs, h1]
  exact g7 h2 (inv_mul hv)

theorem g1 (d a : Fp) : d * (0 * 0) + a = a := by grind
theorem g2 (a : Fp) : 0 * 0 - a = -a := by grind
theorem g3 {a : Fp} (h : -a = 0) : a = 0 := by grind
theorem g4 {v a : Fp} (h : 0 * 0 * v = -a) : a = 0 := by grind

end Go.X

set_option maxRecDepth 20000
namespace Go.X
noncomputable section
abbrev l_pCopy : List Sem := []
def g_pCopy : List (Nat × Ins) := []
def outs_pCopy : List A := []
def s_pCopy : Sem := Sem.st l_pCopy g_pCopy 20 20 outs_pCopy (bs 20 0 4503599627370458) [] (by kernel_rfl)

abbrev l_None : List Sem := [s_Small]
def g_None : List (Nat × Ins) := [(1, .app 0 [(.l 1)] 0),
  (0, .app 0 [(.l 1)] 0)]
def outs_None : List A := [(.v 0), (.v 1)]
def s_None : Sem := Sem.st l_None g_None 0 2 outs_None [] [(0, 4294967295), (0, 4294967295)] (by kernel_rfl)

theorem E_None (xs : List Int) (hx : InB [] xs) : ∃ v : Nat → Int, vals l_None g_None xs = v ∧ seg v 0 0 = xs ∧ ((v 0 = (s_Small.f ([1])).getD 0 0) ∧ (v 1 = (s_Small.f ([1])).getD 0 0)) ∧ (True) ∧ s_None.f xs = ([v 0, v 1]) :=
  Eq.mp (by kernel_rfl) (runE (s := s_None) (o := outs_None) (l := l_None) (g := g_None) (nin := 0) (top := 2) (by kernel_rfl) hx (by kernel_rfl))

abbrev l_Base : List Sem := [s_NBytes, s_Small, s_FMul, s_Inv, s_Dec]
def g_Base : List (Nat × Ins) := (List.flatten [apps 4 ((vs 0 16) ++ (vs 50 32)) 82 34, apps 0 (vs 34 16) 50 32, apps 2 ([(.v 16)] ++ (ls 0 15) ++ (vs 18 16)) 34 16, apps 3 ([(.v 17)] ++ (ls 0 15)) 18 16, [(17, .app 1 [(.l 5)] 0), (16, .app 1 [(.l 4)] 0)]])
def outs_Base : List A := (vs 82 33)
def s_Base : Sem := Sem.st l_Base g_Base 16 116 outs_Base (bs 16 0 4294967295) (bs 33 0 4294967295) (by kernel_rfl)

theorem E_Base (xs : List Int) (hx : InB (bs 16 0 4294967295) xs) : ∃ v : Nat → Int, vals l_Base g_Base xs = v ∧ seg v 0 16 = xs ∧ ((v 16 = (s_Small.f ([4])).getD 0 0) ∧ (v 17 = (s_Small.f ([5])).getD 0 0) ∧ (seg v 18 16 = gets (s_Inv.f ([v 17, 0, 0, 0, 0, 0, 0, 0, 0, 0, 0, 0, 0, 0, 0, 0])) 0 16) ∧ (seg v 34 16 = gets (s_FMul.f ([v 16, 0, 0, 0, 0, 0, 0, 0, 0, 0, 0, 0, 0, 0, 0, 0] ++ seg v 18 16)) 0 16) ∧ (seg v 50 32 = gets (s_NBytes.f (seg v 34 16)) 0 32) ∧ (seg v 82 34 = gets (s_Dec.f (seg v 0 16 ++ seg v 50 32)) 0 34)) ∧ (True) ∧ s_Base.f xs = (seg v 82 33) :=
  Eq.mp (by kernel_rfl) (runE (s := s_Base) (o := outs_Base) (l := l_Base) (g := g_Base) (nin := 16) (top := 116) (by kernel_rfl) hx (by kernel_rfl))

abbrev l_cPlus : List Sem := [s_FAdd, s_FSub, s_FMul]
def g_cPlus : List (Nat × Ins) := (List.flatten [apps 2 (vs 208 32) 400 16, apps 2 (vs 352 32) 384 16, apps 0 (vs 144 32) 368 16, apps 2 ((vs 112 16) ++ (vs 224 16)) 352 16, apps 2 ((vs 320 16) ++ (vs 304 16)) 336 16, apps 2 ((vs 112 16) ++ (vs 208 16)) 320 16, apps 1 ((vs 288 16) ++ (vs 160 16)) 304 16, apps 1 ((vs 272 16) ++ (vs 144 16)) 288 16, apps 2 (vs 240 32) 272 16, apps 0 (vs 64 32) 256 16, apps 0 (vs 16 32) 240 16, apps 0 ((vs 128 16) ++ (vs 192 16)) 224 16, apps 1 ((vs 128 16) ++ (vs 192 16)) 208 16, apps 2 ((vs 0 16) ++ (vs 176 16)) 192 16, apps 2 (vs 144 32) 176 16, apps 2 ((vs 32 16) ++ (vs 80 16)) 160 16, apps 2 ((vs 16 16) ++ (vs 64 16)) 144 16, apps 2 ((vs 112 16) ++ (vs 112 16)) 128 16, apps 2 ((vs 48 16) ++ (vs 96 16)) 112 16])
def outs_cPlus : List A := ((vs 336 16) ++ (vs 384 32))
def s_cPlus : Sem := Sem.st l_cPlus g_cPlus 112 416 outs_cPlus (bs 112 0 4294967295) (bs 48 0 4294967295) (by kernel_rfl)

theorem E_cPlus (xs : List Int) (hx : InB (bs 112 0 4294967295) xs) : ∃ v : Nat → Int, vals l_cPlus g_cPlus xs = v ∧ seg v 0 112 = xs ∧ ((seg v 112 16 = gets (s_FMul.f (seg v 48 16 ++ seg v 96 16)) 0 16) ∧ (seg v 128 16 = gets (s_FMul.f (seg v 112 16 ++ seg v 112 16)) 0 16) ∧ (seg v 144 16 = gets (s_FMul.f (seg v 16 16 ++ seg v 64 16)) 0 16) ∧ (seg v 160 16 = gets (s_FMul.f (seg v 32 16 ++ seg v 80 16)) 0 16) ∧ (seg v 176 16 = gets (s_FMul.f (seg v 144 32)) 0 16) ∧ (seg v 192 16 = gets (s_FMul.f (seg v 0 16 ++ seg v 176 16)) 0 16) ∧ (seg v 208 16 = gets (s_FSub.f (seg v 128 16 ++ seg v 192 16)) 0 16) ∧ (seg v 224 16 = gets (s_FAdd.f (seg v 128 16 ++ seg v 192 16)) 0 16) ∧ (seg v 240 16 = gets (s_FAdd.f (seg v 16 32)) 0 16) ∧ (seg v 256 16 = gets (s_FAdd.f (seg v 64 32)) 0 16) ∧ (seg v 272 16 = gets (s_FMul.f (seg v 240 32)) 0 16) ∧ (seg v 288 16 = gets (s_FSub.f (seg v 272 16 ++ seg v 144 16)) 0 16) ∧ (seg v 304 16 = gets (s_FSub.f (seg v 288 16 ++ seg v 160 16)) 0 16) ∧ (seg v 320 16 = gets (s_FMul.f (seg v 112 16 ++ seg v 208 16)) 0 16) ∧ (seg v 336 16 = gets (s_FMul.f (seg v 320 16 ++ seg v 304 16)) 0 16) ∧ (seg v 352 16 = gets (s_FMul.f (seg v 112 16 ++ seg v 224 16)) 0 16) ∧ (seg v 368 16 = gets (s_FAdd.f (seg v 144 32)) 0 16) ∧ (seg v 384 16 = gets (s_FMul.f (seg v 352 32)) 0 16) ∧ (seg v 400 16 = gets (s_FMul.f (seg v 208 32)) 0 16)) ∧ (True) ∧ s_cPlus.f xs = (seg v 336 16 ++ seg v 384 32) :=
  Eq.mp (by kernel_rfl) (runE (s := s_cPlus) (o := outs_cPlus) (l := l_cPlus) (g := g_cPlus) (nin := 112) (top := 416) (by kernel_rfl) hx (by kernel_rfl))

abbrev l_cSame : List Sem := [s_FMul]
def g_cSame_0 : List (Nat × Ins) := (List.flatten [[(177, .eqs false (vs 145 16) (vs 161 16))], apps 0 ((vs 80 16) ++ (vs 48 16)) 161 16, apps 0 ((vs 32 16) ++ (vs 96 16)) 145 16, [(144, .eqs false (vs 112 16) (vs 128 16))], apps 0 ((vs 64 16) ++ (vs 48 16)) 128 16, apps 0 ((vs 16 16) ++ (vs 96 16)) 112 16])
def outs_cSame_0 : List A := [(.v 177)]
def q_cSame_0 : FPath := ⟨(bs 112 0 4294967295), g_cSame_0, [.pre 0 ((vs 80 16) ++ (vs 48 16)), .pre 0 ((vs 32 16) ++ (vs 96 16)), .cond (.v 144) true, .pre 0 ((vs 64 16) ++ (vs 48 16)), .pre 0 ((vs 16 16) ++ (vs 96 16))], outs_cSame_0⟩
def g_cSame_1 : List (Nat × Ins) := ([(144, .eqs false (vs 112 16) (vs 128 16))] ++ (apps 0 ((vs 64 16) ++ (vs 48 16)) 128 16) ++ (apps 0 ((vs 16 16) ++ (vs 96 16)) 112 16))
def outs_cSame_1 : List A := [(.l 0)]
def q_cSame_1 : FPath := ⟨(bs 112 0 4294967295), g_cSame_1, [.cond (.v 144) false, .pre 0 ((vs 64 16) ++ (vs 48 16)), .pre 0 ((vs 16 16) ++ (vs 96 16))], outs_cSame_1⟩
def q_cSame : List FPath := [q_cSame_0, q_cSame_1]
theorem E_cSame_0 (xs : List Int) (hx : InB (bs 112 0 4294967295) xs) : ∃ v : Nat → Int, vals l_cSame g_cSame_0 xs = v ∧ seg v 0 112 = xs ∧ ((seg v 112 16 = gets (s_FMul.f (seg v 16 16 ++ seg v 96 16)) 0 16) ∧ (seg v 128 16 = gets (s_FMul.f (seg v 64 16 ++ seg v 48 16)) 0 16) ∧ (v 144 = b2i ((seg v 112 16) == (seg v 128 16))) ∧ (seg v 145 16 = gets (s_FMul.f (seg v 32 16 ++ seg v 96 16)) 0 16) ∧ (seg v 161 16 = gets (s_FMul.f (seg v 80 16 ++ seg v 48 16)) 0 16) ∧ (v 177 = b2i ((seg v 145 16) == (seg v 161 16)))) ∧ (True) ∧ (CondHold v q_cSame_0.asm = ((v 144 != 0) = true ∧ True)) ∧ outs_cSame_0.map (A.ev v) = ([v 177]) :=
  Eq.mp (by kernel_rfl) (runQ (q := q_cSame_0.asm) (o := outs_cSame_0) (l := l_cSame) (g := g_cSame_0) (nin := 112) (top := 178) (by kernel_rfl) hx)
theorem E_cSame_1 (xs : List Int) (hx : InB (bs 112 0 4294967295) xs) : ∃ v : Nat → Int, vals l_cSame g_cSame_1 xs = v ∧ seg v 0 112 = xs ∧ ((seg v 112 16 = gets (s_FMul.f (seg v 16 16 ++ seg v 96 16)) 0 16) ∧ (seg v 128 16 = gets (s_FMul.f (seg v 64 16 ++ seg v 48 16)) 0 16) ∧ (v 144 = b2i ((seg v 112 16) == (seg v 128 16)))) ∧ (True) ∧ (CondHold v q_cSame_1.asm = ((v 144 != 0) = false ∧ True)) ∧ outs_cSame_1.map (A.ev v) = ([0]) :=
  Eq.mp (by kernel_rfl) (runQ (q := q_cSame_1.asm) (o := outs_cSame_1) (l := l_cSame) (g := g_cSame_1) (nin := 112) (top := 145) (by kernel_rfl) hx)

end
end Go.X

namespace Go.X

/-! ### the curve: sums of points, whatever they are -/

theorem mul_ne {x y : Fp} (hx : x ≠ 0) (hy : y ≠ 0) : x * y ≠ 0 := fun h => (mul_zero_F h).elim hx hy

theorem inv_ne {x : Fp} (hx : x ≠ 0) : inv x ≠ 0 := by
  intro h
  have := inv_mul hx
  rw [h] at this
  exact iF_ne.2 (by grind)

theorem eq_div {x y z : Fp} (hz : z ≠ 0) (h : x * z = y) : x = y * inv z := by
  have := inv_mul hz
  grind

/-- no square -/
def NSq (d : Fp) : Prop := ∀ a b : Fp, b ≠ 0 → a * a ≠ d * (b * b)

/-- a point of the curve with the number d -/
def OnC (d x y : Fp) : Prop := y * y - x * x = 1 + d * (x * x) * (y * y)

section
variable {d x1 y1 x2 y2 : Fp}

theorem e_sq1 {e i : Fp} (hi : i * i = -1) (h1 : OnC d x1 y1) (h2 : OnC d x2 y2) (he : e = d * (x1 * x2) * (y1 * y2)) (h : e * e = 1) (s : Fp) (hs : s * s = 1) :
    (i * x1 + s * e * y1) * (i * x1 + s * e * y1) = d * ((x1 * y1 * (y2 + s * i * x2)) * (x1 * y1 * (y2 + s * i * x2))) := by
  unfold OnC at h1 h2
  have a1 : (i * x1 + s * e * y1) * (i * x1 + s * e * y1) = (y1 * y1 - x1 * x1) + 2 * (s * (i * (e * (x1 * y1)))) := by grind
  have a2 : d * ((x1 * y1 * (y2 + s * i * x2)) * (x1 * y1 * (y2 + s * i * x2))) = d * (x1 * x1) * (y1 * y1) * (y2 * y2 - x2 * x2) + 2 * (s * (i * (d * (x1 * x2) * (y1 * y2) * (x1 * y1)))) := by grind
  have a3 : d * (x1 * x1) * (y1 * y1) * (y2 * y2 - x2 * x2) = d * (x1 * x1) * (y1 * y1) + e * e := by
    rw [h2, he]; grind
  rw [a1, a2, a3, h, h1, ← he]
  grind

theorem e_ne (hd : NSq d) (h1 : OnC d x1 y1) (h2 : OnC d x2 y2) : (d * (x1 * x2) * (y1 * y2)) * (d * (x1 * x2) * (y1 * y2)) ≠ 1 := by
  intro h
  generalize he : d * (x1 * x2) * (y1 * y2) = e at h
  have k1 := e_sq1 iF_sq h1 h2 he.symm h 1 (by grind)
  have k2 := e_sq1 iF_sq h1 h2 he.symm h (-1) (by grind)
  have hne : e ≠ 0 := by
    intro h0
    rw [h0] at h
    exact iF_ne.2 (by grind)
  have n1 : x1 ≠ 0 := by intro h0; subst h0; exact hne (by grind)
  have n2 : y1 ≠ 0 := by intro h0; subst h0; exact hne (by grind)
  have n3 : y2 ≠ 0 := by intro h0; subst h0; exact hne (by grind)
  have n12 := mul_ne n1 n2
  by_cases c1 : y2 + 1 * iF * x2 = 0
  · by_cases c2 : y2 + -1 * iF * x2 = 0
    · have : 2 * y2 = 0 := by grind
      exact (mul_zero_F this).elim two_ne n3
    · exact hd _ _ (mul_ne n12 c2) k2
  · exact hd _ _ (mul_ne n12 c1) k1

theorem den_ne (hd : NSq d) (h1 : OnC d x1 y1) (h2 : OnC d x2 y2) : 1 + d * (x1 * x2) * (y1 * y2) ≠ 0 ∧ 1 - d * (x1 * x2) * (y1 * y2) ≠ 0 := by
  have := e_ne hd h1 h2
  generalize d * (x1 * x2) * (y1 * y2) = e at *
  refine ⟨?_, ?_⟩
  · intro h; exact this (by have : e = -1 := by grind
                            rw [this]; grind)
  · intro h; exact this (by have : e = 1 := by grind
                            rw [this]; grind)

theorem on_core {e : Fp} (h1 : OnC d x1 y1) (h2 : OnC d x2 y2) (he : e = d * (x1 * x2) * (y1 * y2)) :
    ((y1 * y2 + x1 * x2) * (1 + e)) * ((y1 * y2 + x1 * x2) * (1 + e)) - ((x1 * y2 + y1 * x2) * (1 - e)) * ((x1 * y2 + y1 * x2) * (1 - e)) =
      ((1 + e) * (1 - e)) * ((1 + e) * (1 - e)) + d * ((x1 * y2 + y1 * x2) * (x1 * y2 + y1 * x2)) * ((y1 * y2 + x1 * x2) * (y1 * y2 + x1 * x2)) := by
  unfold OnC at h1 h2
  have e2 : e * e = (d * (x1 * x1) * (y1 * y1)) * (d * (x2 * x2) * (y2 * y2)) := by rw [he]; grind
  have e3 : e * (x1 * x2 * (y1 * y2)) * d = e * e := by rw [he]; grind
  generalize hA : d * (x1 * x1) * (y1 * y1) = A at *
  generalize hB : d * (x2 * x2) * (y2 * y2) = B at *
  have p1 : (y1 * y2 + x1 * x2) * (y1 * y2 + x1 * x2) - (x1 * y2 + y1 * x2) * (x1 * y2 + y1 * x2) = (1 + A) * (1 + B) := by
    rw [← h1, ← h2]; grind
  have p2 : (y1 * y2 + x1 * x2) * (y1 * y2 + x1 * x2) + (x1 * y2 + y1 * x2) * (x1 * y2 + y1 * x2) = (y1 * y1 + x1 * x1) * (y2 * y2 + x2 * x2) + 4 * (x1 * x2 * (y1 * y2)) := by grind
  have p3 : (x1 * y2 + y1 * x2) * (y1 * y2 + x1 * x2) = x1 * y1 * (y2 * y2 + x2 * x2) + x2 * y2 * (y1 * y1 + x1 * x1) := by grind
  -- the product's square, with the squares of sums by those of differences
  have q1 : (y1 * y1 + x1 * x1) * (y1 * y1 + x1 * x1) = (1 + A) * (1 + A) + 4 * ((x1 * y1) * (x1 * y1)) := by rw [← h1]; grind
  have q2 : (y2 * y2 + x2 * x2) * (y2 * y2 + x2 * x2) = (1 + B) * (1 + B) + 4 * ((x2 * y2) * (x2 * y2)) := by rw [← h2]; grind
  have hA' : d * ((x1 * y1) * (x1 * y1)) = A := by rw [← hA]; grind
  have hB' : d * ((x2 * y2) * (x2 * y2)) = B := by rw [← hB]; grind
  have he' : d * ((x1 * y1) * (x2 * y2)) = e := by rw [he]; grind
  have l1 : ∀ (N D : Fp), ((y1 * y2 + x1 * x2) * (1 + e)) * ((y1 * y2 + x1 * x2) * (1 + e)) - ((x1 * y2 + y1 * x2) * (1 - e)) * ((x1 * y2 + y1 * x2) * (1 - e))
      = (1 + e * e) * ((y1 * y2 + x1 * x2) * (y1 * y2 + x1 * x2) - (x1 * y2 + y1 * x2) * (x1 * y2 + y1 * x2)) + 2 * e * ((y1 * y2 + x1 * x2) * (y1 * y2 + x1 * x2) + (x1 * y2 + y1 * x2) * (x1 * y2 + y1 * x2)) := by
    intro N D
    generalize y1 * y2 + x1 * x2 = n
    generalize x1 * y2 + y1 * x2 = m
    grind
  have l2 : d * ((x1 * y2 + y1 * x2) * (x1 * y2 + y1 * x2)) * ((y1 * y2 + x1 * x2) * (y1 * y2 + x1 * x2)) = d * (((x1 * y2 + y1 * x2) * (y1 * y2 + x1 * x2)) * ((x1 * y2 + y1 * x2) * (y1 * y2 + x1 * x2))) := by grind
  rw [l1 0 0, p1, p2, l2, p3]
  have hxy : x1 * x2 * (y1 * y2) = (x1 * y1) * (x2 * y2) := by grind
  rw [hxy]
  generalize x1 * y1 = a at *
  generalize x2 * y2 = b at *
  generalize y1 * y1 + x1 * x1 = S at *
  generalize y2 * y2 + x2 * x2 = T at *
  have r1 : d * ((a * T + b * S) * (a * T + b * S)) = (d * (a * a)) * (T * T) + 2 * (d * (a * b)) * (S * T) + (d * (b * b)) * (S * S) := by grind
  rw [r1, hA', hB', he', q1, q2]
  have r2 : A * (4 * (b * b)) = 4 * (e * (a * b)) := by rw [← hA', ← he']; grind
  have r3 : B * (4 * (a * a)) = 4 * (e * (a * b)) := by rw [← hB', ← he']; grind
  have r4 : A * ((1 + B) * (1 + B) + 4 * (b * b)) = A * ((1 + B) * (1 + B)) + 4 * (e * (a * b)) := by rw [← r2]; grind
  have r5 : B * ((1 + A) * (1 + A) + 4 * (a * a)) = B * ((1 + A) * (1 + A)) + 4 * (e * (a * b)) := by rw [← r3]; grind
  rw [r4, r5]
  clear r1 r2 r3 r4 r5 q1 q2 p1 p2 p3 l1 l2 hxy hA' hB' he' e3 hA hB he h1 h2
  grind

/-- the sum of two points -/
def aX (d x1 y1 x2 y2 : Fp) : Fp := (x1 * y2 + y1 * x2) * inv (1 + d * (x1 * x2) * (y1 * y2))
def aY (d x1 y1 x2 y2 : Fp) : Fp := (y1 * y2 + x1 * x2) * inv (1 - d * (x1 * x2) * (y1 * y2))

theorem add_on (hd : NSq d) (h1 : OnC d x1 y1) (h2 : OnC d x2 y2) : OnC d (aX d x1 y1 x2 y2) (aY d x1 y1 x2 y2) := by
  obtain ⟨k1, k2⟩ := den_ne hd h1 h2
  have hc := on_core h1 h2 rfl
  unfold OnC aX aY
  generalize d * (x1 * x2) * (y1 * y2) = e at *
  generalize x1 * y2 + y1 * x2 = m at *
  generalize y1 * y2 + x1 * x2 = n at *
  have i1 := inv_mul k1
  have i2 := inv_mul k2
  generalize inv (1 + e) = u at *
  generalize inv (1 - e) = w at *
  generalize 1 + e = D at *
  generalize 1 - e = E at *
  have f1 : n * w * (n * w) - m * u * (m * u) = ((n * D) * (n * D) - (m * E) * (m * E)) * (u * w) * (u * w) := by grind
  have f2 : 1 + d * (m * u * (m * u)) * (n * w * (n * w)) = ((D * E) * (D * E) + d * (m * m) * (n * n)) * (u * w) * (u * w) := by grind
  rw [f1, f2, hc]

end

end Go.X

namespace Go.X

/-! ### points of the curve: as they are said, and as the program has them -/

theorem div_eq_div {x y m n : Fp} (hy : y ≠ 0) (hn : n ≠ 0) (h : x * n = m * y) : x * inv y = m * inv n := by
  have h1 := inv_mul hy
  have h2 := inv_mul hn
  generalize inv y = u at *
  generalize inv n = w at *
  have e1 : x * u = (x * n) * (u * w) := by grind
  rw [e1, h]
  grind

structure Pt where
  X : Fp
  Y : Fp
  Z : Fp

def Pt.x (p : Pt) : Fp := p.X * inv p.Z
def Pt.y (p : Pt) : Fp := p.Y * inv p.Z
def Pt.ok (d : Fp) (p : Pt) : Prop := p.Z ≠ 0 ∧ OnC d p.x p.y

def Pt.plus (d : Fp) (p q : Pt) : Pt :=
  ⟨p.Z * q.Z * (p.Z * q.Z * (p.Z * q.Z) - d * (p.X * q.X * (p.Y * q.Y))) * ((p.X + p.Y) * (q.X + q.Y) - p.X * q.X - p.Y * q.Y),
   p.Z * q.Z * (p.Z * q.Z * (p.Z * q.Z) + d * (p.X * q.X * (p.Y * q.Y))) * (p.X * q.X + p.Y * q.Y),
   (p.Z * q.Z * (p.Z * q.Z) - d * (p.X * q.X * (p.Y * q.Y))) * (p.Z * q.Z * (p.Z * q.Z) + d * (p.X * q.X * (p.Y * q.Y)))⟩

theorem Pt.ex {d : Fp} {p : Pt} (h : p.ok d) : p.X = p.x * p.Z ∧ p.Y = p.y * p.Z := by
  have := inv_mul h.1
  unfold Pt.x Pt.y
  constructor <;> grind

theorem Pt.plus_ok {d : Fp} {p q : Pt} (hd : NSq d) (hp : p.ok d) (hq : q.ok d) : (p.plus d q).ok d ∧ (p.plus d q).x = aX d p.x p.y q.x q.y ∧ (p.plus d q).y = aY d p.x p.y q.x q.y := by
  obtain ⟨k1, k2⟩ := den_ne hd hp.2 hq.2
  obtain ⟨a1, a2⟩ := p.ex hp
  obtain ⟨b1, b2⟩ := q.ex hq
  have hz := mul_ne hp.1 hq.1
  have hon := add_on hd hp.2 hq.2
  suffices h : (p.plus d q).Z ≠ 0 ∧ (p.plus d q).x = aX d p.x p.y q.x q.y ∧ (p.plus d q).y = aY d p.x p.y q.x q.y by
    refine ⟨⟨h.1, ?_⟩, h.2⟩
    rw [h.2.1, h.2.2]; exact hon
  clear hon
  unfold aX aY
  generalize p.x = x1 at *
  generalize p.y = y1 at *
  generalize q.x = x2 at *
  generalize q.y = y2 at *
  obtain ⟨X1, Y1, Z1⟩ := p
  obtain ⟨X2, Y2, Z2⟩ := q
  replace a1 : X1 = x1 * Z1 := a1
  replace a2 : Y1 = y1 * Z1 := a2
  replace b1 : X2 = x2 * Z2 := b1
  replace b2 : Y2 = y2 * Z2 := b2
  replace hz : Z1 * Z2 ≠ 0 := hz
  subst a1 a2 b1 b2
  clear hp hq
  unfold Pt.x Pt.y Pt.plus
  dsimp only
  have e1 : d * (x1 * Z1 * (x2 * Z2) * (y1 * Z1 * (y2 * Z2))) = d * (x1 * x2) * (y1 * y2) * (Z1 * Z2 * (Z1 * Z2)) := by grind
  have e2 : (x1 * Z1 + y1 * Z1) * (x2 * Z2 + y2 * Z2) - x1 * Z1 * (x2 * Z2) - y1 * Z1 * (y2 * Z2) = (x1 * y2 + y1 * x2) * (Z1 * Z2) := by grind
  have e3 : x1 * Z1 * (x2 * Z2) + y1 * Z1 * (y2 * Z2) = (y1 * y2 + x1 * x2) * (Z1 * Z2) := by grind
  rw [e1, e2, e3]
  generalize d * (x1 * x2) * (y1 * y2) = e at *
  generalize x1 * y2 + y1 * x2 = m at *
  generalize y1 * y2 + x1 * x2 = n at *
  generalize Z1 * Z2 = a at *
  have hb : a * a ≠ 0 := mul_ne hz hz
  have f1 : a * a - e * (a * a) = a * a * (1 - e) := by grind
  have f2 : a * a + e * (a * a) = a * a * (1 + e) := by grind
  rw [f1, f2]
  have n1 := mul_ne hb k2
  have n2 := mul_ne hb k1
  refine ⟨mul_ne n1 n2, div_eq_div (mul_ne n1 n2) k1 ?_, div_eq_div (mul_ne n1 n2) k2 ?_⟩
  · clear k1 k2 n1 n2 hb hz f1 f2 e1 e2 e3
    grind
  · clear k1 k2 n1 n2 hb hz f1 f2 e1 e2 e3
    grind

theorem on_neg {d x y : Fp} (h : OnC d x y) : OnC d (-x) y := by
  unfold OnC at *
  have : -x * -x = x * x := by grind
  rw [this]; exact h

def Pt.turn (p : Pt) : Pt := ⟨-p.X, p.Y, p.Z⟩
theorem neg_mul_F (a b : Fp) : -a * b = -(a * b) := by grind
theorem Pt.turn_x (p : Pt) : p.turn.x = -p.x := neg_mul_F p.X (inv p.Z)
theorem Pt.turn_ok {d : Fp} {p : Pt} (h : p.ok d) : p.turn.ok d := ⟨h.1, by rw [p.turn_x]; exact on_neg h.2⟩

def Pt.none : Pt := ⟨0, 1, 1⟩
theorem inv_1 : inv (1 : Fp) = 1 := by
  have h := inv_mul (x := 1) iF_ne.2
  generalize inv 1 = z at *
  grind
theorem on_none (d : Fp) : OnC d 0 1 := by unfold OnC; grind
theorem Pt.one_x (x y : Fp) : Pt.x ⟨x, y, 1⟩ = x ∧ Pt.y ⟨x, y, 1⟩ = y := by
  unfold Pt.x Pt.y
  rw [inv_1]
  constructor <;> grind
theorem Pt.one_ok {d x y : Fp} (h : OnC d x y) : Pt.ok d ⟨x, y, 1⟩ := by
  refine ⟨iF_ne.2, ?_⟩
  rw [(Pt.one_x x y).1, (Pt.one_x x y).2]; exact h
theorem Pt.none_ok (d : Fp) : Pt.none.ok d := Pt.one_ok (on_none d)

theorem Pt.same {d : Fp} {p q : Pt} (hp : p.ok d) (hq : q.ok d) : (p.X * q.Z = q.X * p.Z ↔ p.x = q.x) ∧ (p.Y * q.Z = q.Y * p.Z ↔ p.y = q.y) := by
  obtain ⟨a1, a2⟩ := p.ex hp
  obtain ⟨b1, b2⟩ := q.ex hq
  have hz := mul_ne hp.1 hq.1
  rw [a1, a2, b1, b2]
  refine ⟨⟨fun h => mul_cancel hz ?_, fun h => ?_⟩, ⟨fun h => mul_cancel hz ?_, fun h => ?_⟩⟩
  · grind
  · rw [h]; grind
  · grind
  · rw [h]; grind

/-- the program's points -/
structure E4 where
  X : Fp
  Y : Fp
  Z : Fp
  T : Fp

def E4.pt (p : E4) : Pt := ⟨p.X, p.Y, p.Z⟩
def E4.ok (d : Fp) (p : E4) : Prop := p.pt.ok d ∧ p.X * p.Y = p.Z * p.T

/-- a point before it is brought to one z -/
structure Q4 where
  X : Fp
  Y : Fp
  Z : Fp
  T : Fp
def Q4.ex (q : Q4) : E4 := ⟨q.X * q.T, q.Y * q.Z, q.Z * q.T, q.X * q.Y⟩
def Q4.p2 (q : Q4) : Pt := ⟨q.X * q.T, q.Y * q.Z, q.Z * q.T⟩

def E4.plus (d : Fp) (p q : E4) : Q4 :=
  ⟨(p.Y + p.X) * (q.Y + q.X) - (p.Y - p.X) * (q.Y - q.X), (p.Y + p.X) * (q.Y + q.X) + (p.Y - p.X) * (q.Y - q.X),
   p.Z * q.Z + p.Z * q.Z + p.T * (q.T * (d + d)), p.Z * q.Z + p.Z * q.Z - p.T * (q.T * (d + d))⟩
def E4.minus (d : Fp) (p q : E4) : Q4 :=
  ⟨(p.Y + p.X) * (q.Y - q.X) - (p.Y - p.X) * (q.Y + q.X), (p.Y + p.X) * (q.Y - q.X) + (p.Y - p.X) * (q.Y + q.X),
   p.Z * q.Z + p.Z * q.Z - p.T * (q.T * (d + d)), p.Z * q.Z + p.Z * q.Z + p.T * (q.T * (d + d))⟩
def E4.turn (p : E4) : E4 := ⟨-p.X, p.Y, p.Z, -p.T⟩

theorem E4.minus_eq (d : Fp) (p q : E4) : p.minus d q = p.plus d q.turn := by
  unfold E4.minus E4.plus E4.turn
  dsimp only
  congr 1 <;> grind

theorem E4.turn_ok {d : Fp} {p : E4} (h : p.ok d) : p.turn.ok d := by
  obtain ⟨h1, h2⟩ := h
  refine ⟨Pt.turn_ok h1, ?_⟩
  show -p.X * p.Y = p.Z * -p.T
  grind

/-- what a sum must be -/
def Q4.good (d x y : Fp) (q : Q4) : Prop := q.ex.ok d ∧ q.p2.ok d ∧ q.p2.x = x ∧ q.p2.y = y

theorem Q4.mk_good {d x y m n e k X Y Z T : Fp} (hk : k ≠ 0) (h1 : 1 + e ≠ 0) (h2 : 1 - e ≠ 0) (hX : X = m * k) (hY : Y = n * k) (hZ : Z = (1 + e) * k) (hT : T = (1 - e) * k)
    (hx : x = m * inv (1 + e)) (hy : y = n * inv (1 - e)) (hon : OnC d x y) : Q4.good d x y ⟨X, Y, Z, T⟩ := by
  subst hX hY hZ hT
  have n1 := mul_ne h1 hk
  have n2 := mul_ne h2 hk
  have hz : (1 + e) * k * ((1 - e) * k) ≠ 0 := mul_ne n1 n2
  have ex : m * k * ((1 - e) * k) * inv ((1 + e) * k * ((1 - e) * k)) = x := by
    rw [hx]
    exact div_eq_div hz h1 (by clear hx hy hon hz n1 n2; grind)
  have ey : n * k * ((1 + e) * k) * inv ((1 + e) * k * ((1 - e) * k)) = y := by
    rw [hy]
    exact div_eq_div hz h2 (by clear hx hy hon hz n1 n2 ex; grind)
  have hp : Pt.ok d ⟨m * k * ((1 - e) * k), n * k * ((1 + e) * k), (1 + e) * k * ((1 - e) * k)⟩ := by
    refine ⟨hz, ?_⟩
    unfold Pt.x Pt.y
    dsimp only
    rw [ex, ey]; exact hon
  refine ⟨⟨hp, ?_⟩, hp, ex, ey⟩
  show m * k * ((1 - e) * k) * (n * k * ((1 + e) * k)) = (1 + e) * k * ((1 - e) * k) * (m * k * (n * k))
  clear hx hy hon hz n1 n2 ex ey hp
  grind

theorem E4.plus_good {d : Fp} {p q : E4} (hd : NSq d) (hp : p.ok d) (hq : q.ok d) : Q4.good d (aX d p.pt.x p.pt.y q.pt.x q.pt.y) (aY d p.pt.x p.pt.y q.pt.x q.pt.y) (p.plus d q) := by
  obtain ⟨hp, tp⟩ := hp
  obtain ⟨hq, tq⟩ := hq
  obtain ⟨k1, k2⟩ := den_ne hd hp.2 hq.2
  have hon := add_on hd hp.2 hq.2
  obtain ⟨a1, a2⟩ := p.pt.ex hp
  obtain ⟨b1, b2⟩ := q.pt.ex hq
  have hz := mul_ne hp.1 hq.1
  have z1 := hp.1
  have z2 := hq.1
  clear hp hq
  generalize p.pt.x = x1 at *
  generalize p.pt.y = y1 at *
  generalize q.pt.x = x2 at *
  generalize q.pt.y = y2 at *
  obtain ⟨X1, Y1, Z1, T1⟩ := p
  obtain ⟨X2, Y2, Z2, T2⟩ := q
  replace a1 : X1 = x1 * Z1 := a1
  replace a2 : Y1 = y1 * Z1 := a2
  replace b1 : X2 = x2 * Z2 := b1
  replace b2 : Y2 = y2 * Z2 := b2
  replace z1 : Z1 ≠ 0 := z1
  replace z2 : Z2 ≠ 0 := z2
  replace hz : Z1 * Z2 ≠ 0 := hz
  subst a1 a2 b1 b2
  replace tp : x1 * Z1 * (y1 * Z1) = Z1 * T1 := tp
  replace tq : x2 * Z2 * (y2 * Z2) = Z2 * T2 := tq
  have t1 : T1 = x1 * y1 * Z1 := mul_cancel z1 (by rw [← tp]; clear hon tq k1 k2; grind)
  have t2 : T2 = x2 * y2 * Z2 := mul_cancel z2 (by rw [← tq]; clear hon tp k1 k2; grind)
  subst t1 t2
  clear tp tq
  unfold E4.plus
  dsimp only
  refine Q4.mk_good (m := x1 * y2 + y1 * x2) (n := y1 * y2 + x1 * x2) (e := d * (x1 * x2) * (y1 * y2)) (k := 2 * (Z1 * Z2)) (mul_ne two_ne hz) k1 k2 ?_ ?_ ?_ ?_ rfl rfl hon
  all_goals (clear hon k1 k2 z1 z2 hz; grind)

def Pt.dbl (p : Pt) : Q4 :=
  ⟨(p.X + p.Y) * (p.X + p.Y) - (p.Y * p.Y + p.X * p.X), p.Y * p.Y + p.X * p.X, p.Y * p.Y - p.X * p.X, p.Z * p.Z + p.Z * p.Z - (p.Y * p.Y - p.X * p.X)⟩

theorem Pt.dbl_good {d : Fp} {p : Pt} (hd : NSq d) (hp : p.ok d) : Q4.good d (aX d p.x p.y p.x p.y) (aY d p.x p.y p.x p.y) p.dbl := by
  obtain ⟨k1, k2⟩ := den_ne hd hp.2 hp.2
  have hon := add_on hd hp.2 hp.2
  obtain ⟨a1, a2⟩ := p.ex hp
  have z1 := hp.1
  have ho := hp.2
  clear hp
  generalize p.x = x1 at *
  generalize p.y = y1 at *
  obtain ⟨X1, Y1, Z1⟩ := p
  replace a1 : X1 = x1 * Z1 := a1
  replace a2 : Y1 = y1 * Z1 := a2
  replace z1 : Z1 ≠ 0 := z1
  subst a1 a2
  unfold OnC at ho
  have he : d * (x1 * x1) * (y1 * y1) = y1 * y1 - x1 * x1 - 1 := by rw [ho]; grind
  unfold Pt.dbl
  dsimp only
  refine Q4.mk_good (m := x1 * y1 + y1 * x1) (n := y1 * y1 + x1 * x1) (e := d * (x1 * x1) * (y1 * y1)) (k := Z1 * Z1) (mul_ne z1 z1) k1 k2 ?_ ?_ ?_ ?_ rfl rfl hon
  · clear hon k1 k2 z1 he ho; grind
  · clear hon k1 k2 z1 he ho; grind
  · rw [he]; clear hon k1 k2 z1 he ho; grind
  · rw [he]; clear hon k1 k2 z1 he ho; grind

theorem sub_self_F (w : Fp) : w - w = 0 := by grind

/-- not both coordinates are nought -/
theorem Pt.nz {d : Fp} {p : Pt} (h : p.ok d) : ¬ (p.X = 0 ∧ p.Y = 0) := by
  rintro ⟨h1, h2⟩
  have ho := h.2
  unfold OnC Pt.x Pt.y at ho
  rw [h1, h2] at ho
  generalize inv p.Z = z at ho
  rw [sub_self_F, Fin.zero_mul, Fin.mul_zero, Fin.mul_zero, Fin.add_zero] at ho
  exact iF_ne.2 ho.symm

end Go.X

namespace Go.X

/-! ### the curve's number is no square; points in bytes, there and back -/

theorem half_sq {a b d : Fp} (hb : b ≠ 0) (ha : a ≠ 0) (h : a * a = d * (b * b)) : d ^ ((pN - 1) / 2) = 1 := by
  have h1 : d = a * inv b * (a * inv b) := by
    have := inv_mul hb
    generalize inv b = u at *
    have e : a * u * (a * u) = (a * a) * (u * u) := by grind
    rw [e, h]; grind
  have hn : a * inv b ≠ 0 := mul_ne ha (inv_ne hb)
  have h2 := fermatF hn
  rw [h1, mul_pow_F, ← pow_add_F, show (pN - 1) / 2 + (pN - 1) / 2 = pN - 1 from by decide]
  exact h2

theorem dN_half : (φ dN) ^ ((pN - 1) / 2) ≠ 1 := by
  intro h
  have e := congrArg Fin.val h
  have hlt : (pN - 1) / 2 < 2 ^ 600 := lt600 (k := 600) (by decide) (by decide)
  have hp : (pm (φ dN).val ((pN - 1) / 2) pN % pN == (1 : Fp).val) = false := by kernel_rfl
  rw [val_pow, ← pm_eq hlt] at e
  rw [e, beq_self_eq_true] at hp
  cases hp

theorem dF_ne : dF ≠ 0 := by
  rw [← dN_dF]
  intro h
  have e := congrArg Fin.val h
  exact absurd e (by decide +kernel)

theorem d_nsq : NSq dF := by
  intro a b hb h
  by_cases ha : a = 0
  · rw [ha] at h
    have : dF * (b * b) = 0 := by rw [← h]; grind
    rcases mul_zero_F this with h1 | h1
    · exact dF_ne h1
    · exact mul_ne hb hb h1
  · have := half_sq hb ha h
    rw [← dN_dF] at this
    exact dN_half this

theorem vF_ne (y : Fp) : vF y ≠ 0 := by
  intro h
  unfold vF at h
  by_cases hy : y = 0
  · rw [hy, g1] at h; exact iF_ne.2 h
  · exact d_nsq iF y hy (by rw [iF_sq]; grind)

/-- on the curve, by the square of the first coordinate -/
theorem on_iff {x y : Fp} : OnC dF x y ↔ x * x * vF y = uF y := by
  unfold OnC uF vF
  generalize dF = d
  constructor
  · intro h; grind
  · intro h; grind

theorem c_sq {x : Fp} (hx : x ≠ 0) : cF (x * x) = 1 ∨ cF (x * x) = -1 := by
  have h4 := fourth (cF_4 hx)
  have e : cF (x * x) = cF x * cF x := by unfold cF; exact mul_pow_F _ _ _
  rw [e]
  have hi := iF_sq
  rcases h4 with h | h | h | h <;> rw [h]
  · left; grind
  · left; grind
  · right; exact hi
  · right; grind

theorem on_ok {x y : Fp} (h : OnC dF x y) : okF (uF y) (vF y) ∧ sqF (uF y) (vF y) * sqF (uF y) (vF y) = x * x := by
  have h1 := on_iff.1 h
  have hv := vF_ne y
  by_cases hx : x = 0
  · subst hx
    have hu : uF y = 0 := by rw [← h1]; grind
    rw [hu]
    refine ⟨(zero_u _).1, ?_⟩
    rw [(zero_u _).2]
  · have hu : uF y ≠ 0 := by rw [← h1]; exact mul_ne (mul_ne hx hx) hv
    have e : uF y * inv (vF y) = x * x := (eq_div hv h1).symm
    have hok : okF (uF y) (vF y) := by
      rw [ok_iff hu hv, e]; exact c_sq hx
    refine ⟨hok, ?_⟩
    unfold sqF
    rw [absF_sq, sel_sq hu hv, if_pos hok, e]

theorem neg_odd {x : Fp} (hx : x ≠ 0) (h : x.val % 2 = 0) : (-x).val % 2 = 1 := by
  have hl := x.isLt
  have h0 : x.val ≠ 0 := fun e => hx (Fin.ext (by rw [e]; rfl))
  have hv : (-x).val = pN - x.val := by
    rw [Fin.val_neg', Nat.mod_eq_of_lt (by omega)]
  have hp : pN % 2 = 1 := by decide
  rw [hv]; omega

theorem sq_even (u v : Fp) : (sqF u v).val % 2 = 0 := absF_even _

/-- the coordinate comes again of the other one and its bit -/
theorem xF_on {x y : Fp} (h : OnC dF x y) {s : Int} (hs : s = if x.val % 2 = 1 then 1 else 0) : xF y s = x := by
  obtain ⟨-, h2⟩ := on_ok h
  have he := sq_even (uF y) (vF y)
  unfold xF
  generalize sqF (uF y) (vF y) = r at *
  by_cases ho : x.val % 2 = 1
  · rw [if_pos ho] at hs
    rw [if_pos hs]
    rcases sq_eq h2 with h3 | h3
    · rw [h3] at he; omega
    · rw [h3]; grind
  · rw [if_neg ho] at hs
    rw [if_neg (by omega)]
    rcases sq_eq h2 with h3 | h3
    · exact h3
    · by_cases hr : r = 0
      · rw [hr] at h3 ⊢
        have : x = -0 := by rw [h3]; grind
        rw [this]; grind
      · have := neg_odd hr he
        have e : -r = x := by rw [h3]; grind
        rw [e] at this
        exact absurd this ho

/-- what is decoded is on the curve -/
theorem dec_on {b : List Int} (hp : isPt b) : OnC dF (xF (eF b) (sgB b)) (eF b) := by
  have hv := vF_ne (eF b)
  rw [on_iff]
  by_cases hu : uF (eF b) = 0
  · have e : xF (eF b) (sgB b) = 0 := by
      unfold xF
      rw [hu, (zero_u _).2]
      by_cases h : sgB b = 1
      · rw [if_pos h]; grind
      · rw [if_neg h]
    rw [e, hu]; grind
  · exact xF_sq hv hu hp

theorem or_128 : ∀ n : Nat, n < 128 → (n ||| 128) = n + 128 := by decide

theorem op_or128 {x : Int} (h : 0 ≤ x ∧ x < 128) : op2 .or .u8 x 128 = x + 128 := by
  obtain ⟨n, rfl⟩ := Int.eq_ofNat_of_zero_le h.1
  have hn : n < 128 := by omega
  have e1 := (bits_nat .u8 8 (by decide) (fun n a b => wrap_w (k := .u8) n a b) n 128 (by omega) (by decide)).2
  have e : op2 .or .u8 (n : Int) 128 = ((n ||| 128 : Nat) : Int) := e1
  rw [e, or_128 n hn]; omega

theorem bB_split (y : Fp) : bB y = toD 256 31 (y.val : Int) ++ [(y.val : Int) / 256 ^ 31] ∧ (0 ≤ (y.val : Int) / 256 ^ 31 ∧ (y.val : Int) / 256 ^ 31 < 128) := by
  obtain ⟨h0, h1⟩ := val_lt y
  have e : toD 256 32 (y.val : Int) = toD 256 31 (y.val : Int) ++ toD 256 1 ((y.val : Int) / 256 ^ 31) := toD_split (by decide) 31 1 _
  have p : (256 : Int) ^ 31 = 452312848583266388373324160190187140051835877600158453279131187530910662656 := by decide
  have hb : 0 ≤ (y.val : Int) / 256 ^ 31 ∧ (y.val : Int) / 256 ^ 31 < 128 := by rw [p]; omega
  refine ⟨?_, hb⟩
  unfold bB
  rw [e]
  have : toD 256 1 ((y.val : Int) / 256 ^ 31) = [((y.val : Int) / 256 ^ 31) % 256] := rfl
  rw [this, Int.emod_eq_of_lt hb.1 (by omega)]

theorem ofD_bB (y : Fp) : ofD 256 (bB y) = y.val := by
  obtain ⟨h0, h1⟩ := val_lt y
  unfold bB
  rw [ofD_toD (by decide)]
  exact Int.emod_eq_of_lt h0 (Int.lt_trans h1 (by decide))

/-- the number of a point's bytes -/
theorem ofD_encB (x y : Fp) : ofD 256 (encB x y) = y.val + (if x.val % 2 = 1 then 57896044618658097711785492504343953926634992332820282019728792003956564819968 else 0) := by
  unfold encB
  by_cases h : x.val % 2 = 1
  · rw [if_pos h, if_pos h]
    obtain ⟨e, hb⟩ := bB_split y
    have hy := ofD_bB y
    rw [e] at hy ⊢
    have l31 := toD_len 256 31 (y.val : Int)
    rw [List.take_left' l31, List.getD_eq_getElem?_getD, List.getElem?_append_right (by rw [l31]; decide), l31]
    show ofD 256 (toD 256 31 (y.val : Int) ++ [op2 .or .u8 ((y.val : Int) / 256 ^ 31) 128]) = _
    rw [op_or128 hb]
    rw [ofD_append, l31] at hy ⊢
    have e1 : ∀ z : Int, ofD 256 [z] = z + 256 * 0 := fun z => rfl
    rw [e1] at hy ⊢
    have p : (256 : Int) ^ 31 = 452312848583266388373324160190187140051835877600158453279131187530910662656 := by decide
    rw [p] at hy ⊢
    generalize ofD 256 (toD 256 31 (y.val : Int)) = A at *
    generalize (y.val : Int) / 452312848583266388373324160190187140051835877600158453279131187530910662656 = B at *
    omega
  · rw [if_neg h, if_neg h, ofD_bB, Int.add_zero]

theorem enc_eF (x y : Fp) : eF (encB x y) = y := by
  unfold eF
  rw [el_val, ofD_encB]
  obtain ⟨h0, h1⟩ := val_lt y
  have e : ((y.val : Int) + (if x.val % 2 = 1 then (57896044618658097711785492504343953926634992332820282019728792003956564819968 : Int) else 0)) % 57896044618658097711785492504343953926634992332820282019728792003956564819968 = y.val := by
    by_cases h : x.val % 2 = 1
    · rw [if_pos h]; omega
    · rw [if_neg h]; omega
  rw [e, φ_of]

theorem enc_sg (x y : Fp) : sgB (encB x y) = if x.val % 2 = 1 then 1 else 0 := by
  unfold sgB
  rw [ofD_encB]
  obtain ⟨h0, h1⟩ := val_lt y
  by_cases h : x.val % 2 = 1
  · rw [if_pos h, if_pos h]; omega
  · rw [if_neg h, if_neg h]; omega

/-- bytes of a point are a point, and this one -/
theorem enc_dec {x y : Fp} (h : OnC dF x y) : isPt (encB x y) ∧ eF (encB x y) = y ∧ xF (eF (encB x y)) (sgB (encB x y)) = x := by
  have e := enc_eF x y
  refine ⟨?_, e, ?_⟩
  · unfold isPt; rw [e]; exact (on_ok h).1
  · rw [e]; exact xF_on h (enc_sg x y)

end Go.X

set_option maxRecDepth 20000
namespace Go.X

/-! ### points: what is said of them, in words -/

theorem seg_at {v : Nat → Int} {xs : List Int} {n : Nat} (h : seg v 0 n = xs) (k : Nat) {m : Nat} (hk : k + m ≤ n) : seg v k m = (xs.drop k).take m := by
  rw [← h, seg_drop v (by omega), seg_take v (by omega), Nat.zero_add]

/-- the words of a point -/
def pL (p : Pt) : List Int := nF p.X ++ (nF p.Y ++ nF p.Z)
theorem pL_len (p : Pt) : (pL p).length = 48 := by
  unfold pL; rw [List.length_append, List.length_append, nF_len, nF_len, nF_len]
theorem pL_in (p : Pt) : InB (WB 48) (pL p) := InB.append (a := WB 16) (b := WB 32) (nF_in _) (nF_in2 _ _)

theorem seg_pL {v : Nat → Int} {k : Nat} {p : Pt} (h : seg v k 48 = pL p) : seg v k 16 = nF p.X ∧ seg v (k + 16) 16 = nF p.Y ∧ seg v (k + 32) 16 = nF p.Z := by
  obtain ⟨h1, h2⟩ := seg_two (n := 16) (m := 32) h (nF_len _)
  obtain ⟨h3, h4⟩ := seg_two (n := 16) (m := 16) h2 (nF_len _)
  exact ⟨h1, h3, h4⟩

theorem seg32 {v : Nat → Int} (k : Nat) : seg v k 32 = seg v k 16 ++ seg v (k + 16) 16 := seg_add v 16 16 k

theorem cPlus_val (d : Fp) (p q : Pt) : s_cPlus.f (nF d ++ (pL p ++ pL q)) = pL (p.plus d q) := by
  have hx : InB (WB 112) (nF d ++ (pL p ++ pL q)) := InB.append (a := WB 16) (b := WB 96) (nF_in _) (InB.append (a := WB 48) (b := WB 48) (pL_in _) (pL_in _))
  obtain ⟨v, -, hin, ⟨h112, h128, h144, h160, h176, h192, h208, h224, h240, h256, h272, h288, h304, h320, h336, h352, h368, h384, h400⟩, -, hf⟩ := E_cPlus _ hx
  obtain ⟨k0, k1⟩ := seg_two (n := 16) (m := 96) hin (nF_len _)
  obtain ⟨k1, k2⟩ := seg_two (n := 48) (m := 48) k1 (pL_len _)
  obtain ⟨x1, y1, z1⟩ := seg_pL k1
  obtain ⟨x2, y2, z2⟩ := seg_pL k2
  have x1 : seg v 16 16 = _ := x1
  have y1 : seg v 32 16 = _ := y1
  have z1 : seg v 48 16 = _ := z1
  have x2 : seg v 64 16 = _ := x2
  have y2 : seg v 80 16 = _ := y2
  have z2 : seg v 96 16 = _ := z2
  rw [z1, z2, FMul_val, gets_all (nF_len _)] at h112
  rw [h112, FMul_val, gets_all (nF_len _)] at h128
  rw [x1, x2, FMul_val, gets_all (nF_len _)] at h144
  rw [y1, y2, FMul_val, gets_all (nF_len _)] at h160
  rw [seg32, h144, h160, FMul_val, gets_all (nF_len _)] at h176
  rw [k0, h176, FMul_val, gets_all (nF_len _)] at h192
  rw [h128, h192, FSub_val, gets_all (nF_len _)] at h208
  rw [h128, h192, FAdd_val, gets_all (nF_len _)] at h224
  rw [seg32, x1, y1, FAdd_val, gets_all (nF_len _)] at h240
  rw [seg32, x2, y2, FAdd_val, gets_all (nF_len _)] at h256
  rw [seg32, h240, h256, FMul_val, gets_all (nF_len _)] at h272
  rw [h272, h144, FSub_val, gets_all (nF_len _)] at h288
  rw [h288, h160, FSub_val, gets_all (nF_len _)] at h304
  rw [h112, h208, FMul_val, gets_all (nF_len _)] at h320
  rw [h320, h304, FMul_val, gets_all (nF_len _)] at h336
  rw [h112, h224, FMul_val, gets_all (nF_len _)] at h352
  rw [seg32, h144, h160, FAdd_val, gets_all (nF_len _)] at h368
  rw [seg32, h352, h368, FMul_val, gets_all (nF_len _)] at h384
  rw [seg32, h208, h224, FMul_val, gets_all (nF_len _)] at h400
  rw [hf, h336, seg32, h384, h400]
  rfl

/-! sameness -/

def w16 (xs : List Int) (k : Nat) : List Int := (xs.drop k).take 16
def cE1 (xs : List Int) : Int := b2i (s_FMul.f (w16 xs 16 ++ w16 xs 96) == s_FMul.f (w16 xs 64 ++ w16 xs 48))
def cE2 (xs : List Int) : Int := b2i (s_FMul.f (w16 xs 32 ++ w16 xs 96) == s_FMul.f (w16 xs 80 ++ w16 xs 48))
def f_cSame (xs : List Int) : List Int := if cE1 xs ≠ 0 then [cE2 xs] else [0]

theorem b2i_01 (b : Bool) : 0 ≤ b2i b ∧ b2i b ≤ 1 := by cases b <;> decide

def s_cSame : Sem := Sem.of f_cSame (WB 112) [(0, 1)] (fun xs _ => by
  unfold f_cSame
  split
  · exact ⟨(b2i_01 _).1, (b2i_01 _).2, trivial⟩
  · exact ⟨by decide, by decide, trivial⟩)

theorem WB_sub : ∀ (n : Nat) {xs : List Int}, InB (WB (n + 16)) xs → InB (WB 16) (xs.drop n) := by
  intro n xs h
  have e : WB (n + 16) = WB n ++ WB 16 := by unfold WB; exact List.replicate_append_replicate.symm
  rw [e] at h
  have := (InB.split h).2
  have hl : (WB n).length = n := by unfold WB; exact List.length_replicate ..
  rw [hl] at this
  exact this

theorem w16_in {xs : List Int} (h : InB (WB 112) xs) (k m : Nat) (hk : k + 16 + m = 112) : InB (WB 16) (w16 xs k) := by
  have e : WB 112 = WB (k + 16) ++ WB m := by rw [← hk]; unfold WB; exact List.replicate_append_replicate.symm
  rw [e] at h
  have h1 := (InB.split h).1
  have hl : (WB (k + 16)).length = k + 16 := by unfold WB; exact List.length_replicate ..
  rw [hl] at h1
  have h2 := WB_sub k h1
  unfold w16
  have e2 : (xs.take (k + 16)).drop k = (xs.drop k).take 16 := by rw [List.drop_take]; congr 1; omega
  rw [e2] at h2; exact h2

theorem cov_cSame : Covered l_cSame s_cSame q_cSame := by
  intro xs hx
  have hx : InB (WB 112) xs := hx
  have hs : s_cSame.f xs = f_cSame xs := rfl
  have lM : ∀ {a b : List Int}, InB (WB 16) a → InB (WB 16) b → (s_FMul.f (a ++ b)).length = 16 := fun ha hb => (FMul_bd ha hb).len
  have i1 := w16_in hx 16 80 rfl
  have i2 := w16_in hx 32 64 rfl
  have i3 := w16_in hx 48 48 rfl
  have i4 := w16_in hx 64 32 rfl
  have i5 := w16_in hx 80 16 rfl
  have i6 := w16_in hx 96 0 rfl
  have key : ∀ {v : Nat → Int}, seg v 0 112 = xs → seg v 112 16 = gets (s_FMul.f (seg v 16 16 ++ seg v 96 16)) 0 16 → seg v 128 16 = gets (s_FMul.f (seg v 64 16 ++ seg v 48 16)) 0 16 → v 144 = b2i ((seg v 112 16) == (seg v 128 16)) → v 144 = cE1 xs := by
    intro v hin h1 h2 h3
    have k1 : seg v 16 16 = w16 xs 16 := seg_at hin 16 (by decide)
    have k3 : seg v 48 16 = w16 xs 48 := seg_at hin 48 (by decide)
    have k4 : seg v 64 16 = w16 xs 64 := seg_at hin 64 (by decide)
    have k6 : seg v 96 16 = w16 xs 96 := seg_at hin 96 (by decide)
    rw [k1, k6, gets_all (lM i1 i6)] at h1
    rw [k4, k3, gets_all (lM i4 i3)] at h2
    rw [h1, h2] at h3
    exact h3
  by_cases hc : cE1 xs ≠ 0
  · obtain ⟨v, hv, hin, ⟨h112, h128, h144, h145, h161, h177⟩, -, hc', hout⟩ := E_cSame_0 xs hx
    have e := key hin h112 h128 h144
    have k2 : seg v 32 16 = w16 xs 32 := seg_at hin 32 (by decide)
    have k3 : seg v 48 16 = w16 xs 48 := seg_at hin 48 (by decide)
    have k5 : seg v 80 16 = w16 xs 80 := seg_at hin 80 (by decide)
    have k6 : seg v 96 16 = w16 xs 96 := seg_at hin 96 (by decide)
    rw [k2, k6, gets_all (lM i2 i6)] at h145
    rw [k5, k3, gets_all (lM i5 i3)] at h161
    rw [h145, h161] at h177
    refine ⟨q_cSame_0, List.mem_of_getElem? (show q_cSame[0]? = some q_cSame_0 from rfl), hx, ?_, ?_⟩
    · show CondHold (vals l_cSame g_cSame_0 xs) _
      rw [hv, hc', e]; exact ⟨ne_t hc, trivial⟩
    · show _ = outs_cSame_0.map (A.ev (vals l_cSame g_cSame_0 xs))
      rw [hv, hout, hs, f_cSame, if_pos hc, h177]; rfl
  · obtain ⟨v, hv, hin, ⟨h112, h128, h144⟩, -, hc', hout⟩ := E_cSame_1 xs hx
    have e := key hin h112 h128 h144
    refine ⟨q_cSame_1, List.mem_of_getElem? (show q_cSame[1]? = some q_cSame_1 from rfl), hx, ?_, ?_⟩
    · show CondHold (vals l_cSame g_cSame_1 xs) _
      rw [hv, hc', e]; exact ⟨ne_f hc, trivial⟩
    · show _ = outs_cSame_1.map (A.ev (vals l_cSame g_cSame_1 xs))
      rw [hv, hout, hs, f_cSame, if_neg hc]

theorem cSame_val (d : Fp) (p q : Pt) : f_cSame (nF d ++ (pL p ++ pL q)) = [if p.X * q.Z = q.X * p.Z ∧ p.Y * q.Z = q.Y * p.Z then 1 else 0] := by
  have l0 := nF_len d
  have lp := pL_len p
  have t : ∀ (x : Fp) (r : List Int), (nF x ++ r).take 16 = nF x := fun x r => take_nF x r
  have s16 : w16 (nF d ++ (pL p ++ pL q)) 16 = nF p.X := by
    unfold w16; rw [List.drop_left' l0]; unfold pL; rw [List.append_assoc]; exact t _ _
  have e32 : (nF d ++ (pL p ++ pL q)).drop 32 = nF p.Y ++ (nF p.Z ++ pL q) := by
    rw [show 32 = 16 + 16 from rfl, ← List.drop_drop, List.drop_left' l0]
    show ((nF p.X ++ (nF p.Y ++ nF p.Z)) ++ pL q).drop 16 = _
    rw [List.append_assoc, List.drop_left' (nF_len _), List.append_assoc]
  have s32 : w16 (nF d ++ (pL p ++ pL q)) 32 = nF p.Y := by unfold w16; rw [e32]; exact t _ _
  have e48 : (nF d ++ (pL p ++ pL q)).drop 48 = nF p.Z ++ pL q := by
    rw [show 48 = 32 + 16 from rfl, ← List.drop_drop, e32, List.drop_left' (nF_len _)]
  have s48 : w16 (nF d ++ (pL p ++ pL q)) 48 = nF p.Z := by unfold w16; rw [e48]; exact t _ _
  have e64 : (nF d ++ (pL p ++ pL q)).drop 64 = nF q.X ++ (nF q.Y ++ nF q.Z) := by
    rw [show 64 = 48 + 16 from rfl, ← List.drop_drop, e48, List.drop_left' (nF_len _)]; rfl
  have s64 : w16 (nF d ++ (pL p ++ pL q)) 64 = nF q.X := by unfold w16; rw [e64]; exact t _ _
  have e80 : (nF d ++ (pL p ++ pL q)).drop 80 = nF q.Y ++ nF q.Z := by
    rw [show 80 = 64 + 16 from rfl, ← List.drop_drop, e64, List.drop_left' (nF_len _)]
  have s80 : w16 (nF d ++ (pL p ++ pL q)) 80 = nF q.Y := by unfold w16; rw [e80]; exact t _ _
  have e96 : (nF d ++ (pL p ++ pL q)).drop 96 = nF q.Z := by
    rw [show 96 = 80 + 16 from rfl, ← List.drop_drop, e80, List.drop_left' (nF_len _)]
  have s96 : w16 (nF d ++ (pL p ++ pL q)) 96 = nF q.Z := by
    unfold w16; rw [e96, List.take_of_length_le (by rw [nF_len]; decide)]
  have hb : ∀ a b : Fp, b2i (nF a == nF b) = if a = b then 1 else 0 := by
    intro a b
    rw [b2i_beq]
    by_cases h : a = b
    · rw [if_pos h, if_pos (by rw [h])]
    · rw [if_neg h, if_neg (fun e => h (nF_inj e))]
  unfold f_cSame cE1 cE2
  rw [s16, s96, s64, s48, s32, s80, FMul_val, FMul_val, FMul_val, FMul_val, hb, hb]
  by_cases h1 : p.X * q.Z = q.X * p.Z
  · rw [if_pos h1, if_pos (by decide)]
    by_cases h2 : p.Y * q.Z = q.Y * p.Z
    · rw [if_pos h2, if_pos ⟨h1, h2⟩]
    · rw [if_neg h2, if_neg (fun e => h2 e.2)]
  · rw [if_neg h1, if_neg (by decide), if_neg (fun e => h1 e.1)]

/-! on the curve -/

def onE (X Y Z T : Fp) : Prop := Y * Y - X * X = dF * (T * T) + Z * Z ∧ X * Y = T * Z
instance (X Y Z T : Fp) : Decidable (onE X Y Z T) := inferInstanceAs (Decidable (_ ∧ _))
/-! small ones -/

theorem None_val : s_None.f [] = [1, 1] := by
  obtain ⟨v, -, -, ⟨h0, h1⟩, -, hf⟩ := E_None [] trivial
  rw [Small_val (by decide) (by decide)] at h0 h1
  rw [hf, h0, h1]; rfl

end Go.X

set_option maxRecDepth 20000
namespace Go.X

/-! ### multiples of points -/

def timF (c e p : List Int) : Nat → List Int → List Int
  | 0, o => o
  | n + 1, o => timF c e p n (if bitOf e n = 1 then s_cPlus.f (c ++ (s_cPlus.f (c ++ (o ++ o)) ++ p)) else s_cPlus.f (c ++ (o ++ o)))

def f_timl (xs : List Int) : List Int := timF (xs.take 16) ((xs.drop 16).take 16) ((xs.drop 32).take 48) (xs.getD 80 0 + 1).toNat (xs.drop 81)

theorem cPlus_bd {c o p : List Int} (hc : InB (WB 16) c) (ho : InB (WB 48) o) (hp : InB (WB 48) p) : InB (WB 48) (s_cPlus.f (c ++ (o ++ p))) :=
  s_cPlus.ok _ _ (show s_cPlus.bt (WB 112) = some (WB 48) by kernel_rfl) _ (InB.append (a := WB 16) (b := WB 96) hc (InB.append (a := WB 48) (b := WB 48) ho hp))

theorem timF_bd {c e p : List Int} (hc : InB (WB 16) c) (hp : InB (WB 48) p) : ∀ (n : Nat) {o : List Int}, InB (WB 48) o → InB (WB 48) (timF c e p n o)
  | 0, _, h => h
  | n + 1, o, h => by
    have h2 := cPlus_bd hc h h
    show InB (WB 48) (timF c e p n (if bitOf e n = 1 then s_cPlus.f (c ++ (s_cPlus.f (c ++ (o ++ o)) ++ p)) else s_cPlus.f (c ++ (o ++ o))))
    by_cases hb : bitOf e n = 1
    · rw [if_pos hb]; exact timF_bd hc hp n (cPlus_bd hc h2 hp)
    · rw [if_neg hb]; exact timF_bd hc hp n h2

abbrev bTl : Bd := WB 16 ++ (WB 16 ++ (WB 48 ++ ([(-1, 255)] ++ WB 48)))

theorem bTl_split {xs : List Int} (h : InB bTl xs) : InB (WB 16) (xs.take 16) ∧ InB (WB 16) ((xs.drop 16).take 16) ∧ InB (WB 48) ((xs.drop 32).take 48) ∧ InB (WB 48) (xs.drop 81) := by
  obtain ⟨h1, h2⟩ := InB.split h
  obtain ⟨h2, h3⟩ := InB.split h2
  obtain ⟨h3, h4⟩ := InB.split h3
  obtain ⟨-, h5⟩ := InB.split h4
  rw [List.drop_drop] at h3 h5
  rw [List.drop_drop, List.drop_drop] at h5
  exact ⟨h1, h2, h3, h5⟩

def s_timl : Sem := Sem.of f_timl bTl (WB 48) (fun _ h => by
  obtain ⟨h1, -, h3, h4⟩ := bTl_split h
  exact timF_bd h1 h3 _ h4)

end Go.X
