/-
  A part of the proof of Ytkjhclknbkleoaa: texts Rn, M20, M21. No conditions.
-/
import Derived.Test.YtkjhclknbkleoaaQ14
import Derived.KernelRfl
import Derived.Test.YtkjhclknbkleoaaProg
set_option maxRecDepth 20000
namespace Go.X.Y
open Go.Proofs
noncomputable section
def T_ElSums : Tmpl := ⟨15, [.one (.lf (.slc 0 0 32 none)), .one (.lf (.slc 1 0 32 none)), .one (.lf (.slc 2 0 64 none)), .one (.lf (.int .u32 (.v 128)))], [(us .u8 0 32), (us .u8 32 32), (us .u8 64 64)], 129, 322, true, .one (.agg [.slc 3 0 10 (some 10), .bool (.v 129), .bool (.v 130)]), [none, none, none], [[.slc 4 0 32 (some 32), .slc 5 0 32 (some 32), .slc 6 0 32 (some 32), .slc 7 0 32 (some 32), .slc 8 0 32 (some 32), .slc 9 0 32 (some 32), .slc 10 0 32 (some 32), .slc 11 0 32 (some 32), .slc 12 0 32 (some 32), .slc 13 0 32 (some 32)], (us .u8 131 32), (us .u8 163 32), (us .u8 195 32), (us .u8 227 32), (us .u8 259 32), (us .u8 291 32), (us .u8 323 32), (us .u8 355 32), (us .u8 387 32), (us .u8 419 32)]⟩
def p_ElSums : Path := ⟨((bs 128 0 255) ++ [(0, 4294967295)]), [], ⟨.one (.agg [.slc 25 0 10 (some 10), .bool (.v 505), .bool (.v 507)]), [(us .u8 0 32), (us .u8 32 32), (us .u8 64 64), [.slc 25 0 10 (some 10), .bool (.v 505), .bool (.v 507)], (us .u64 129 5), (us .u64 134 5), (us .u64 139 5), (us .u8 144 32), (us .u64 176 5), (us .u8 181 32), (us .u64 213 5), (us .u8 218 32), (us .u64 250 5), (us .u8 255 32), (us .u64 287 5), (us .u8 292 32), (us .u64 324 5), (us .u8 329 32), (us .u64 361 5), (us .u8 366 32), (us .u64 398 5), (us .u8 403 32), (us .u8 435 32), (us .u64 467 5), (us .u8 472 32), [.slc 7 0 32 (some 32), .slc 9 0 32 (some 32), .slc 11 0 32 (some 32), .slc 13 0 32 (some 32), .slc 15 0 32 (some 32), .slc 17 0 32 (some 32), .slc 19 0 32 (some 32), .slc 21 0 32 (some 32), .slc 22 0 32 (some 32), .slc 24 0 32 (some 32)]], ⟨g_ElSums, 508, [.pre 18 (vs 129 10), .pre 11 (vs 129 5), .pre 10 (vs 467 5), .pre 12 (vs 129 5), .pre 19 [], .pre 10 (vs 139 5), .pre 10 (vs 398 5), .pre 15 ((vs 129 5) ++ [(.v 128)]), .pre 19 [], .pre 10 (vs 361 5), .pre 13 (vs 129 5), .pre 19 [], .pre 10 (vs 324 5), .pre 3 (vs 129 5), .pre 19 [], .pre 10 (vs 287 5), .pre 0 (vs 129 10), .pre 19 [], .pre 10 (vs 250 5), .pre 9 (vs 129 5), .pre 19 [], .pre 10 (vs 213 5), .pre 7 (vs 129 10), .pre 19 [], .pre 10 (vs 176 5), .pre 5 (vs 129 10), .pre 19 [], .pre 10 (vs 129 5), .pre 16 (vs 64 64), .pre 19 [], .pre 17 (vs 32 32), .pre 17 (vs 0 32)], [], [3, 23, 20, 18, 16, 14, 12, 10, 8, 6]⟩⟩, ⟨outs_ElSums, [25, 7, 9, 11, 13, 15, 17, 19, 21, 22, 24]⟩, 200⟩
theorem r_ElSums : runBody Try.prog [T_Mul, T_Mulx, T_Muly, T_Sq, T_Sqx, T_Add, T_Addx, T_Sub, T_Subx, T_Neg, T_Bytes, T_IsNeg, T_Abs, T_Invert, T_Invertx, T_Mult32, T_SetWide, T_element, T_Equal, T_newEl] [] Try.f15 p_ElSums.fuel T_ElSums.args T_ElSums.mem T_ElSums.nin p_ElSums.orc = some p_ElSums.out := by kernel_rfl
theorem good_ElSums (W : World0 Try.prog) : Good W T_ElSums s_ElSums := straight (l := l_ElSums) (p := p_ElSums) (by exact ⟨good_Mul W, good_Mulx W, good_Muly W, good_Sq W, good_Sqx W, good_Add W, good_Addx W, good_Sub W, good_Subx W, good_Neg W, good_Bytes W, good_IsNeg W, good_Abs W, good_Invert W, good_Invertx W, good_Mult32 W, good_SetWide W, good_element W, good_Equal W, good_newEl W, trivial⟩) Try.func15 Try.call15 r_ElSums (by kernel_rfl) rfl

end
end Go.X.Y

namespace Go.X

/-! ### the program's sums of elements -/

theorem bytesLB {r : List Int} (h : InB LB r) : s_Bytes.f r = toD 256 32 ((φ (v51 r)).val : Int) := by
  rw [Bytes_val r h, φ_val]

theorem mul51_val {a b : Int} (ha : 0 ≤ a ∧ a ≤ 4503599627370458) (hb : 0 ≤ b ∧ b ≤ 4294967295) : ∃ l h, s_mul51.f [a, b] = [l, h] ∧ l + 2251799813685248 * h = a * b := by
  have hx : InB [(0, 4503599627370458), (0, 4294967295)] [a, b] := ⟨ha.1, ha.2, hb.1, hb.2, trivial⟩
  obtain ⟨v, -, hin, ⟨h2, h3, h5, h6, h7, h8⟩, -, hf⟩ := E_mul51 [a, b] hx
  have e0 : v 0 = a := (List.cons.inj hin).1
  have e1 : v 1 = b := (List.cons.inj (List.cons.inj hin).2).1
  have m : s_mul64.f [a, b] = [a * b / 18446744073709551616, a * b % 18446744073709551616] := mul64_val ha.1 (by omega) hb.1 (by omega)
  rw [e0, h2, e1] at h3
  have h3 : seg v 3 2 = gets (s_mul64.f [a, b]) 0 2 := h3
  rw [m] at h3
  have h3 : [v 3, v 4] = [a * b / 18446744073709551616, a * b % 18446744073709551616] := h3
  have e3 : v 3 = a * b / 18446744073709551616 := (List.cons.inj h3).1
  have e4 : v 4 = a * b % 18446744073709551616 := (List.cons.inj (List.cons.inj h3).2).1
  refine ⟨v 5, v 8, hf, ?_⟩
  rw [h8, h6, h7, h5, e3, e4]
  generalize a * b = c
  omega

theorem seg2 {v : Nat → Int} {x : Nat} {l h : Int} (e : seg v x 2 = gets [l, h] 0 2) : v x = l ∧ v (x + 1) = h :=
  ⟨(List.cons.inj e).1, (List.cons.inj (List.cons.inj e).2).1⟩

theorem Mult32_v {a0 a1 a2 a3 a4 m : Int} (ha : InB LB [a0, a1, a2, a3, a4]) (hm : 0 ≤ m ∧ m ≤ 4294967295) : ∃ k4, v51 (s_Mult32.f [a0, a1, a2, a3, a4, m]) = v51 [a0, a1, a2, a3, a4] * m - p25519 * k4 := by
  have hx : InB (LB ++ [(0, 4294967295)]) [a0, a1, a2, a3, a4, m] := InB.append ha ⟨hm.1, hm.2, trivial⟩
  obtain ⟨v, -, hin, ⟨h6, h8, h10, h12, h14, h16, h17, h18, h19, h20, h21⟩, -, hf⟩ := E_Mult32 _ hx
  obtain ⟨p0, p1, q0, q1, r0, r1, s0, s1, t0, t1, -⟩ := ha
  have e0 : v 0 = a0 := (List.cons.inj hin).1
  have hin := (List.cons.inj hin).2
  have e1 : v 1 = a1 := (List.cons.inj hin).1
  have hin := (List.cons.inj hin).2
  have e2 : v 2 = a2 := (List.cons.inj hin).1
  have hin := (List.cons.inj hin).2
  have e3 : v 3 = a3 := (List.cons.inj hin).1
  have hin := (List.cons.inj hin).2
  have e4 : v 4 = a4 := (List.cons.inj hin).1
  have hin := (List.cons.inj hin).2
  have e5 : v 5 = m := (List.cons.inj hin).1
  obtain ⟨l0, k0, f0, g0⟩ := mul51_val (a := a0) (b := m) ⟨p0, p1⟩ hm
  obtain ⟨l1, k1, f1, g1⟩ := mul51_val (a := a1) (b := m) ⟨q0, q1⟩ hm
  obtain ⟨l2, k2, f2, g2⟩ := mul51_val (a := a2) (b := m) ⟨r0, r1⟩ hm
  obtain ⟨l3, k3, f3, g3⟩ := mul51_val (a := a3) (b := m) ⟨s0, s1⟩ hm
  obtain ⟨l4, k4, f4, g4⟩ := mul51_val (a := a4) (b := m) ⟨t0, t1⟩ hm
  rw [e0, e5] at h6
  rw [e1, e5] at h8
  rw [e2, e5] at h10
  rw [e3, e5] at h12
  have h6 : seg v 6 2 = gets (s_mul51.f [a0, m]) 0 2 := h6
  have h8 : seg v 8 2 = gets (s_mul51.f [a1, m]) 0 2 := h8
  have h10 : seg v 10 2 = gets (s_mul51.f [a2, m]) 0 2 := h10
  have h12 : seg v 12 2 = gets (s_mul51.f [a3, m]) 0 2 := h12
  have h14 : seg v 14 2 = gets (s_mul51.f [v 4, v 5]) 0 2 := h14
  rw [e4, e5, f4] at h14
  rw [f0] at h6
  rw [f1] at h8
  rw [f2] at h10
  rw [f3] at h12
  obtain ⟨u6, u7⟩ := seg2 h6
  obtain ⟨u8, u9⟩ := seg2 h8
  obtain ⟨u10, u11⟩ := seg2 h10
  obtain ⟨u12, u13⟩ := seg2 h12
  obtain ⟨u14, u15⟩ := seg2 h14
  refine ⟨k4, ?_⟩
  rw [hf]
  show v 17 + 2251799813685248 * (v 18 + 2251799813685248 * (v 19 + 2251799813685248 * (v 20 + 2251799813685248 * (v 21 + 2251799813685248 * 0)))) =
    (a0 + 2251799813685248 * (a1 + 2251799813685248 * (a2 + 2251799813685248 * (a3 + 2251799813685248 * (a4 + 2251799813685248 * 0))))) * m - p25519 * k4
  have u7 : v 7 = k0 := u7
  have u9 : v 9 = k1 := u9
  have u11 : v 11 = k2 := u11
  have u13 : v 13 = k3 := u13
  have u15 : v 15 = k4 := u15
  rw [h17, h16, h18, h19, h20, h21, u6, u7, u8, u9, u10, u11, u12, u13, u14, u15]
  have e : (a0 + 2251799813685248 * (a1 + 2251799813685248 * (a2 + 2251799813685248 * (a3 + 2251799813685248 * (a4 + 2251799813685248 * 0))))) * m =
    a0 * m + 2251799813685248 * (a1 * m + 2251799813685248 * (a2 * m + 2251799813685248 * (a3 * m + 2251799813685248 * (a4 * m)))) := by grind
  rw [e, ← g0, ← g1, ← g2, ← g3, ← g4]
  have : p25519 = 57896044618658097711785492504343953926634992332820282019728792003956564819949 := rfl
  rw [this]
  omega

theorem Mult32_val {a : List Int} {m : Int} (ha : InB LB a) (hm : 0 ≤ m ∧ m ≤ 4294967295) : φ (v51 (s_Mult32.f (a ++ [m]))) = φ (v51 a) * φ m ∧ InB LB (s_Mult32.f (a ++ [m])) := by
  have hx : InB (LB ++ [(0, 4294967295)]) (a ++ [m]) := InB.append ha ⟨hm.1, hm.2, trivial⟩
  refine ⟨?_, (s_Mult32.ok _ _ (show s_Mult32.bt (LB ++ [(0, 4294967295)]) = some [(0, 2251963022442476), (0, 2251808403619838), (0, 2251808403619838), (0, 2251808403619838), (0, 2251808403619838)] by kernel_rfl) _ hx).sub (by kernel_rfl)⟩
  clear hx
  match a, ha with
  | [a0, a1, a2, a3, a4], ha =>
    obtain ⟨k, hk⟩ := Mult32_v ha hm
    have hk : v51 (s_Mult32.f ([a0, a1, a2, a3, a4] ++ [m])) = v51 [a0, a1, a2, a3, a4] * m - p25519 * k := hk
    rw [hk, φ_off, φ_mul]

end Go.X

namespace Go.X

theorem seg_two {v : Nat → Int} {x n m : Nat} {a b : List Int} (h : seg v x (n + m) = a ++ b) (ha : a.length = n) : seg v x n = a ∧ seg v (x + n) m = b := by
  rw [seg_add] at h
  exact List.append_inj h (by rw [seg_len, ha])

theorem top_bit {v : Nat → Int} {x : Nat} (h : InD 256 (seg v x 32)) : v (x + 31) / 128 = ofD 256 (seg v x 32) / 57896044618658097711785492504343953926634992332820282019728792003956564819968 := by
  have e : seg v x 32 = seg v x 31 ++ [v (x + 31)] := seg_add v 31 1 x
  rw [e] at h ⊢
  obtain ⟨l0, l1⟩ := ofD_bound (b := 256) (by decide) (InD_left h)
  have hr := InD_right h
  have h0 := hr.1
  have h1 := hr.2.1
  rw [seg_len] at l1
  rw [ofD_append, seg_len]
  have e2 : ofD 256 [v (x + 31)] = v (x + 31) + 256 * 0 := rfl
  rw [e2]
  have l1 : ofD 256 (seg v x 31) < 256 ^ 31 := l1
  generalize ofD 256 (seg v x 31) = L at *
  generalize v (x + 31) = t at *
  have : (256 : Int) ^ 31 = 452312848583266388373324160190187140051835877600158453279131187530910662656 := by decide
  rw [this] at *
  omega

theorem limbs {v : Nat → Int} {x : Nat} {n : Int} (h : seg v x 5 = toD 2251799813685248 5 n) :
    v x + 2251799813685248 * (v (x + 1) + 2251799813685248 * (v (x + 2) + 2251799813685248 * (v (x + 3) + 2251799813685248 * (v (x + 4) + 2251799813685248 * 0)))) = n % 57896044618658097711785492504343953926634992332820282019728792003956564819968 ∧
    (0 ≤ v x ∧ v x < 2251799813685248) ∧ (0 ≤ v (x + 1) ∧ v (x + 1) < 2251799813685248) ∧ (0 ≤ v (x + 2) ∧ v (x + 2) < 2251799813685248) ∧ (0 ≤ v (x + 3) ∧ v (x + 3) < 2251799813685248) ∧ (0 ≤ v (x + 4) ∧ v (x + 4) < 2251799813685248) := by
  have hd : InD 2251799813685248 (seg v x 5) := by rw [h]; exact toD_in (by decide) _ _
  have hv := el_val n
  rw [← h] at hv
  exact ⟨hv, ⟨hd.1, hd.2.1⟩, ⟨hd.2.2.1, hd.2.2.2.1⟩, ⟨hd.2.2.2.2.1, hd.2.2.2.2.2.1⟩, ⟨hd.2.2.2.2.2.2.1, hd.2.2.2.2.2.2.2.1⟩, ⟨hd.2.2.2.2.2.2.2.2.1, hd.2.2.2.2.2.2.2.2.2.1⟩⟩

theorem wide_lin {l0 l1 l2 l3 l4 m0 m1 m2 m3 m4 b0 b1 A B a86 a89 a92 a95 a98 : Int}
    (hl : l0 + 2251799813685248 * (l1 + 2251799813685248 * (l2 + 2251799813685248 * (l3 + 2251799813685248 * (l4 + 2251799813685248 * 0)))) = A % 57896044618658097711785492504343953926634992332820282019728792003956564819968)
    (hm : m0 + 2251799813685248 * (m1 + 2251799813685248 * (m2 + 2251799813685248 * (m3 + 2251799813685248 * (m4 + 2251799813685248 * 0)))) = B % 57896044618658097711785492504343953926634992332820282019728792003956564819968)
    (hb0 : b0 = A / 57896044618658097711785492504343953926634992332820282019728792003956564819968) (hb1 : b1 = B / 57896044618658097711785492504343953926634992332820282019728792003956564819968)
    (h0 : a86 = l0 + b0 * 19 + m0 * 2 * 19 + b1 * 2 * 19 * 19) (h1 : a89 = l1 + m1 * 2 * 19) (h2 : a92 = l2 + m2 * 2 * 19) (h3 : a95 = l3 + m3 * 2 * 19) (h4 : a98 = l4 + m4 * 2 * 19) :
    a86 + 2251799813685248 * (a89 + 2251799813685248 * (a92 + 2251799813685248 * (a95 + 2251799813685248 * (a98 + 2251799813685248 * 0)))) =
      (A + 115792089237316195423570985008687907853269984665640564039457584007913129639936 * B) - 57896044618658097711785492504343953926634992332820282019728792003956564819949 * (b0 + 2 * (B % 57896044618658097711785492504343953926634992332820282019728792003956564819968) + 115792089237316195423570985008687907853269984665640564039457584007913129639974 * b1) := by
  omega

theorem SetWide_val {a b : List Int} (ha : InB (BB 32) a) (hb : InB (BB 32) b) : φ (v51 (s_SetWide.f (a ++ b))) = φ (ofD 256 (a ++ b)) ∧ InB LB (s_SetWide.f (a ++ b)) := by
  have hx : InB (BB 64) (a ++ b) := InB.append (a := BB 32) (b := BB 32) ha hb
  refine ⟨?_, (s_SetWide.ok _ _ (show s_SetWide.bt (BB 64) = some [(0, 2251799813840876), (0, 2251799813693438), (0, 2251799813693438), (0, 2251799813693438), (0, 2251799813693438)] by kernel_rfl) _ hx).sub (by kernel_rfl)⟩
  obtain ⟨v, -, hin, ⟨h64, h69, h70, h71, h76, h77, h78, h79, h80, h81, h82, h83, h84, h85, h86, h87, h88, h89, h90, h91, h92, h93, h94, h95, h96, h97, h98, h99⟩, -, hf⟩ := E_SetWide (a ++ b) hx
  have la : a.length = 32 := ha.len
  obtain ⟨s0, s32⟩ := seg_two (n := 32) (m := 32) hin la
  have s32 : seg v 32 32 = b := s32
  rw [s0, SetBytes_val a ha, gets_all (toD_len _ _ _)] at h64
  rw [s32, SetBytes_val b hb, gets_all (toD_len _ _ _)] at h71
  obtain ⟨hl, q0, q1, q2, q3, q4⟩ := limbs h64
  obtain ⟨hm, r0, r1, r2, r3, r4⟩ := limbs h71
  have d0 : InD 256 (seg v 0 32) := by rw [s0]; exact BB_in ha
  have d1 : InD 256 (seg v 32 32) := by rw [s32]; exact BB_in hb
  have t0 := top_bit d0
  have t1 := top_bit d1
  rw [s0] at t0
  rw [s32] at t1
  have t0 : v 31 / 128 = _ := t0
  have t1 : v 63 / 128 = _ := t1
  rw [← h69, ← h70] at t0
  rw [← h76, ← h77] at t1
  obtain ⟨A0, A1⟩ := ofD_bound (b := 256) (by decide) (BB_in ha)
  obtain ⟨B0, B1⟩ := ofD_bound (b := 256) (by decide) (BB_in hb)
  rw [la] at A1
  rw [hb.len] at B1
  have hN : ofD 256 (a ++ b) = ofD 256 a + 115792089237316195423570985008687907853269984665640564039457584007913129639936 * ofD 256 b := by
    rw [ofD_append, la]; rfl
  rw [hN]
  have A1 : ofD 256 a < 115792089237316195423570985008687907853269984665640564039457584007913129639936 := A1
  have B1 : ofD 256 b < 115792089237316195423570985008687907853269984665640564039457584007913129639936 := B1
  generalize ofD 256 a = A at *
  generalize ofD 256 b = B at *
  have ea : [v 86] ++ [v 89] ++ [v 92] ++ [v 95] ++ [v 98] = [v 86, v 89, v 92, v 95, v 98] := rfl
  rw [ea] at h99
  have q1 : 0 ≤ v 65 ∧ v 65 < 2251799813685248 := q1
  have r1 : 0 ≤ v 72 ∧ v 72 < 2251799813685248 := r1
  have q2 : 0 ≤ v 66 ∧ v 66 < 2251799813685248 := q2
  have r2 : 0 ≤ v 73 ∧ v 73 < 2251799813685248 := r2
  have q3 : 0 ≤ v 67 ∧ v 67 < 2251799813685248 := q3
  have r3 : 0 ≤ v 74 ∧ v 74 < 2251799813685248 := r3
  have q4 : 0 ≤ v 68 ∧ v 68 < 2251799813685248 := q4
  have r4 : 0 ≤ v 75 ∧ v 75 < 2251799813685248 := r4
  have c0 : 0 ≤ v 70 ∧ v 70 ≤ 1 := by rw [t0]; omega
  have c1 : 0 ≤ v 77 ∧ v 77 ≤ 1 := by rw [t1]; omega
  have k0 : v 86 = v 64 + v 70 * 19 + v 71 * 2 * 19 + v 77 * 2 * 19 * 19 := by rw [h86, h82, h79, h78, h81, h80, h85, h84, h83]
  have k1 : v 89 = v 65 + v 72 * 2 * 19 := by rw [h89, h88, h87]
  have k2 : v 92 = v 66 + v 73 * 2 * 19 := by rw [h92, h91, h90]
  have k3 : v 95 = v 67 + v 74 * 2 * 19 := by rw [h95, h94, h93]
  have k4 : v 98 = v 68 + v 75 * 2 * 19 := by rw [h98, h97, h96]
  clear h64 h71 h69 h70 h76 h77 h78 h79 h80 h81 h82 h83 h84 h85 h86 h87 h88 h89 h90 h91 h92 h93 h94 h95 h96 h97 h98
  have b86 : 0 ≤ v 86 ∧ v 86 ≤ 18446744073709551615 := by clear hl hm t0 t1 h99 hin; omega
  have b89 : 0 ≤ v 89 ∧ v 89 ≤ 18446744073709551615 := by clear hl hm t0 t1 h99 hin; omega
  have b92 : 0 ≤ v 92 ∧ v 92 ≤ 18446744073709551615 := by clear hl hm t0 t1 h99 hin; omega
  have b95 : 0 ≤ v 95 ∧ v 95 ≤ 18446744073709551615 := by clear hl hm t0 t1 h99 hin; omega
  have b98 : 0 ≤ v 98 ∧ v 98 ≤ 18446744073709551615 := by clear hl hm t0 t1 h99 hin; omega
  have hc : InB [(0, 18446744073709551615), (0, 18446744073709551615), (0, 18446744073709551615), (0, 18446744073709551615), (0, 18446744073709551615)] [v 86, v 89, v 92, v 95, v 98] := ⟨b86.1, b86.2, b89.1, b89.2, b92.1, b92.2, b95.1, b95.2, b98.1, b98.2, trivial⟩
  obtain ⟨k, hk⟩ := carry_val _ hc
  rw [gets5 (carry_bd _ hc) rfl] at h99
  rw [hf, h99, hk, φ_off]
  have key := wide_lin hl hm t0 t1 k0 k1 k2 k3 k4
  have e : v51 [v 86, v 89, v 92, v 95, v 98] = _ := key
  rw [e]
  exact φ_off _ _

def bB (x : Fp) : List Int := toD 256 32 (x.val : Int)

theorem bB_len (x : Fp) : (bB x).length = 32 := toD_len _ _ _
theorem bB_in (x : Fp) : InB (BB 32) (bB x) := bytes_in _

theorem bytesF {r : List Int} {x : Fp} (h : InB LB r) (e : φ (v51 r) = x) : s_Bytes.f r = bB x := by
  rw [bytesLB h, e]; rfl

theorem elemF {a : List Int} (ha : InB (BB 32) a) : s_element.f a = toD 2251799813685248 5 (ofD 256 a) := element_val a ha

/-- the element of 32 bytes -/
def eF (a : List Int) : Fp := φ (v51 (toD 2251799813685248 5 (ofD 256 a)))

theorem eql_1 {P : Prop} [Decidable P] {t : Int} (h : t = if P then 1 else 0) : op2 .eql .i64 t 1 = if P then 1 else 0 := by
  rw [h, b2i_one]

theorem ElSums_val {a b c d : List Int} {m : Int} (ha : InB (BB 32) a) (hb : InB (BB 32) b) (hc : InB (BB 32) c) (hd : InB (BB 32) d) (hm : 0 ≤ m ∧ m ≤ 4294967295) :
    s_ElSums.f (a ++ b ++ (c ++ d) ++ [m]) = [if (eF a).val % 2 = 1 then 1 else 0, if eF a = eF b then 1 else 0] ++ bB (eF a) ++ bB (eF a + eF b) ++ bB (eF a - eF b) ++ bB (-eF a) ++ bB (eF a * eF b) ++ bB (eF a * eF a) ++ bB (inv (eF a)) ++ (bB (eF a * φ m) ++ bB (φ (ofD 256 (c ++ d)))) ++ bB (absF (eF a)) := by
  have hx : InB (BB 32 ++ BB 32 ++ (BB 32 ++ BB 32) ++ [(0, 4294967295)]) (a ++ b ++ (c ++ d) ++ [m]) := InB.append (InB.append (InB.append ha hb) (InB.append hc hd)) ⟨hm.1, hm.2, trivial⟩
  obtain ⟨v, -, hin, ⟨h129, h134, h139, h144, h176, h181, h213, h218, h250, h255, h287, h292, h324, h329, h361, h366, h398, h403, h435, h467, h472, h504, h505, h506, h507⟩, -, hf⟩ := E_ElSums _ hx
  have la : a.length = 32 := ha.len
  have lb : b.length = 32 := hb.len
  have lc : c.length = 32 := hc.len
  have ld : d.length = 32 := hd.len
  obtain ⟨s1, s128⟩ := seg_two (n := 128) (m := 1) hin (by rw [List.length_append, List.length_append, List.length_append, la, lb, lc, ld])
  obtain ⟨s2, s64⟩ := seg_two (n := 64) (m := 64) s1 (by rw [List.length_append, la, lb])
  obtain ⟨s0, s32⟩ := seg_two (n := 32) (m := 32) s2 la
  have s128 : v 128 = m := (List.cons.inj s128).1
  have s32 : seg v 32 32 = b := s32
  have s64 : seg v 64 64 = c ++ d := s64
  rw [s0, elemF ha, gets_all (toD_len _ _ _)] at h129
  rw [s32, elemF hb, gets_all (toD_len _ _ _)] at h134
  have eX : φ (v51 (seg v 129 5)) = eF a := by rw [h129]; rfl
  have eY : φ (v51 (seg v 134 5)) = eF b := by rw [h134]; rfl
  have bX : InB LB (seg v 129 5) := by rw [h129]; exact el_in _
  have bY : InB LB (seg v 134 5) := by rw [h134]; exact el_in _
  clear h129 h134 hin s1 s2
  generalize eF a = X at *
  generalize eF b = Y at *
  obtain ⟨fW, bW⟩ := SetWide_val hc hd
  rw [s64, gets5 bW rfl] at h139
  rw [← h139] at fW bW
  have sXY : seg v 129 10 = seg v 129 5 ++ seg v 134 5 := seg_add v 5 5 129
  rw [sXY] at h176 h213 h287 h506
  obtain ⟨f1, b1⟩ := addLB bX bY
  rw [gets5 b1 rfl] at h176
  rw [← h176, eX, eY] at f1; rw [← h176] at b1
  obtain ⟨f2, b2⟩ := subLB bX bY
  rw [gets5 b2 rfl] at h213
  rw [← h213, eX, eY] at f2; rw [← h213] at b2
  obtain ⟨f3, b3⟩ := negLB bX
  rw [gets5 b3 rfl] at h250
  rw [← h250, eX] at f3; rw [← h250] at b3
  obtain ⟨f4, b4⟩ := mulLB bX bY
  rw [gets5 b4 rfl] at h287
  rw [← h287, eX, eY] at f4; rw [← h287] at b4
  obtain ⟨f5, b5⟩ := sqLB bX
  rw [gets5 b5 rfl] at h324
  rw [← h324, eX] at f5; rw [← h324] at b5
  obtain ⟨f6, b6⟩ := invLB bX
  rw [gets5 b6 rfl] at h361
  rw [← h361, eX] at f6; rw [← h361] at b6
  rw [s128] at h398
  obtain ⟨f7, b7⟩ := Mult32_val bX hm
  rw [gets5 b7 rfl] at h398
  rw [← h398, eX] at f7; rw [← h398] at b7
  obtain ⟨f9, b9⟩ := absLB bX
  rw [gets5 b9 rfl] at h467
  rw [← h467, eX] at f9; rw [← h467] at b9
  rw [bytesF bX eX, gets_all (bB_len _)] at h144
  rw [bytesF b1 f1, gets_all (bB_len _)] at h181
  rw [bytesF b2 f2, gets_all (bB_len _)] at h218
  rw [bytesF b3 f3, gets_all (bB_len _)] at h255
  rw [bytesF b4 f4, gets_all (bB_len _)] at h292
  rw [bytesF b5 f5, gets_all (bB_len _)] at h329
  rw [bytesF b6 f6, gets_all (bB_len _)] at h366
  rw [bytesF b7 f7, gets_all (bB_len _)] at h403
  rw [bytesF bW fW, gets_all (bB_len _)] at h435
  rw [bytesF b9 f9, gets_all (bB_len _)] at h472
  have e403 : seg v 403 64 = bB (X * φ m) ++ bB (φ (ofD 256 (c ++ d))) := by rw [← h403, ← h435]; exact seg_add v 32 32 403
  rw [IsNeg_val _ bX] at h504
  have h504 : v 504 = v51 (seg v 129 5) % p25519 % 2 := h504
  have p504 : v 504 = if X.val % 2 = 1 then 1 else 0 := by
    rw [h504, ← φ_val, eX]
    by_cases h : X.val % 2 = 1
    · rw [if_pos h]; omega
    · rw [if_neg h]; omega
  rw [eqLB bX bY, eX, eY, List.getD_cons_zero] at h506
  rw [eql_1 p504] at h505
  rw [eql_1 h506] at h507
  rw [hf, h505, h507, h144, h181, h218, h255, h292, h329, h366, e403, h472]

end Go.X
