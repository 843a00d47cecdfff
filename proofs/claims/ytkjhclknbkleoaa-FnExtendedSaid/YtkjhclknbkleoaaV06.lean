/-
  A part of the proof of Ytkjhclknbkleoaa: texts M2, F2, M3, F3, M4, M5, M6, F4, M7, N4, F5, N5, N6, M8. No conditions.
-/
import Derived.Test.YtkjhclknbkleoaaV05
import Derived.KernelRfl
namespace Go.X

theorem addMul_n {n x y : Int} (hn : 0 ≤ n) (hx : 0 ≤ x) (hx' : x < 18446744073709551616) (hy : 0 ≤ y) (hy' : y < 18446744073709551616) (hs : n + x * y < 340282366920938463463374607431768211456) :
    s_addMul.f [n % 18446744073709551616, n / 18446744073709551616, x, y] = [(n + x * y) % 18446744073709551616, (n + x * y) / 18446744073709551616] := by
  have h0 := Int.mul_nonneg hx hy
  have e : n % 18446744073709551616 + 18446744073709551616 * (n / 18446744073709551616) = n := by omega
  have := addMul_val (lo := n % 18446744073709551616) (hi := n / 18446744073709551616) (by omega) (by omega) (by omega) (by omega) hx hx' hy hy' (by rw [e]; exact hs)
  rw [e] at this; exact this

theorem addMul19_n {n x y : Int} (hn : 0 ≤ n) (hx : 0 ≤ x) (hx' : x < 576460752303423488) (hy : 0 ≤ y) (hy' : y < 18446744073709551616) (hs : n + 19 * x * y < 340282366920938463463374607431768211456) :
    s_addMul19.f [n % 18446744073709551616, n / 18446744073709551616, x, y] = [(n + 19 * x * y) % 18446744073709551616, (n + 19 * x * y) / 18446744073709551616] := by
  have h0 := Int.mul_nonneg (show 0 ≤ 19 * x by omega) hy
  have e : n % 18446744073709551616 + 18446744073709551616 * (n / 18446744073709551616) = n := by omega
  have := addMul19_val (lo := n % 18446744073709551616) (hi := n / 18446744073709551616) (by omega) (by omega) (by omega) (by omega) hx hx' hy hy' (by rw [e]; exact hs)
  rw [e] at this; exact this

theorem addMul38_n {n x y : Int} (hn : 0 ≤ n) (hx : 0 ≤ x) (hx' : x < 576460752303423488) (hy : 0 ≤ y) (hy' : y < 9223372036854775808) (hs : n + 19 * x * (y * 2) < 340282366920938463463374607431768211456) :
    s_addMul38.f [n % 18446744073709551616, n / 18446744073709551616, x, y] = [(n + 19 * x * (y * 2)) % 18446744073709551616, (n + 19 * x * (y * 2)) / 18446744073709551616] := by
  have h0 := Int.mul_nonneg (show 0 ≤ 19 * x by omega) (show 0 ≤ y * 2 by omega)
  have e : n % 18446744073709551616 + 18446744073709551616 * (n / 18446744073709551616) = n := by omega
  have := addMul38_val (lo := n % 18446744073709551616) (hi := n / 18446744073709551616) (by omega) (by omega) (by omega) (by omega) hx hx' hy hy' (by rw [e]; exact hs)
  rw [e] at this; exact this

/-- a product of limbs -/
theorem limb2 {x y : Int} (hx : 0 ≤ x ∧ x ≤ 4503599627370458) (hy : 0 ≤ y ∧ y ≤ 4503599627370458) : 0 ≤ x * y ∧ x * y < 20282409603651670423947251286016 := by
  have h := mul_bounds (A := 0) (C := 0) (B := 4503599627370458) (D := 4503599627370458) (by decide) (by decide) hx.1 hx.2 hy.1 hy.2
  omega

abbrev p25519 : Int := 57896044618658097711785492504343953926634992332820282019728792003956564819949

/-- the last carries of a product -/
theorem carries {r0 r1 r2 r3 r4 c0 c1 c2 c3 c4 t0 t1 t2 t3 t4 o0 o1 o2 o3 o4 : Int}
    (hc0 : c0 = r0 / 2251799813685248) (hc1 : c1 = r1 / 2251799813685248) (hc2 : c2 = r2 / 2251799813685248) (hc3 : c3 = r3 / 2251799813685248) (hc4 : c4 = r4 / 2251799813685248)
    (ht0 : t0 = r0 % 2251799813685248 + 19 * c4) (ht1 : t1 = r1 % 2251799813685248 + c0) (ht2 : t2 = r2 % 2251799813685248 + c1) (ht3 : t3 = r3 % 2251799813685248 + c2) (ht4 : t4 = r4 % 2251799813685248 + c3)
    (ho0 : o0 = t0 % 2251799813685248 + 19 * (t4 / 2251799813685248)) (ho1 : o1 = t1 % 2251799813685248 + t0 / 2251799813685248) (ho2 : o2 = t2 % 2251799813685248 + t1 / 2251799813685248) (ho3 : o3 = t3 % 2251799813685248 + t2 / 2251799813685248) (ho4 : o4 = t4 % 2251799813685248 + t3 / 2251799813685248) :
    o0 + 2251799813685248 * (o1 + 2251799813685248 * (o2 + 2251799813685248 * (o3 + 2251799813685248 * (o4 + 2251799813685248 * 0)))) =
    r0 + 2251799813685248 * (r1 + 2251799813685248 * (r2 + 2251799813685248 * (r3 + 2251799813685248 * r4))) - p25519 * (c4 + t4 / 2251799813685248) := by
  unfold p25519
  omega

set_option maxHeartbeats 2000000 in
theorem feMul_val (xs : List Int) (hx : InB [(0, 4503599627370458), (0, 4503599627370458), (0, 4503599627370458), (0, 4503599627370458), (0, 4503599627370458), (0, 4503599627370458), (0, 4503599627370458), (0, 4503599627370458), (0, 4503599627370458), (0, 4503599627370458)] xs) :
    ∃ k, ofD 2251799813685248 (s_feMulG.f xs) = ofD 2251799813685248 (xs.take 5) * ofD 2251799813685248 (xs.drop 5) - p25519 * k := by
  obtain ⟨v, -, hin, he, -, hf⟩ := E_feMulG xs hx
  obtain ⟨h10, h12, h14, h16, h18, h20, h22, h24, h26, h28, h30, h32, h34, h36, h38, h40, h42, h44, h46, h48, h50, h52, h54, h56, h58, h60, h61, h62, h63, h64, h65, h66, h67, h68, h69, h70, h71, h72, h73, h74, h75, h76, h77, h78, h79, h80, h81, h82, h83, h84, h85, h86, h87, h88, h89, h90, h91⟩ := he
  subst hin
  simp only [seg, Nat.reduceAdd, InB, and_true] at hx
  obtain ⟨b0, b0', b1, b1', b2, b2', b3, b3', b4, b4', b5, b5', b6, b6', b7, b7', b8, b8', b9, b9'⟩ := hx
  have q05 := limb2 ⟨b0, b0'⟩ ⟨b5, b5'⟩
  have q06 := limb2 ⟨b0, b0'⟩ ⟨b6, b6'⟩
  have q07 := limb2 ⟨b0, b0'⟩ ⟨b7, b7'⟩
  have q08 := limb2 ⟨b0, b0'⟩ ⟨b8, b8'⟩
  have q09 := limb2 ⟨b0, b0'⟩ ⟨b9, b9'⟩
  have q15 := limb2 ⟨b1, b1'⟩ ⟨b5, b5'⟩
  have q16 := limb2 ⟨b1, b1'⟩ ⟨b6, b6'⟩
  have q17 := limb2 ⟨b1, b1'⟩ ⟨b7, b7'⟩
  have q18 := limb2 ⟨b1, b1'⟩ ⟨b8, b8'⟩
  have q19 := limb2 ⟨b1, b1'⟩ ⟨b9, b9'⟩
  have q25 := limb2 ⟨b2, b2'⟩ ⟨b5, b5'⟩
  have q26 := limb2 ⟨b2, b2'⟩ ⟨b6, b6'⟩
  have q27 := limb2 ⟨b2, b2'⟩ ⟨b7, b7'⟩
  have q28 := limb2 ⟨b2, b2'⟩ ⟨b8, b8'⟩
  have q29 := limb2 ⟨b2, b2'⟩ ⟨b9, b9'⟩
  have q35 := limb2 ⟨b3, b3'⟩ ⟨b5, b5'⟩
  have q36 := limb2 ⟨b3, b3'⟩ ⟨b6, b6'⟩
  have q37 := limb2 ⟨b3, b3'⟩ ⟨b7, b7'⟩
  have q38 := limb2 ⟨b3, b3'⟩ ⟨b8, b8'⟩
  have q39 := limb2 ⟨b3, b3'⟩ ⟨b9, b9'⟩
  have q45 := limb2 ⟨b4, b4'⟩ ⟨b5, b5'⟩
  have q46 := limb2 ⟨b4, b4'⟩ ⟨b6, b6'⟩
  have q47 := limb2 ⟨b4, b4'⟩ ⟨b7, b7'⟩
  have q48 := limb2 ⟨b4, b4'⟩ ⟨b8, b8'⟩
  have q49 := limb2 ⟨b4, b4'⟩ ⟨b9, b9'⟩
  have e10 : seg v 10 2 = [v 0 * v 5 % 18446744073709551616, v 0 * v 5 / 18446744073709551616] := by
    rw [h10]; show gets (s_mul.f [v 0, v 5]) 0 2 = _; rw [mul_val b0 (by omega) b5 (by omega)]; rfl
  have q1919 : 19 * v 1 * v 9 = 19 * (v 1 * v 9) := Int.mul_assoc ..
  have e12 : seg v 12 2 = [(v 0 * v 5 + 19 * v 1 * v 9) % 18446744073709551616, (v 0 * v 5 + 19 * v 1 * v 9) / 18446744073709551616] := by
    rw [h12]; simp only [seg, Nat.reduceAdd, List.cons.injEq, and_true] at e10; show gets (s_addMul19.f [v 10, v 11, v 1, v 9]) 0 2 = _; rw [e10.1, e10.2, addMul19_n (by omega) b1 (by omega) b9 (by omega) (by omega)]; rfl
  have q1928 : 19 * v 2 * v 8 = 19 * (v 2 * v 8) := Int.mul_assoc ..
  have e14 : seg v 14 2 = [(v 0 * v 5 + 19 * v 1 * v 9 + 19 * v 2 * v 8) % 18446744073709551616, (v 0 * v 5 + 19 * v 1 * v 9 + 19 * v 2 * v 8) / 18446744073709551616] := by
    rw [h14]; simp only [seg, Nat.reduceAdd, List.cons.injEq, and_true] at e12; show gets (s_addMul19.f [v 12, v 13, v 2, v 8]) 0 2 = _; rw [e12.1, e12.2, addMul19_n (by omega) b2 (by omega) b8 (by omega) (by omega)]; rfl
  have q1937 : 19 * v 3 * v 7 = 19 * (v 3 * v 7) := Int.mul_assoc ..
  have e16 : seg v 16 2 = [(v 0 * v 5 + 19 * v 1 * v 9 + 19 * v 2 * v 8 + 19 * v 3 * v 7) % 18446744073709551616, (v 0 * v 5 + 19 * v 1 * v 9 + 19 * v 2 * v 8 + 19 * v 3 * v 7) / 18446744073709551616] := by
    rw [h16]; simp only [seg, Nat.reduceAdd, List.cons.injEq, and_true] at e14; show gets (s_addMul19.f [v 14, v 15, v 3, v 7]) 0 2 = _; rw [e14.1, e14.2, addMul19_n (by omega) b3 (by omega) b7 (by omega) (by omega)]; rfl
  have q1946 : 19 * v 4 * v 6 = 19 * (v 4 * v 6) := Int.mul_assoc ..
  have e18 : seg v 18 2 = [(v 0 * v 5 + 19 * v 1 * v 9 + 19 * v 2 * v 8 + 19 * v 3 * v 7 + 19 * v 4 * v 6) % 18446744073709551616, (v 0 * v 5 + 19 * v 1 * v 9 + 19 * v 2 * v 8 + 19 * v 3 * v 7 + 19 * v 4 * v 6) / 18446744073709551616] := by
    rw [h18]; simp only [seg, Nat.reduceAdd, List.cons.injEq, and_true] at e16; show gets (s_addMul19.f [v 16, v 17, v 4, v 6]) 0 2 = _; rw [e16.1, e16.2, addMul19_n (by omega) b4 (by omega) b6 (by omega) (by omega)]; rfl
  have e20 : seg v 20 2 = [v 0 * v 6 % 18446744073709551616, v 0 * v 6 / 18446744073709551616] := by
    rw [h20]; show gets (s_mul.f [v 0, v 6]) 0 2 = _; rw [mul_val b0 (by omega) b6 (by omega)]; rfl
  have e22 : seg v 22 2 = [(v 0 * v 6 + v 1 * v 5) % 18446744073709551616, (v 0 * v 6 + v 1 * v 5) / 18446744073709551616] := by
    rw [h22]; simp only [seg, Nat.reduceAdd, List.cons.injEq, and_true] at e20; show gets (s_addMul.f [v 20, v 21, v 1, v 5]) 0 2 = _; rw [e20.1, e20.2, addMul_n (by omega) b1 (by omega) b5 (by omega) (by omega)]; rfl
  have q1929 : 19 * v 2 * v 9 = 19 * (v 2 * v 9) := Int.mul_assoc ..
  have e24 : seg v 24 2 = [(v 0 * v 6 + v 1 * v 5 + 19 * v 2 * v 9) % 18446744073709551616, (v 0 * v 6 + v 1 * v 5 + 19 * v 2 * v 9) / 18446744073709551616] := by
    rw [h24]; simp only [seg, Nat.reduceAdd, List.cons.injEq, and_true] at e22; show gets (s_addMul19.f [v 22, v 23, v 2, v 9]) 0 2 = _; rw [e22.1, e22.2, addMul19_n (by omega) b2 (by omega) b9 (by omega) (by omega)]; rfl
  have q1938 : 19 * v 3 * v 8 = 19 * (v 3 * v 8) := Int.mul_assoc ..
  have e26 : seg v 26 2 = [(v 0 * v 6 + v 1 * v 5 + 19 * v 2 * v 9 + 19 * v 3 * v 8) % 18446744073709551616, (v 0 * v 6 + v 1 * v 5 + 19 * v 2 * v 9 + 19 * v 3 * v 8) / 18446744073709551616] := by
    rw [h26]; simp only [seg, Nat.reduceAdd, List.cons.injEq, and_true] at e24; show gets (s_addMul19.f [v 24, v 25, v 3, v 8]) 0 2 = _; rw [e24.1, e24.2, addMul19_n (by omega) b3 (by omega) b8 (by omega) (by omega)]; rfl
  have q1947 : 19 * v 4 * v 7 = 19 * (v 4 * v 7) := Int.mul_assoc ..
  have e28 : seg v 28 2 = [(v 0 * v 6 + v 1 * v 5 + 19 * v 2 * v 9 + 19 * v 3 * v 8 + 19 * v 4 * v 7) % 18446744073709551616, (v 0 * v 6 + v 1 * v 5 + 19 * v 2 * v 9 + 19 * v 3 * v 8 + 19 * v 4 * v 7) / 18446744073709551616] := by
    rw [h28]; simp only [seg, Nat.reduceAdd, List.cons.injEq, and_true] at e26; show gets (s_addMul19.f [v 26, v 27, v 4, v 7]) 0 2 = _; rw [e26.1, e26.2, addMul19_n (by omega) b4 (by omega) b7 (by omega) (by omega)]; rfl
  have e30 : seg v 30 2 = [v 0 * v 7 % 18446744073709551616, v 0 * v 7 / 18446744073709551616] := by
    rw [h30]; show gets (s_mul.f [v 0, v 7]) 0 2 = _; rw [mul_val b0 (by omega) b7 (by omega)]; rfl
  have e32 : seg v 32 2 = [(v 0 * v 7 + v 1 * v 6) % 18446744073709551616, (v 0 * v 7 + v 1 * v 6) / 18446744073709551616] := by
    rw [h32]; simp only [seg, Nat.reduceAdd, List.cons.injEq, and_true] at e30; show gets (s_addMul.f [v 30, v 31, v 1, v 6]) 0 2 = _; rw [e30.1, e30.2, addMul_n (by omega) b1 (by omega) b6 (by omega) (by omega)]; rfl
  have e34 : seg v 34 2 = [(v 0 * v 7 + v 1 * v 6 + v 2 * v 5) % 18446744073709551616, (v 0 * v 7 + v 1 * v 6 + v 2 * v 5) / 18446744073709551616] := by
    rw [h34]; simp only [seg, Nat.reduceAdd, List.cons.injEq, and_true] at e32; show gets (s_addMul.f [v 32, v 33, v 2, v 5]) 0 2 = _; rw [e32.1, e32.2, addMul_n (by omega) b2 (by omega) b5 (by omega) (by omega)]; rfl
  have q1939 : 19 * v 3 * v 9 = 19 * (v 3 * v 9) := Int.mul_assoc ..
  have e36 : seg v 36 2 = [(v 0 * v 7 + v 1 * v 6 + v 2 * v 5 + 19 * v 3 * v 9) % 18446744073709551616, (v 0 * v 7 + v 1 * v 6 + v 2 * v 5 + 19 * v 3 * v 9) / 18446744073709551616] := by
    rw [h36]; simp only [seg, Nat.reduceAdd, List.cons.injEq, and_true] at e34; show gets (s_addMul19.f [v 34, v 35, v 3, v 9]) 0 2 = _; rw [e34.1, e34.2, addMul19_n (by omega) b3 (by omega) b9 (by omega) (by omega)]; rfl
  have q1948 : 19 * v 4 * v 8 = 19 * (v 4 * v 8) := Int.mul_assoc ..
  have e38 : seg v 38 2 = [(v 0 * v 7 + v 1 * v 6 + v 2 * v 5 + 19 * v 3 * v 9 + 19 * v 4 * v 8) % 18446744073709551616, (v 0 * v 7 + v 1 * v 6 + v 2 * v 5 + 19 * v 3 * v 9 + 19 * v 4 * v 8) / 18446744073709551616] := by
    rw [h38]; simp only [seg, Nat.reduceAdd, List.cons.injEq, and_true] at e36; show gets (s_addMul19.f [v 36, v 37, v 4, v 8]) 0 2 = _; rw [e36.1, e36.2, addMul19_n (by omega) b4 (by omega) b8 (by omega) (by omega)]; rfl
  have e40 : seg v 40 2 = [v 0 * v 8 % 18446744073709551616, v 0 * v 8 / 18446744073709551616] := by
    rw [h40]; show gets (s_mul.f [v 0, v 8]) 0 2 = _; rw [mul_val b0 (by omega) b8 (by omega)]; rfl
  have e42 : seg v 42 2 = [(v 0 * v 8 + v 1 * v 7) % 18446744073709551616, (v 0 * v 8 + v 1 * v 7) / 18446744073709551616] := by
    rw [h42]; simp only [seg, Nat.reduceAdd, List.cons.injEq, and_true] at e40; show gets (s_addMul.f [v 40, v 41, v 1, v 7]) 0 2 = _; rw [e40.1, e40.2, addMul_n (by omega) b1 (by omega) b7 (by omega) (by omega)]; rfl
  have e44 : seg v 44 2 = [(v 0 * v 8 + v 1 * v 7 + v 2 * v 6) % 18446744073709551616, (v 0 * v 8 + v 1 * v 7 + v 2 * v 6) / 18446744073709551616] := by
    rw [h44]; simp only [seg, Nat.reduceAdd, List.cons.injEq, and_true] at e42; show gets (s_addMul.f [v 42, v 43, v 2, v 6]) 0 2 = _; rw [e42.1, e42.2, addMul_n (by omega) b2 (by omega) b6 (by omega) (by omega)]; rfl
  have e46 : seg v 46 2 = [(v 0 * v 8 + v 1 * v 7 + v 2 * v 6 + v 3 * v 5) % 18446744073709551616, (v 0 * v 8 + v 1 * v 7 + v 2 * v 6 + v 3 * v 5) / 18446744073709551616] := by
    rw [h46]; simp only [seg, Nat.reduceAdd, List.cons.injEq, and_true] at e44; show gets (s_addMul.f [v 44, v 45, v 3, v 5]) 0 2 = _; rw [e44.1, e44.2, addMul_n (by omega) b3 (by omega) b5 (by omega) (by omega)]; rfl
  have q1949 : 19 * v 4 * v 9 = 19 * (v 4 * v 9) := Int.mul_assoc ..
  have e48 : seg v 48 2 = [(v 0 * v 8 + v 1 * v 7 + v 2 * v 6 + v 3 * v 5 + 19 * v 4 * v 9) % 18446744073709551616, (v 0 * v 8 + v 1 * v 7 + v 2 * v 6 + v 3 * v 5 + 19 * v 4 * v 9) / 18446744073709551616] := by
    rw [h48]; simp only [seg, Nat.reduceAdd, List.cons.injEq, and_true] at e46; show gets (s_addMul19.f [v 46, v 47, v 4, v 9]) 0 2 = _; rw [e46.1, e46.2, addMul19_n (by omega) b4 (by omega) b9 (by omega) (by omega)]; rfl
  have e50 : seg v 50 2 = [v 0 * v 9 % 18446744073709551616, v 0 * v 9 / 18446744073709551616] := by
    rw [h50]; show gets (s_mul.f [v 0, v 9]) 0 2 = _; rw [mul_val b0 (by omega) b9 (by omega)]; rfl
  have e52 : seg v 52 2 = [(v 0 * v 9 + v 1 * v 8) % 18446744073709551616, (v 0 * v 9 + v 1 * v 8) / 18446744073709551616] := by
    rw [h52]; simp only [seg, Nat.reduceAdd, List.cons.injEq, and_true] at e50; show gets (s_addMul.f [v 50, v 51, v 1, v 8]) 0 2 = _; rw [e50.1, e50.2, addMul_n (by omega) b1 (by omega) b8 (by omega) (by omega)]; rfl
  have e54 : seg v 54 2 = [(v 0 * v 9 + v 1 * v 8 + v 2 * v 7) % 18446744073709551616, (v 0 * v 9 + v 1 * v 8 + v 2 * v 7) / 18446744073709551616] := by
    rw [h54]; simp only [seg, Nat.reduceAdd, List.cons.injEq, and_true] at e52; show gets (s_addMul.f [v 52, v 53, v 2, v 7]) 0 2 = _; rw [e52.1, e52.2, addMul_n (by omega) b2 (by omega) b7 (by omega) (by omega)]; rfl
  have e56 : seg v 56 2 = [(v 0 * v 9 + v 1 * v 8 + v 2 * v 7 + v 3 * v 6) % 18446744073709551616, (v 0 * v 9 + v 1 * v 8 + v 2 * v 7 + v 3 * v 6) / 18446744073709551616] := by
    rw [h56]; simp only [seg, Nat.reduceAdd, List.cons.injEq, and_true] at e54; show gets (s_addMul.f [v 54, v 55, v 3, v 6]) 0 2 = _; rw [e54.1, e54.2, addMul_n (by omega) b3 (by omega) b6 (by omega) (by omega)]; rfl
  have e58 : seg v 58 2 = [(v 0 * v 9 + v 1 * v 8 + v 2 * v 7 + v 3 * v 6 + v 4 * v 5) % 18446744073709551616, (v 0 * v 9 + v 1 * v 8 + v 2 * v 7 + v 3 * v 6 + v 4 * v 5) / 18446744073709551616] := by
    rw [h58]; simp only [seg, Nat.reduceAdd, List.cons.injEq, and_true] at e56; show gets (s_addMul.f [v 56, v 57, v 4, v 5]) 0 2 = _; rw [e56.1, e56.2, addMul_n (by omega) b4 (by omega) b5 (by omega) (by omega)]; rfl
  simp only [seg, Nat.reduceAdd, List.cons.injEq, and_true] at e18
  have c0 : v 60 = (v 0 * v 5 + 19 * v 1 * v 9 + 19 * v 2 * v 8 + 19 * v 3 * v 7 + 19 * v 4 * v 6) / 2251799813685248 := by
    rw [h60]; show (s_shr51.f [v 18, v 19]).getD 0 0 = _; rw [e18.1, e18.2, shr51_val (by omega) (by omega)]; rfl
  simp only [seg, Nat.reduceAdd, List.cons.injEq, and_true] at e28
  have c1 : v 61 = (v 0 * v 6 + v 1 * v 5 + 19 * v 2 * v 9 + 19 * v 3 * v 8 + 19 * v 4 * v 7) / 2251799813685248 := by
    rw [h61]; show (s_shr51.f [v 28, v 29]).getD 0 0 = _; rw [e28.1, e28.2, shr51_val (by omega) (by omega)]; rfl
  simp only [seg, Nat.reduceAdd, List.cons.injEq, and_true] at e38
  have c2 : v 62 = (v 0 * v 7 + v 1 * v 6 + v 2 * v 5 + 19 * v 3 * v 9 + 19 * v 4 * v 8) / 2251799813685248 := by
    rw [h62]; show (s_shr51.f [v 38, v 39]).getD 0 0 = _; rw [e38.1, e38.2, shr51_val (by omega) (by omega)]; rfl
  simp only [seg, Nat.reduceAdd, List.cons.injEq, and_true] at e48
  have c3 : v 63 = (v 0 * v 8 + v 1 * v 7 + v 2 * v 6 + v 3 * v 5 + 19 * v 4 * v 9) / 2251799813685248 := by
    rw [h63]; show (s_shr51.f [v 48, v 49]).getD 0 0 = _; rw [e48.1, e48.2, shr51_val (by omega) (by omega)]; rfl
  simp only [seg, Nat.reduceAdd, List.cons.injEq, and_true] at e58
  have c4 : v 64 = (v 0 * v 9 + v 1 * v 8 + v 2 * v 7 + v 3 * v 6 + v 4 * v 5) / 2251799813685248 := by
    rw [h64]; show (s_shr51.f [v 58, v 59]).getD 0 0 = _; rw [e58.1, e58.2, shr51_val (by omega) (by omega)]; rfl
  rw [mul19_val (by omega) (by omega)] at h66
  have h66 : v 66 = 19 * v 64 := h66
  have l65 : v 65 = (v 0 * v 5 + 19 * v 1 * v 9 + 19 * v 2 * v 8 + 19 * v 3 * v 7 + 19 * v 4 * v 6) % 2251799813685248 := by rw [h65, e18.1]; omega
  have l68 : v 68 = (v 0 * v 6 + v 1 * v 5 + 19 * v 2 * v 9 + 19 * v 3 * v 8 + 19 * v 4 * v 7) % 2251799813685248 := by rw [h68, e28.1]; omega
  have l70 : v 70 = (v 0 * v 7 + v 1 * v 6 + v 2 * v 5 + 19 * v 3 * v 9 + 19 * v 4 * v 8) % 2251799813685248 := by rw [h70, e38.1]; omega
  have l72 : v 72 = (v 0 * v 8 + v 1 * v 7 + v 2 * v 6 + v 3 * v 5 + 19 * v 4 * v 9) % 2251799813685248 := by rw [h72, e48.1]; omega
  have l74 : v 74 = (v 0 * v 9 + v 1 * v 8 + v 2 * v 7 + v 3 * v 6 + v 4 * v 5) % 2251799813685248 := by rw [h74, e58.1]; omega
  rw [mul19_val (by omega) (by omega)] at h78
  have h78 : v 78 = 19 * v 77 := h78
  refine ⟨(v 64 + v 75 / 2251799813685248) + ((v 1 * v 9 + v 2 * v 8 + v 3 * v 7 + v 4 * v 6) + 2251799813685248 * ((v 2 * v 9 + v 3 * v 8 + v 4 * v 7) + 2251799813685248 * ((v 3 * v 9 + v 4 * v 8) + 2251799813685248 * (v 4 * v 9)))), ?_⟩
  rw [hf]
  show v 79 + 2251799813685248 * (v 82 + 2251799813685248 * (v 85 + 2251799813685248 * (v 88 + 2251799813685248 * (v 91 + 2251799813685248 * 0)))) = ofD 2251799813685248 [v 0, v 1, v 2, v 3, v 4] * ofD 2251799813685248 [v 5, v 6, v 7, v 8, v 9] - _
  have key := carries (t0 := v 67) (t1 := v 69) (t2 := v 71) (t3 := v 73) (t4 := v 75) c0 c1 c2 c3 c4 (by rw [h67, l65, h66]) (by rw [h69, l68]) (by rw [h71, l70]) (by rw [h73, l72]) (by rw [h75, l74]) (o0 := v 79) (o1 := v 82) (o2 := v 85) (o3 := v 88) (o4 := v 91) (by rw [h79, h76, h78, h77]) (by rw [h82, h80, h81]) (by rw [h85, h83, h84]) (by rw [h88, h86, h87]) (by rw [h91, h89, h90])
  rw [key]
  simp only [ofD]
  have fin : ∀ K : Int, (v 0 * v 5 + 19 * v 1 * v 9 + 19 * v 2 * v 8 + 19 * v 3 * v 7 + 19 * v 4 * v 6) + 2251799813685248 * ((v 0 * v 6 + v 1 * v 5 + 19 * v 2 * v 9 + 19 * v 3 * v 8 + 19 * v 4 * v 7) + 2251799813685248 * ((v 0 * v 7 + v 1 * v 6 + v 2 * v 5 + 19 * v 3 * v 9 + 19 * v 4 * v 8) + 2251799813685248 * ((v 0 * v 8 + v 1 * v 7 + v 2 * v 6 + v 3 * v 5 + 19 * v 4 * v 9) + 2251799813685248 * (v 0 * v 9 + v 1 * v 8 + v 2 * v 7 + v 3 * v 6 + v 4 * v 5)))) - p25519 * K =
      (v 0 + 2251799813685248 * (v 1 + 2251799813685248 * (v 2 + 2251799813685248 * (v 3 + 2251799813685248 * (v 4 + 2251799813685248 * 0))))) * (v 5 + 2251799813685248 * (v 6 + 2251799813685248 * (v 7 + 2251799813685248 * (v 8 + 2251799813685248 * (v 9 + 2251799813685248 * 0))))) - p25519 * (K + ((v 1 * v 9 + v 2 * v 8 + v 3 * v 7 + v 4 * v 6) + 2251799813685248 * ((v 2 * v 9 + v 3 * v 8 + v 4 * v 7) + 2251799813685248 * ((v 3 * v 9 + v 4 * v 8) + 2251799813685248 * (v 4 * v 9))))) := by
    intro K; unfold p25519; grind
  exact fin _

set_option maxHeartbeats 2000000 in
theorem feSq_val (xs : List Int) (hx : InB [(0, 4503599627370458), (0, 4503599627370458), (0, 4503599627370458), (0, 4503599627370458), (0, 4503599627370458)] xs) :
    ∃ k, ofD 2251799813685248 (s_feSqG.f xs) = ofD 2251799813685248 xs * ofD 2251799813685248 xs - p25519 * k := by
  obtain ⟨v, -, hin, he, -, hf⟩ := E_feSqG xs hx
  obtain ⟨h5, h7, h9, h11, h12, h14, h16, h18, h19, h21, h23, h25, h26, h28, h29, h31, h33, h34, h36, h37, h39, h41, h42, h43, h44, h45, h46, h47, h48, h49, h50, h51, h52, h53, h54, h55, h56, h57, h58, h59, h60, h61, h62, h63, h64, h65, h66, h67, h68, h69, h70, h71, h72⟩ := he
  subst hin
  simp only [seg, Nat.reduceAdd, InB, and_true] at hx
  obtain ⟨b0, b0', b1, b1', b2, b2', b3, b3', b4, b4'⟩ := hx
  have q00 := limb2 ⟨b0, b0'⟩ ⟨b0, b0'⟩
  have q01 := limb2 ⟨b0, b0'⟩ ⟨b1, b1'⟩
  have q02 := limb2 ⟨b0, b0'⟩ ⟨b2, b2'⟩
  have q03 := limb2 ⟨b0, b0'⟩ ⟨b3, b3'⟩
  have q04 := limb2 ⟨b0, b0'⟩ ⟨b4, b4'⟩
  have q11 := limb2 ⟨b1, b1'⟩ ⟨b1, b1'⟩
  have q12 := limb2 ⟨b1, b1'⟩ ⟨b2, b2'⟩
  have q13 := limb2 ⟨b1, b1'⟩ ⟨b3, b3'⟩
  have q14 := limb2 ⟨b1, b1'⟩ ⟨b4, b4'⟩
  have q22 := limb2 ⟨b2, b2'⟩ ⟨b2, b2'⟩
  have q23 := limb2 ⟨b2, b2'⟩ ⟨b3, b3'⟩
  have q24 := limb2 ⟨b2, b2'⟩ ⟨b4, b4'⟩
  have q33 := limb2 ⟨b3, b3'⟩ ⟨b3, b3'⟩
  have q34 := limb2 ⟨b3, b3'⟩ ⟨b4, b4'⟩
  have q44 := limb2 ⟨b4, b4'⟩ ⟨b4, b4'⟩
  have e5 : seg v 5 2 = [v 0 * v 0 % 18446744073709551616, v 0 * v 0 / 18446744073709551616] := by
    rw [h5]; show gets (s_mul.f [v 0, v 0]) 0 2 = _; rw [mul_val b0 (by omega) b0 (by omega)]; rfl
  have d3814 : 19 * v 1 * (v 4 * 2) = 38 * (v 1 * v 4) := by grind
  have e7 : seg v 7 2 = [(v 0 * v 0 + 19 * v 1 * (v 4 * 2)) % 18446744073709551616, (v 0 * v 0 + 19 * v 1 * (v 4 * 2)) / 18446744073709551616] := by
    rw [h7]; simp only [seg, Nat.reduceAdd, List.cons.injEq, and_true] at e5; show gets (s_addMul38.f [v 5, v 6, v 1, v 4]) 0 2 = _; rw [e5.1, e5.2, addMul38_n (by omega) b1 (by omega) b4 (by omega) (by omega)]; rfl
  have d3823 : 19 * v 2 * (v 3 * 2) = 38 * (v 2 * v 3) := by grind
  have e9 : seg v 9 2 = [(v 0 * v 0 + 19 * v 1 * (v 4 * 2) + 19 * v 2 * (v 3 * 2)) % 18446744073709551616, (v 0 * v 0 + 19 * v 1 * (v 4 * 2) + 19 * v 2 * (v 3 * 2)) / 18446744073709551616] := by
    rw [h9]; simp only [seg, Nat.reduceAdd, List.cons.injEq, and_true] at e7; show gets (s_addMul38.f [v 7, v 8, v 2, v 3]) 0 2 = _; rw [e7.1, e7.2, addMul38_n (by omega) b2 (by omega) b3 (by omega) (by omega)]; rfl
  have d111 : v 11 * v 1 = 2 * (v 0 * v 1) := by rw [h11]; grind
  have e12 : seg v 12 2 = [v 11 * v 1 % 18446744073709551616, v 11 * v 1 / 18446744073709551616] := by
    rw [h12]; show gets (s_mul.f [v 11, v 1]) 0 2 = _; rw [mul_val (by omega) (by omega) b1 (by omega)]; rfl
  have d3824 : 19 * v 2 * (v 4 * 2) = 38 * (v 2 * v 4) := by grind
  have e14 : seg v 14 2 = [(v 11 * v 1 + 19 * v 2 * (v 4 * 2)) % 18446744073709551616, (v 11 * v 1 + 19 * v 2 * (v 4 * 2)) / 18446744073709551616] := by
    rw [h14]; simp only [seg, Nat.reduceAdd, List.cons.injEq, and_true] at e12; show gets (s_addMul38.f [v 12, v 13, v 2, v 4]) 0 2 = _; rw [e12.1, e12.2, addMul38_n (by omega) b2 (by omega) b4 (by omega) (by omega)]; rfl
  have d1933 : 19 * v 3 * v 3 = 19 * (v 3 * v 3) := Int.mul_assoc ..
  have e16 : seg v 16 2 = [(v 11 * v 1 + 19 * v 2 * (v 4 * 2) + 19 * v 3 * v 3) % 18446744073709551616, (v 11 * v 1 + 19 * v 2 * (v 4 * 2) + 19 * v 3 * v 3) / 18446744073709551616] := by
    rw [h16]; simp only [seg, Nat.reduceAdd, List.cons.injEq, and_true] at e14; show gets (s_addMul19.f [v 14, v 15, v 3, v 3]) 0 2 = _; rw [e14.1, e14.2, addMul19_n (by omega) b3 (by omega) b3 (by omega) (by omega)]; rfl
  have d182 : v 18 * v 2 = 2 * (v 0 * v 2) := by rw [h18]; grind
  have e19 : seg v 19 2 = [v 18 * v 2 % 18446744073709551616, v 18 * v 2 / 18446744073709551616] := by
    rw [h19]; show gets (s_mul.f [v 18, v 2]) 0 2 = _; rw [mul_val (by omega) (by omega) b2 (by omega)]; rfl
  have e21 : seg v 21 2 = [(v 18 * v 2 + v 1 * v 1) % 18446744073709551616, (v 18 * v 2 + v 1 * v 1) / 18446744073709551616] := by
    rw [h21]; simp only [seg, Nat.reduceAdd, List.cons.injEq, and_true] at e19; show gets (s_addMul.f [v 19, v 20, v 1, v 1]) 0 2 = _; rw [e19.1, e19.2, addMul_n (by omega) b1 (by omega) b1 (by omega) (by omega)]; rfl
  have d3834 : 19 * v 3 * (v 4 * 2) = 38 * (v 3 * v 4) := by grind
  have e23 : seg v 23 2 = [(v 18 * v 2 + v 1 * v 1 + 19 * v 3 * (v 4 * 2)) % 18446744073709551616, (v 18 * v 2 + v 1 * v 1 + 19 * v 3 * (v 4 * 2)) / 18446744073709551616] := by
    rw [h23]; simp only [seg, Nat.reduceAdd, List.cons.injEq, and_true] at e21; show gets (s_addMul38.f [v 21, v 22, v 3, v 4]) 0 2 = _; rw [e21.1, e21.2, addMul38_n (by omega) b3 (by omega) b4 (by omega) (by omega)]; rfl
  have d253 : v 25 * v 3 = 2 * (v 0 * v 3) := by rw [h25]; grind
  have e26 : seg v 26 2 = [v 25 * v 3 % 18446744073709551616, v 25 * v 3 / 18446744073709551616] := by
    rw [h26]; show gets (s_mul.f [v 25, v 3]) 0 2 = _; rw [mul_val (by omega) (by omega) b3 (by omega)]; rfl
  have d282 : v 28 * v 2 = 2 * (v 1 * v 2) := by rw [h28]; grind
  have e29 : seg v 29 2 = [(v 25 * v 3 + v 28 * v 2) % 18446744073709551616, (v 25 * v 3 + v 28 * v 2) / 18446744073709551616] := by
    rw [h29]; simp only [seg, Nat.reduceAdd, List.cons.injEq, and_true] at e26; show gets (s_addMul.f [v 26, v 27, v 28, v 2]) 0 2 = _; rw [e26.1, e26.2, addMul_n (by omega) (by omega) (by omega) b2 (by omega) (by omega)]; rfl
  have d1944 : 19 * v 4 * v 4 = 19 * (v 4 * v 4) := Int.mul_assoc ..
  have e31 : seg v 31 2 = [(v 25 * v 3 + v 28 * v 2 + 19 * v 4 * v 4) % 18446744073709551616, (v 25 * v 3 + v 28 * v 2 + 19 * v 4 * v 4) / 18446744073709551616] := by
    rw [h31]; simp only [seg, Nat.reduceAdd, List.cons.injEq, and_true] at e29; show gets (s_addMul19.f [v 29, v 30, v 4, v 4]) 0 2 = _; rw [e29.1, e29.2, addMul19_n (by omega) b4 (by omega) b4 (by omega) (by omega)]; rfl
  have d334 : v 33 * v 4 = 2 * (v 0 * v 4) := by rw [h33]; grind
  have e34 : seg v 34 2 = [v 33 * v 4 % 18446744073709551616, v 33 * v 4 / 18446744073709551616] := by
    rw [h34]; show gets (s_mul.f [v 33, v 4]) 0 2 = _; rw [mul_val (by omega) (by omega) b4 (by omega)]; rfl
  have d363 : v 36 * v 3 = 2 * (v 1 * v 3) := by rw [h36]; grind
  have e37 : seg v 37 2 = [(v 33 * v 4 + v 36 * v 3) % 18446744073709551616, (v 33 * v 4 + v 36 * v 3) / 18446744073709551616] := by
    rw [h37]; simp only [seg, Nat.reduceAdd, List.cons.injEq, and_true] at e34; show gets (s_addMul.f [v 34, v 35, v 36, v 3]) 0 2 = _; rw [e34.1, e34.2, addMul_n (by omega) (by omega) (by omega) b3 (by omega) (by omega)]; rfl
  have e39 : seg v 39 2 = [(v 33 * v 4 + v 36 * v 3 + v 2 * v 2) % 18446744073709551616, (v 33 * v 4 + v 36 * v 3 + v 2 * v 2) / 18446744073709551616] := by
    rw [h39]; simp only [seg, Nat.reduceAdd, List.cons.injEq, and_true] at e37; show gets (s_addMul.f [v 37, v 38, v 2, v 2]) 0 2 = _; rw [e37.1, e37.2, addMul_n (by omega) b2 (by omega) b2 (by omega) (by omega)]; rfl
  simp only [seg, Nat.reduceAdd, List.cons.injEq, and_true] at e9
  have c0 : v 41 = (v 0 * v 0 + 19 * v 1 * (v 4 * 2) + 19 * v 2 * (v 3 * 2)) / 2251799813685248 := by
    rw [h41]; show (s_shr51.f [v 9, v 10]).getD 0 0 = _; rw [e9.1, e9.2, shr51_val (by omega) (by omega)]; rfl
  simp only [seg, Nat.reduceAdd, List.cons.injEq, and_true] at e16
  have c1 : v 42 = (v 11 * v 1 + 19 * v 2 * (v 4 * 2) + 19 * v 3 * v 3) / 2251799813685248 := by
    rw [h42]; show (s_shr51.f [v 16, v 17]).getD 0 0 = _; rw [e16.1, e16.2, shr51_val (by omega) (by omega)]; rfl
  simp only [seg, Nat.reduceAdd, List.cons.injEq, and_true] at e23
  have c2 : v 43 = (v 18 * v 2 + v 1 * v 1 + 19 * v 3 * (v 4 * 2)) / 2251799813685248 := by
    rw [h43]; show (s_shr51.f [v 23, v 24]).getD 0 0 = _; rw [e23.1, e23.2, shr51_val (by omega) (by omega)]; rfl
  simp only [seg, Nat.reduceAdd, List.cons.injEq, and_true] at e31
  have c3 : v 44 = (v 25 * v 3 + v 28 * v 2 + 19 * v 4 * v 4) / 2251799813685248 := by
    rw [h44]; show (s_shr51.f [v 31, v 32]).getD 0 0 = _; rw [e31.1, e31.2, shr51_val (by omega) (by omega)]; rfl
  simp only [seg, Nat.reduceAdd, List.cons.injEq, and_true] at e39
  have c4 : v 45 = (v 33 * v 4 + v 36 * v 3 + v 2 * v 2) / 2251799813685248 := by
    rw [h45]; show (s_shr51.f [v 39, v 40]).getD 0 0 = _; rw [e39.1, e39.2, shr51_val (by omega) (by omega)]; rfl
  rw [mul19_val (by omega) (by omega)] at h47
  have h47 : v 47 = 19 * v 45 := h47
  have l46 : v 46 = (v 0 * v 0 + 19 * v 1 * (v 4 * 2) + 19 * v 2 * (v 3 * 2)) % 2251799813685248 := by rw [h46, e9.1]; omega
  have l49 : v 49 = (v 11 * v 1 + 19 * v 2 * (v 4 * 2) + 19 * v 3 * v 3) % 2251799813685248 := by rw [h49, e16.1]; omega
  have l51 : v 51 = (v 18 * v 2 + v 1 * v 1 + 19 * v 3 * (v 4 * 2)) % 2251799813685248 := by rw [h51, e23.1]; omega
  have l53 : v 53 = (v 25 * v 3 + v 28 * v 2 + 19 * v 4 * v 4) % 2251799813685248 := by rw [h53, e31.1]; omega
  have l55 : v 55 = (v 33 * v 4 + v 36 * v 3 + v 2 * v 2) % 2251799813685248 := by rw [h55, e39.1]; omega
  rw [mul19_val (by omega) (by omega)] at h59
  have h59 : v 59 = 19 * v 58 := h59
  refine ⟨(v 45 + v 56 / 2251799813685248) + ((2 * (v 1 * v 4) + 2 * (v 2 * v 3)) + 2251799813685248 * ((2 * (v 2 * v 4) + v 3 * v 3) + 2251799813685248 * (2 * (v 3 * v 4) + 2251799813685248 * (v 4 * v 4)))), ?_⟩
  rw [hf]
  show v 60 + 2251799813685248 * (v 63 + 2251799813685248 * (v 66 + 2251799813685248 * (v 69 + 2251799813685248 * (v 72 + 2251799813685248 * 0)))) = ofD 2251799813685248 [v 0, v 1, v 2, v 3, v 4] * ofD 2251799813685248 [v 0, v 1, v 2, v 3, v 4] - _
  have key := carries (t0 := v 48) (t1 := v 50) (t2 := v 52) (t3 := v 54) (t4 := v 56) c0 c1 c2 c3 c4 (by rw [h48, l46, h47]) (by rw [h50, l49]) (by rw [h52, l51]) (by rw [h54, l53]) (by rw [h56, l55]) (o0 := v 60) (o1 := v 63) (o2 := v 66) (o3 := v 69) (o4 := v 72) (by rw [h60, h57, h59, h58]) (by rw [h63, h61, h62]) (by rw [h66, h64, h65]) (by rw [h69, h67, h68]) (by rw [h72, h70, h71])
  rw [key]
  simp only [ofD]
  have fin : ∀ K : Int, (v 0 * v 0 + 19 * v 1 * (v 4 * 2) + 19 * v 2 * (v 3 * 2)) + 2251799813685248 * ((v 11 * v 1 + 19 * v 2 * (v 4 * 2) + 19 * v 3 * v 3) + 2251799813685248 * ((v 18 * v 2 + v 1 * v 1 + 19 * v 3 * (v 4 * 2)) + 2251799813685248 * ((v 25 * v 3 + v 28 * v 2 + 19 * v 4 * v 4) + 2251799813685248 * (v 33 * v 4 + v 36 * v 3 + v 2 * v 2)))) - p25519 * K =
      (v 0 + 2251799813685248 * (v 1 + 2251799813685248 * (v 2 + 2251799813685248 * (v 3 + 2251799813685248 * (v 4 + 2251799813685248 * 0))))) * (v 0 + 2251799813685248 * (v 1 + 2251799813685248 * (v 2 + 2251799813685248 * (v 3 + 2251799813685248 * (v 4 + 2251799813685248 * 0))))) - p25519 * (K + ((2 * (v 1 * v 4) + 2 * (v 2 * v 3)) + 2251799813685248 * ((2 * (v 2 * v 4) + v 3 * v 3) + 2251799813685248 * (2 * (v 3 * v 4) + 2251799813685248 * (v 4 * v 4))))) := by
    intro K; unfold p25519; rw [h11, h18, h25, h28, h33, h36]; grind
  exact fin _

end Go.X

namespace Go.X
noncomputable section
abbrev l_Add : List Sem := [s_carry]
def g_Add : List (Nat × Ins) := ((apps 0 (vs 10 5) 15 5) ++ [(14, .op2 .add .u64 (.v 4) (.v 9)), (13, .op2 .add .u64 (.v 3) (.v 8)), (12, .op2 .add .u64 (.v 2) (.v 7)), (11, .op2 .add .u64 (.v 1) (.v 6)), (10, .op2 .add .u64 (.v 0) (.v 5))])
def outs_Add : List A := (vs 15 5)
def s_Add : Sem := Sem.st l_Add g_Add 10 20 outs_Add (bs 10 0 4503599627370458) ([(0, 2251799813840876)] ++ (bs 4 0 2251799813693438)) (by kernel_rfl)

theorem E_Add (xs : List Int) (hx : InB (bs 10 0 4503599627370458) xs) : ∃ v : Nat → Int, vals l_Add g_Add xs = v ∧ seg v 0 10 = xs ∧ ((v 10 = (v 0) + (v 5)) ∧ (v 11 = (v 1) + (v 6)) ∧ (v 12 = (v 2) + (v 7)) ∧ (v 13 = (v 3) + (v 8)) ∧ (v 14 = (v 4) + (v 9)) ∧ (seg v 15 5 = gets (s_carry.f (seg v 10 5)) 0 5)) ∧ (True) ∧ s_Add.f xs = (seg v 15 5) :=
  Eq.mp (by kernel_rfl) (runE (s := s_Add) (o := outs_Add) (l := l_Add) (g := g_Add) (nin := 10) (top := 20) (by kernel_rfl) hx (by kernel_rfl))

abbrev l_Sub : List Sem := [s_carry]
def g_Sub : List (Nat × Ins) := ((apps 0 [(.v 11), (.v 13), (.v 15), (.v 17), (.v 19)] 20 5) ++ [(19, .op2 .sub .u64 (.v 18) (.v 9)), (18, .op2 .add .u64 (.v 4) (.l 4503599627370494)), (17, .op2 .sub .u64 (.v 16) (.v 8)), (16, .op2 .add .u64 (.v 3) (.l 4503599627370494)), (15, .op2 .sub .u64 (.v 14) (.v 7)), (14, .op2 .add .u64 (.v 2) (.l 4503599627370494)), (13, .op2 .sub .u64 (.v 12) (.v 6)), (12, .op2 .add .u64 (.v 1) (.l 4503599627370494)), (11, .op2 .sub .u64 (.v 10) (.v 5)), (10, .op2 .add .u64 (.v 0) (.l 4503599627370458))])
def outs_Sub : List A := (vs 20 5)
def s_Sub : Sem := Sem.st l_Sub g_Sub 10 25 outs_Sub (bs 10 0 4503599627370458) ([(0, 2251799813840876)] ++ (bs 4 0 2251799813693438)) (by kernel_rfl)

theorem E_Sub (xs : List Int) (hx : InB (bs 10 0 4503599627370458) xs) : ∃ v : Nat → Int, vals l_Sub g_Sub xs = v ∧ seg v 0 10 = xs ∧ ((v 10 = (v 0) + 4503599627370458) ∧ (v 11 = (v 10) - (v 5)) ∧ (v 12 = (v 1) + 4503599627370494) ∧ (v 13 = (v 12) - (v 6)) ∧ (v 14 = (v 2) + 4503599627370494) ∧ (v 15 = (v 14) - (v 7)) ∧ (v 16 = (v 3) + 4503599627370494) ∧ (v 17 = (v 16) - (v 8)) ∧ (v 18 = (v 4) + 4503599627370494) ∧ (v 19 = (v 18) - (v 9)) ∧ (seg v 20 5 = gets (s_carry.f ([v 11] ++ [v 13] ++ [v 15] ++ [v 17] ++ [v 19])) 0 5)) ∧ (True) ∧ s_Sub.f xs = (seg v 20 5) :=
  Eq.mp (by kernel_rfl) (runE (s := s_Sub) (o := outs_Sub) (l := l_Sub) (g := g_Sub) (nin := 10) (top := 25) (by kernel_rfl) hx (by kernel_rfl))

abbrev l_feZero : List Sem := []
def g_feZero : List (Nat × Ins) := []
def outs_feZero : List A := []
def s_feZero : Sem := Sem.st l_feZero g_feZero 0 0 outs_feZero [] [] (by kernel_rfl)

abbrev l_feOne_ : List Sem := []
def g_feOne_ : List (Nat × Ins) := []
def outs_feOne_ : List A := []
def s_feOne_ : Sem := Sem.st l_feOne_ g_feOne_ 0 0 outs_feOne_ [] [] (by kernel_rfl)

abbrev l_One : List Sem := [s_feOne_]
def g_One : List (Nat × Ins) := []
def outs_One : List A := []
def s_One : Sem := Sem.st l_One g_One 0 0 outs_One [] [] (by kernel_rfl)

abbrev l_Set : List Sem := []
def g_Set : List (Nat × Ins) := []
def outs_Set : List A := []
def s_Set : Sem := Sem.st l_Set g_Set 5 5 outs_Set (bs 5 0 4503599627370458) [] (by kernel_rfl)

abbrev l_mask : List Sem := []
def g_mask : List (Nat × Ins) := [(3, .op2 .xor .u64 (.l 18446744073709551615) (.v 2)),
  (2, .op2 .sub .u64 (.v 1) (.l 1)),
  (1, .conv .u64 (.v 0))]
def outs_mask : List A := [(.v 3)]
def s_mask : Sem := Sem.st l_mask g_mask 1 4 outs_mask [(0, 1)] [(0, 18446744073709551615)] (by kernel_rfl)

abbrev l_Sel : List Sem := [s_mask]
def g_Sel : List (Nat × Ins) := [(31, .op2 .or .u64 (.v 28) (.v 30)),
  (30, .op2 .and .u64 (.v 29) (.v 9)),
  (29, .op2 .xor .u64 (.l 18446744073709551615) (.v 11)),
  (28, .op2 .and .u64 (.v 11) (.v 4)),
  (27, .op2 .or .u64 (.v 24) (.v 26)),
  (26, .op2 .and .u64 (.v 25) (.v 8)),
  (25, .op2 .xor .u64 (.l 18446744073709551615) (.v 11)),
  (24, .op2 .and .u64 (.v 11) (.v 3)),
  (23, .op2 .or .u64 (.v 20) (.v 22)),
  (22, .op2 .and .u64 (.v 21) (.v 7)),
  (21, .op2 .xor .u64 (.l 18446744073709551615) (.v 11)),
  (20, .op2 .and .u64 (.v 11) (.v 2)),
  (19, .op2 .or .u64 (.v 16) (.v 18)),
  (18, .op2 .and .u64 (.v 17) (.v 6)),
  (17, .op2 .xor .u64 (.l 18446744073709551615) (.v 11)),
  (16, .op2 .and .u64 (.v 11) (.v 1)),
  (15, .op2 .or .u64 (.v 12) (.v 14)),
  (14, .op2 .and .u64 (.v 13) (.v 5)),
  (13, .op2 .xor .u64 (.l 18446744073709551615) (.v 11)),
  (12, .op2 .and .u64 (.v 11) (.v 0)),
  (11, .app 0 [(.v 10)] 0)]
def outs_Sel : List A := [(.v 15), (.v 19), (.v 23), (.v 27), (.v 31)]
def s_Sel0 : Sem := Sem.st l_Sel g_Sel 11 32 outs_Sel ((bs 10 0 4503599627370458) ++ [(0, 1)]) (bs 5 0 4503599627370495) (by kernel_rfl)

theorem E_Sel (xs : List Int) (hx : InB ((bs 10 0 4503599627370458) ++ [(0, 1)]) xs) : ∃ v : Nat → Int, vals l_Sel g_Sel xs = v ∧ seg v 0 11 = xs ∧ ((v 11 = (s_mask.f ([v 10])).getD 0 0) ∧ (v 12 = op2 .and .u64 (v 11) (v 0)) ∧ (v 13 = op2 .xor .u64 18446744073709551615 (v 11)) ∧ (v 14 = op2 .and .u64 (v 13) (v 5)) ∧ (v 15 = op2 .or .u64 (v 12) (v 14)) ∧ (v 16 = op2 .and .u64 (v 11) (v 1)) ∧ (v 17 = op2 .xor .u64 18446744073709551615 (v 11)) ∧ (v 18 = op2 .and .u64 (v 17) (v 6)) ∧ (v 19 = op2 .or .u64 (v 16) (v 18)) ∧ (v 20 = op2 .and .u64 (v 11) (v 2)) ∧ (v 21 = op2 .xor .u64 18446744073709551615 (v 11)) ∧ (v 22 = op2 .and .u64 (v 21) (v 7)) ∧ (v 23 = op2 .or .u64 (v 20) (v 22)) ∧ (v 24 = op2 .and .u64 (v 11) (v 3)) ∧ (v 25 = op2 .xor .u64 18446744073709551615 (v 11)) ∧ (v 26 = op2 .and .u64 (v 25) (v 8)) ∧ (v 27 = op2 .or .u64 (v 24) (v 26)) ∧ (v 28 = op2 .and .u64 (v 11) (v 4)) ∧ (v 29 = op2 .xor .u64 18446744073709551615 (v 11)) ∧ (v 30 = op2 .and .u64 (v 29) (v 9)) ∧ (v 31 = op2 .or .u64 (v 28) (v 30))) ∧ (True) ∧ s_Sel0.f xs = ([v 15] ++ [v 19] ++ [v 23] ++ [v 27] ++ [v 31]) :=
  Eq.mp (by kernel_rfl) (runE (s := s_Sel0) (o := outs_Sel) (l := l_Sel) (g := g_Sel) (nin := 11) (top := 32) (by kernel_rfl) hx (by kernel_rfl))

end
end Go.X

namespace Go.X

abbrev LB : Bd := [(0, 4503599627370458), (0, 4503599627370458), (0, 4503599627370458), (0, 4503599627370458), (0, 4503599627370458)]

/-- five numbers as one -/
abbrev v51 (l : List Int) : Int := ofD 2251799813685248 l

theorem carry_val (xs : List Int) (hx : InB [(0, 18446744073709551615), (0, 18446744073709551615), (0, 18446744073709551615), (0, 18446744073709551615), (0, 18446744073709551615)] xs) :
    ∃ k, v51 (s_carry.f xs) = v51 xs - p25519 * k := by
  obtain ⟨v, -, hin, he, -, hf⟩ := E_carry xs hx
  obtain ⟨h5, h6, h7, h8, h9, h10, h11, h12, h13, h14, h15, h16, h17, h18, h19, h20⟩ := he
  subst hin
  simp only [seg, Nat.reduceAdd, InB, and_true] at hx
  obtain ⟨b0, b0', b1, b1', b2, b2', b3, b3', b4, b4'⟩ := hx
  have h7 : v 7 = 19 * v 6 := by rw [h7, mul19_val (by omega) (by omega)]; rfl
  refine ⟨v 6, ?_⟩
  rw [hf]
  show v 8 + 2251799813685248 * (v 20 + 2251799813685248 * (v 17 + 2251799813685248 * (v 14 + 2251799813685248 * (v 11 + 2251799813685248 * 0)))) =
    v 0 + 2251799813685248 * (v 1 + 2251799813685248 * (v 2 + 2251799813685248 * (v 3 + 2251799813685248 * (v 4 + 2251799813685248 * 0)))) - _
  unfold p25519
  omega

theorem carry_bd (xs : List Int) (hx : InB [(0, 18446744073709551615), (0, 18446744073709551615), (0, 18446744073709551615), (0, 18446744073709551615), (0, 18446744073709551615)] xs) :
    InB [(0, 2251799813840876), (0, 2251799813693438), (0, 2251799813693438), (0, 2251799813693438), (0, 2251799813693438)] (s_carry.f xs) :=
  s_carry.ok _ _ (by kernel_rfl) xs hx

theorem gets5 {l : List Int} {bo : Bd} (h : InB bo l) (hb : bo.length = 5) : gets l 0 5 = l := gets_all (by rw [h.len, hb])

theorem Add_val (xs : List Int) (hx : InB (LB ++ LB) xs) : ∃ k, v51 (s_Add.f xs) = v51 (xs.take 5) + v51 (xs.drop 5) - p25519 * k := by
  obtain ⟨v, -, hin, he, -, hf⟩ := E_Add xs hx
  obtain ⟨h10, h11, h12, h13, h14, h15⟩ := he
  subst hin
  simp only [seg, Nat.reduceAdd, LB, List.cons_append, List.nil_append, InB, and_true] at hx
  obtain ⟨b0, b0', b1, b1', b2, b2', b3, b3', b4, b4', b5, b5', b6, b6', b7, b7', b8, b8', b9, b9'⟩ := hx
  have hb : InB [(0, 18446744073709551615), (0, 18446744073709551615), (0, 18446744073709551615), (0, 18446744073709551615), (0, 18446744073709551615)] (seg v 10 5) := by
    simp only [seg, Nat.reduceAdd, InB, and_true]; omega
  rw [gets5 (carry_bd _ hb) rfl] at h15
  obtain ⟨k, hk⟩ := carry_val _ hb
  refine ⟨k, ?_⟩
  rw [hf, h15, hk]
  show v 10 + 2251799813685248 * (v 11 + 2251799813685248 * (v 12 + 2251799813685248 * (v 13 + 2251799813685248 * (v 14 + 2251799813685248 * 0)))) - _ =
    v 0 + 2251799813685248 * (v 1 + 2251799813685248 * (v 2 + 2251799813685248 * (v 3 + 2251799813685248 * (v 4 + 2251799813685248 * 0)))) +
    (v 5 + 2251799813685248 * (v 6 + 2251799813685248 * (v 7 + 2251799813685248 * (v 8 + 2251799813685248 * (v 9 + 2251799813685248 * 0))))) - _
  omega

theorem Sub_val (xs : List Int) (hx : InB (LB ++ LB) xs) : ∃ k, v51 (s_Sub.f xs) = v51 (xs.take 5) - v51 (xs.drop 5) - p25519 * k := by
  obtain ⟨v, -, hin, he, -, hf⟩ := E_Sub xs hx
  obtain ⟨h10, h11, h12, h13, h14, h15, h16, h17, h18, h19, h20⟩ := he
  subst hin
  simp only [seg, Nat.reduceAdd, LB, List.cons_append, List.nil_append, InB, and_true] at hx
  obtain ⟨b0, b0', b1, b1', b2, b2', b3, b3', b4, b4', b5, b5', b6, b6', b7, b7', b8, b8', b9, b9'⟩ := hx
  have hb : InB [(0, 18446744073709551615), (0, 18446744073709551615), (0, 18446744073709551615), (0, 18446744073709551615), (0, 18446744073709551615)] [v 11, v 13, v 15, v 17, v 19] := by
    simp only [InB, and_true]; omega
  have h20 : seg v 20 5 = gets (s_carry.f [v 11, v 13, v 15, v 17, v 19]) 0 5 := h20
  rw [gets5 (carry_bd _ hb) rfl] at h20
  obtain ⟨k, hk⟩ := carry_val _ hb
  refine ⟨k - 2, ?_⟩
  rw [hf, h20, hk]
  show v 11 + 2251799813685248 * (v 13 + 2251799813685248 * (v 15 + 2251799813685248 * (v 17 + 2251799813685248 * (v 19 + 2251799813685248 * 0)))) - _ =
    v 0 + 2251799813685248 * (v 1 + 2251799813685248 * (v 2 + 2251799813685248 * (v 3 + 2251799813685248 * (v 4 + 2251799813685248 * 0)))) -
    (v 5 + 2251799813685248 * (v 6 + 2251799813685248 * (v 7 + 2251799813685248 * (v 8 + 2251799813685248 * (v 9 + 2251799813685248 * 0))))) - _
  unfold p25519
  omega

/-! a choice -/

theorem and_ones {x : Int} (h : 0 ≤ x) (h' : x < 18446744073709551616) : op2 .and .u64 18446744073709551615 x = x ∧ op2 .and .u64 0 x = 0 := by
  obtain ⟨n, rfl⟩ := Int.eq_ofNat_of_zero_le h
  have hn : n < 2 ^ 64 := by omega
  have e1 := (bits_nat .u64 64 (by decide) (fun n a b => wrap_w (k := .u64) n a b) 18446744073709551615 n (by decide) hn).1
  have e2 := (bits_nat .u64 64 (by decide) (fun n a b => wrap_w (k := .u64) n a b) 0 n (by decide) hn).1
  refine ⟨?_, ?_⟩
  · show bits .and .u64 ((18446744073709551615 : Nat) : Int) n = _
    rw [e1, Nat.and_comm, show 18446744073709551615 = 2 ^ 64 - 1 from rfl, Nat.and_two_pow_sub_one_eq_mod, Nat.mod_eq_of_lt hn]
  · show bits .and .u64 ((0 : Nat) : Int) n = _
    rw [e2]; simp

theorem or_zero {x : Int} (h : 0 ≤ x) (h' : x < 18446744073709551616) : op2 .or .u64 x 0 = x ∧ op2 .or .u64 0 x = x := by
  obtain ⟨n, rfl⟩ := Int.eq_ofNat_of_zero_le h
  have hn : n < 2 ^ 64 := by omega
  have e1 := (bits_nat .u64 64 (by decide) (fun n a b => wrap_w (k := .u64) n a b) n 0 hn (by decide)).2
  have e2 := (bits_nat .u64 64 (by decide) (fun n a b => wrap_w (k := .u64) n a b) 0 n (by decide) hn).2
  refine ⟨?_, ?_⟩
  · show bits .or .u64 (n : Int) ((0 : Nat) : Int) = _
    rw [e1]; simp
  · show bits .or .u64 ((0 : Nat) : Int) (n : Int) = _
    rw [e2]; simp

theorem mask_1 : s_mask.f [1] = [18446744073709551615] := by kernel_rfl
theorem mask_0 : s_mask.f [0] = [0] := by kernel_rfl
theorem xor_1 : op2 .xor .u64 18446744073709551615 18446744073709551615 = 0 := by kernel_rfl
theorem xor_0 : op2 .xor .u64 18446744073709551615 0 = 18446744073709551615 := by kernel_rfl

def f_Sel (xs : List Int) : List Int := if xs.getD 10 0 = 1 then xs.take 5 else (xs.drop 5).take 5

theorem eq_Sel (xs : List Int) (hx : InB s_Sel0.bi xs) : s_Sel0.f xs = f_Sel xs := by
  obtain ⟨v, -, hin, he, -, hf⟩ := E_Sel xs hx
  obtain ⟨h11, h12, h13, h14, h15, h16, h17, h18, h19, h20, h21, h22, h23, h24, h25, h26, h27, h28, h29, h30, h31⟩ := he
  subst hin
  have hx : InB (LB ++ LB ++ [(0, 1)]) (seg v 0 11) := hx
  simp only [seg, Nat.reduceAdd, LB, List.cons_append, List.nil_append, InB, and_true] at hx
  obtain ⟨b0, b0', b1, b1', b2, b2', b3, b3', b4, b4', b5, b5', b6, b6', b7, b7', b8, b8', b9, b9', b10, b10'⟩ := hx
  rw [hf]
  have hv : v 10 = 0 ∨ v 10 = 1 := by omega
  have sh : f_Sel (seg v 0 11) = if v 10 = 1 then [v 0, v 1, v 2, v 3, v 4] else [v 5, v 6, v 7, v 8, v 9] := rfl
  rw [sh]
  show [v 15, v 19, v 23, v 27, v 31] = _
  rcases hv with h | h
  · rw [h, mask_0] at h11
    have h11 : v 11 = 0 := h11
    rw [h11] at h12 h13 h16 h17 h20 h21 h24 h25 h28 h29
    rw [xor_0] at h13 h17 h21 h25 h29
    rw [(and_ones b0 (by omega)).2] at h12
    rw [(and_ones b1 (by omega)).2] at h16
    rw [(and_ones b2 (by omega)).2] at h20
    rw [(and_ones b3 (by omega)).2] at h24
    rw [(and_ones b4 (by omega)).2] at h28
    rw [h13, (and_ones b5 (by omega)).1] at h14
    rw [h17, (and_ones b6 (by omega)).1] at h18
    rw [h21, (and_ones b7 (by omega)).1] at h22
    rw [h25, (and_ones b8 (by omega)).1] at h26
    rw [h29, (and_ones b9 (by omega)).1] at h30
    rw [h12, h14, (or_zero b5 (by omega)).2] at h15
    rw [h16, h18, (or_zero b6 (by omega)).2] at h19
    rw [h20, h22, (or_zero b7 (by omega)).2] at h23
    rw [h24, h26, (or_zero b8 (by omega)).2] at h27
    rw [h28, h30, (or_zero b9 (by omega)).2] at h31
    rw [h15, h19, h23, h27, h31, if_neg (by omega)]
  · rw [h, mask_1] at h11
    have h11 : v 11 = 18446744073709551615 := h11
    rw [h11] at h12 h13 h16 h17 h20 h21 h24 h25 h28 h29
    rw [xor_1] at h13 h17 h21 h25 h29
    rw [(and_ones b0 (by omega)).1] at h12
    rw [(and_ones b1 (by omega)).1] at h16
    rw [(and_ones b2 (by omega)).1] at h20
    rw [(and_ones b3 (by omega)).1] at h24
    rw [(and_ones b4 (by omega)).1] at h28
    rw [h13, (and_ones b5 (by omega)).2] at h14
    rw [h17, (and_ones b6 (by omega)).2] at h18
    rw [h21, (and_ones b7 (by omega)).2] at h22
    rw [h25, (and_ones b8 (by omega)).2] at h26
    rw [h29, (and_ones b9 (by omega)).2] at h30
    rw [h12, h14, (or_zero b0 (by omega)).1] at h15
    rw [h16, h18, (or_zero b1 (by omega)).1] at h19
    rw [h20, h22, (or_zero b2 (by omega)).1] at h23
    rw [h24, h26, (or_zero b3 (by omega)).1] at h27
    rw [h28, h30, (or_zero b4 (by omega)).1] at h31
    rw [h15, h19, h23, h27, h31, if_pos h]

theorem InB.split : ∀ {a b : Bd} {xs : List Int}, InB (a ++ b) xs → InB a (xs.take a.length) ∧ InB b (xs.drop a.length)
  | [], b, xs, h => by simpa using ⟨trivial, h⟩
  | _ :: _, b, [], h => h.elim
  | _ :: r, b, _ :: _, h => ⟨⟨h.1, h.2.1, (InB.split h.2.2).1⟩, (InB.split h.2.2).2⟩

def s_Sel : Sem := Sem.of f_Sel (LB ++ LB ++ [(0, 1)]) LB (by
  intro xs hx
  have h1 : InB (LB ++ (LB ++ [(0, 1)])) xs := hx
  obtain ⟨h2, h3⟩ := h1.split
  unfold f_Sel
  split
  · exact h2
  · exact h3.split.1)

end Go.X

namespace Go.X
noncomputable section
abbrev l_Neg : List Sem := [s_Sub, s_Sub, s_feZero]
def g_Neg : List (Nat × Ins) := (apps 0 ((ls 0 5) ++ (vs 0 5)) 5 5)
def outs_Neg : List A := (vs 5 5)
def s_Neg : Sem := Sem.st l_Neg g_Neg 5 10 outs_Neg (bs 5 0 4503599627370458) ([(0, 2251799813840876)] ++ (bs 4 0 2251799813693438)) (by kernel_rfl)

theorem E_Neg (xs : List Int) (hx : InB (bs 5 0 4503599627370458) xs) : ∃ v : Nat → Int, vals l_Neg g_Neg xs = v ∧ seg v 0 5 = xs ∧ ((seg v 5 5 = gets (s_Sub.f ([0, 0, 0, 0, 0] ++ seg v 0 5)) 0 5)) ∧ (True) ∧ s_Neg.f xs = (seg v 5 5) :=
  Eq.mp (by kernel_rfl) (runE (s := s_Neg) (o := outs_Neg) (l := l_Neg) (g := g_Neg) (nin := 5) (top := 10) (by kernel_rfl) hx (by kernel_rfl))

abbrev l_reduce : List Sem := [s_carry]
def g_reduce : List (Nat × Ins) := ([(34, .op2 .and .u64 (.v 32) (.l 2251799813685247)), (33, .op2 .and .u64 (.v 29) (.l 2251799813685247)), (32, .op2 .add .u64 (.v 9) (.v 31)), (31, .op2 .shr .u64 (.v 29) (.l 51)), (30, .op2 .and .u64 (.v 26) (.l 2251799813685247)), (29, .op2 .add .u64 (.v 8) (.v 28)), (28, .op2 .shr .u64 (.v 26) (.l 51)), (27, .op2 .and .u64 (.v 23) (.l 2251799813685247)), (26, .op2 .add .u64 (.v 7) (.v 25)), (25, .op2 .shr .u64 (.v 23) (.l 51)), (24, .op2 .and .u64 (.v 21) (.l 2251799813685247)), (23, .op2 .add .u64 (.v 6) (.v 22)), (22, .op2 .shr .u64 (.v 21) (.l 51)), (21, .op2 .add .u64 (.v 5) (.v 20)), (20, .op2 .mul .u64 (.l 19) (.v 19)), (19, .op2 .shr .u64 (.v 18) (.l 51)), (18, .op2 .add .u64 (.v 9) (.v 17)), (17, .op2 .shr .u64 (.v 16) (.l 51)), (16, .op2 .add .u64 (.v 8) (.v 15)), (15, .op2 .shr .u64 (.v 14) (.l 51)), (14, .op2 .add .u64 (.v 7) (.v 13)), (13, .op2 .shr .u64 (.v 12) (.l 51)), (12, .op2 .add .u64 (.v 6) (.v 11)), (11, .op2 .shr .u64 (.v 10) (.l 51)), (10, .op2 .add .u64 (.v 5) (.l 19))] ++ (apps 0 (vs 0 5) 5 5))
def outs_reduce : List A := [(.v 24), (.v 27), (.v 30), (.v 33), (.v 34)]
def s_reduce : Sem := Sem.st l_reduce g_reduce 5 35 outs_reduce (bs 5 0 4503599627370458) (bs 5 0 2251799813685247) (by kernel_rfl)

theorem E_reduce (xs : List Int) (hx : InB (bs 5 0 4503599627370458) xs) : ∃ v : Nat → Int, vals l_reduce g_reduce xs = v ∧ seg v 0 5 = xs ∧ ((seg v 5 5 = gets (s_carry.f (seg v 0 5)) 0 5) ∧ (v 10 = (v 5) + 19) ∧ (v 11 = (v 10) / 2251799813685248) ∧ (v 12 = (v 6) + (v 11)) ∧ (v 13 = (v 12) / 2251799813685248) ∧ (v 14 = (v 7) + (v 13)) ∧ (v 15 = (v 14) / 2251799813685248) ∧ (v 16 = (v 8) + (v 15)) ∧ (v 17 = (v 16) / 2251799813685248) ∧ (v 18 = (v 9) + (v 17)) ∧ (v 19 = (v 18) / 2251799813685248) ∧ (v 20 = 19 * (v 19)) ∧ (v 21 = (v 5) + (v 20)) ∧ (v 22 = (v 21) / 2251799813685248) ∧ (v 23 = (v 6) + (v 22)) ∧ (v 24 = (v 21) % 2251799813685248) ∧ (v 25 = (v 23) / 2251799813685248) ∧ (v 26 = (v 7) + (v 25)) ∧ (v 27 = (v 23) % 2251799813685248) ∧ (v 28 = (v 26) / 2251799813685248) ∧ (v 29 = (v 8) + (v 28)) ∧ (v 30 = (v 26) % 2251799813685248) ∧ (v 31 = (v 29) / 2251799813685248) ∧ (v 32 = (v 9) + (v 31)) ∧ (v 33 = (v 29) % 2251799813685248) ∧ (v 34 = (v 32) % 2251799813685248)) ∧ (True) ∧ s_reduce.f xs = ([v 24] ++ [v 27] ++ [v 30] ++ seg v 33 2) :=
  Eq.mp (by kernel_rfl) (runE (s := s_reduce) (o := outs_reduce) (l := l_reduce) (g := g_reduce) (nin := 5) (top := 35) (by kernel_rfl) hx (by kernel_rfl))

abbrev l_put32 : List Sem := []
def g_put32 : List (Nat × Ins) := [(16, .conv .u8 (.v 15)),
  (15, .op2 .shr .u64 (.v 0) (.l 56)),
  (14, .conv .u8 (.v 13)),
  (13, .op2 .shr .u64 (.v 0) (.l 48)),
  (12, .conv .u8 (.v 11)),
  (11, .op2 .shr .u64 (.v 0) (.l 40)),
  (10, .conv .u8 (.v 9)),
  (9, .op2 .shr .u64 (.v 0) (.l 32)),
  (8, .conv .u8 (.v 7)),
  (7, .op2 .shr .u64 (.v 0) (.l 24)),
  (6, .conv .u8 (.v 5)),
  (5, .op2 .shr .u64 (.v 0) (.l 16)),
  (4, .conv .u8 (.v 3)),
  (3, .op2 .shr .u64 (.v 0) (.l 8)),
  (2, .conv .u8 (.v 1)),
  (1, .op2 .shr .u64 (.v 0) (.l 0))]
def outs_put32 : List A := [(.v 2), (.v 4), (.v 6), (.v 8), (.v 10), (.v 12), (.v 14), (.v 16)]
def s_put32 : Sem := Sem.st l_put32 g_put32 1 17 outs_put32 [(0, 18446744073709551615)] (bs 8 0 255) (by kernel_rfl)

theorem E_put32 (xs : List Int) (hx : InB [(0, 18446744073709551615)] xs) : ∃ v : Nat → Int, vals l_put32 g_put32 xs = v ∧ seg v 0 1 = xs ∧ ((v 1 = (v 0) / 1) ∧ (v 2 = (v 1) % 256) ∧ (v 3 = (v 0) / 256) ∧ (v 4 = (v 3) % 256) ∧ (v 5 = (v 0) / 65536) ∧ (v 6 = (v 5) % 256) ∧ (v 7 = (v 0) / 16777216) ∧ (v 8 = (v 7) % 256) ∧ (v 9 = (v 0) / 4294967296) ∧ (v 10 = (v 9) % 256) ∧ (v 11 = (v 0) / 1099511627776) ∧ (v 12 = (v 11) % 256) ∧ (v 13 = (v 0) / 281474976710656) ∧ (v 14 = (v 13) % 256) ∧ (v 15 = (v 0) / 72057594037927936) ∧ (v 16 = (v 15))) ∧ (True) ∧ s_put32.f xs = ([v 2] ++ [v 4] ++ [v 6] ++ [v 8] ++ [v 10] ++ [v 12] ++ [v 14] ++ [v 16]) :=
  Eq.mp (by kernel_rfl) (runE (s := s_put32) (o := outs_put32) (l := l_put32) (g := g_put32) (nin := 1) (top := 17) (by kernel_rfl) hx (by kernel_rfl))

abbrev l_bytes_ : List Sem := [s_reduce, s_put32, s_put32, s_put32, s_put32]
def g_bytes_ : List (Nat × Ins) := (List.flatten [apps 4 [(.v 20)] 45 8, apps 3 [(.v 17)] 37 8, apps 2 [(.v 14)] 29 8, apps 1 [(.v 11)] 21 8, [(20, .op2 .or .u64 (.v 18) (.v 19)), (19, .op2 .shr .u64 (.v 8) (.l 39)), (18, .op2 .shl .u64 (.v 9) (.l 12)), (17, .op2 .or .u64 (.v 15) (.v 16)), (16, .op2 .shr .u64 (.v 7) (.l 26)), (15, .op2 .shl .u64 (.v 8) (.l 25)), (14, .op2 .or .u64 (.v 12) (.v 13)), (13, .op2 .shr .u64 (.v 6) (.l 13)), (12, .op2 .shl .u64 (.v 7) (.l 38)), (11, .op2 .or .u64 (.v 10) (.v 5)), (10, .op2 .shl .u64 (.v 6) (.l 51))], apps 0 (vs 0 5) 5 5])
def outs_bytes_ : List A := (vs 21 32)
def s_bytes_ : Sem := Sem.st l_bytes_ g_bytes_ 5 53 outs_bytes_ (bs 5 0 4503599627370458) (bs 32 0 255) (by kernel_rfl)

theorem E_bytes_ (xs : List Int) (hx : InB (bs 5 0 4503599627370458) xs) : ∃ v : Nat → Int, vals l_bytes_ g_bytes_ xs = v ∧ seg v 0 5 = xs ∧ ((seg v 5 5 = gets (s_reduce.f (seg v 0 5)) 0 5) ∧ (v 10 = ((v 6) * 2251799813685248) % 18446744073709551616) ∧ (v 11 = (v 10) + (v 5)) ∧ (v 12 = ((v 7) * 274877906944) % 18446744073709551616) ∧ (v 13 = (v 6) / 8192) ∧ (v 14 = (v 12) + (v 13)) ∧ (v 15 = ((v 8) * 33554432) % 18446744073709551616) ∧ (v 16 = (v 7) / 67108864) ∧ (v 17 = (v 15) + (v 16)) ∧ (v 18 = (v 9) * 4096) ∧ (v 19 = (v 8) / 549755813888) ∧ (v 20 = (v 18) + (v 19)) ∧ (seg v 21 8 = gets (s_put32.f ([v 11])) 0 8) ∧ (seg v 29 8 = gets (s_put32.f ([v 14])) 0 8) ∧ (seg v 37 8 = gets (s_put32.f ([v 17])) 0 8) ∧ (seg v 45 8 = gets (s_put32.f ([v 20])) 0 8)) ∧ (True) ∧ s_bytes_.f xs = (seg v 21 32) :=
  Eq.mp (by kernel_rfl) (runE (s := s_bytes_) (o := outs_bytes_) (l := l_bytes_) (g := g_bytes_) (nin := 5) (top := 53) (by kernel_rfl) hx (by kernel_rfl))

abbrev l_Bytes : List Sem := [s_bytes_]
def g_Bytes : List (Nat × Ins) := (apps 0 (vs 0 5) 5 32)
def outs_Bytes : List A := (vs 5 32)
def s_Bytes : Sem := Sem.st l_Bytes g_Bytes 5 37 outs_Bytes (bs 5 0 4503599627370458) (bs 32 0 255) (by kernel_rfl)

theorem E_Bytes (xs : List Int) (hx : InB (bs 5 0 4503599627370458) xs) : ∃ v : Nat → Int, vals l_Bytes g_Bytes xs = v ∧ seg v 0 5 = xs ∧ ((seg v 5 32 = gets (s_bytes_.f (seg v 0 5)) 0 32)) ∧ (True) ∧ s_Bytes.f xs = (seg v 5 32) :=
  Eq.mp (by kernel_rfl) (runE (s := s_Bytes) (o := outs_Bytes) (l := l_Bytes) (g := g_Bytes) (nin := 5) (top := 37) (by kernel_rfl) hx (by kernel_rfl))

abbrev l_le64 : List Sem := []
def g_le64 : List (Nat × Ins) := [(30, .op2 .or .u64 (.v 28) (.v 29)),
  (29, .conv .u64 (.v 0)),
  (28, .op2 .shl .u64 (.v 27) (.l 8)),
  (27, .op2 .or .u64 (.v 25) (.v 26)),
  (26, .conv .u64 (.v 1)),
  (25, .op2 .shl .u64 (.v 24) (.l 8)),
  (24, .op2 .or .u64 (.v 22) (.v 23)),
  (23, .conv .u64 (.v 2)),
  (22, .op2 .shl .u64 (.v 21) (.l 8)),
  (21, .op2 .or .u64 (.v 19) (.v 20)),
  (20, .conv .u64 (.v 3)),
  (19, .op2 .shl .u64 (.v 18) (.l 8)),
  (18, .op2 .or .u64 (.v 16) (.v 17)),
  (17, .conv .u64 (.v 4)),
  (16, .op2 .shl .u64 (.v 15) (.l 8)),
  (15, .op2 .or .u64 (.v 13) (.v 14)),
  (14, .conv .u64 (.v 5)),
  (13, .op2 .shl .u64 (.v 12) (.l 8)),
  (12, .op2 .or .u64 (.v 10) (.v 11)),
  (11, .conv .u64 (.v 6)),
  (10, .op2 .shl .u64 (.v 9) (.l 8)),
  (9, .op2 .or .u64 (.l 0) (.v 8)),
  (8, .conv .u64 (.v 7))]
def outs_le64 : List A := [(.v 30)]
def s_le64 : Sem := Sem.st l_le64 g_le64 8 31 outs_le64 (bs 8 0 255) [(0, 18446744073709551615)] (by kernel_rfl)

theorem E_le64 (xs : List Int) (hx : InB (bs 8 0 255) xs) : ∃ v : Nat → Int, vals l_le64 g_le64 xs = v ∧ seg v 0 8 = xs ∧ ((v 8 = (v 7)) ∧ (v 9 = 0 + (v 8)) ∧ (v 10 = (v 9) * 256) ∧ (v 11 = (v 6)) ∧ (v 12 = (v 10) + (v 11)) ∧ (v 13 = (v 12) * 256) ∧ (v 14 = (v 5)) ∧ (v 15 = (v 13) + (v 14)) ∧ (v 16 = (v 15) * 256) ∧ (v 17 = (v 4)) ∧ (v 18 = (v 16) + (v 17)) ∧ (v 19 = (v 18) * 256) ∧ (v 20 = (v 3)) ∧ (v 21 = (v 19) + (v 20)) ∧ (v 22 = (v 21) * 256) ∧ (v 23 = (v 2)) ∧ (v 24 = (v 22) + (v 23)) ∧ (v 25 = (v 24) * 256) ∧ (v 26 = (v 1)) ∧ (v 27 = (v 25) + (v 26)) ∧ (v 28 = (v 27) * 256) ∧ (v 29 = (v 0)) ∧ (v 30 = (v 28) + (v 29))) ∧ (True) ∧ s_le64.f xs = ([v 30]) :=
  Eq.mp (by kernel_rfl) (runE (s := s_le64) (o := outs_le64) (l := l_le64) (g := g_le64) (nin := 8) (top := 31) (by kernel_rfl) hx (by kernel_rfl))

abbrev l_SetBytes : List Sem := [s_le64]
def g_SetBytes : List (Nat × Ins) := [(45, .op2 .and .u64 (.v 44) (.l 2251799813685247)),
  (44, .op2 .shr .u64 (.v 43) (.l 12)),
  (43, .app 0 (vs 24 8) 0),
  (42, .op2 .and .u64 (.v 41) (.l 2251799813685247)),
  (41, .op2 .shr .u64 (.v 40) (.l 1)),
  (40, .app 0 (vs 19 8) 0),
  (39, .op2 .and .u64 (.v 38) (.l 2251799813685247)),
  (38, .op2 .shr .u64 (.v 37) (.l 6)),
  (37, .app 0 (vs 12 8) 0),
  (36, .op2 .and .u64 (.v 35) (.l 2251799813685247)),
  (35, .op2 .shr .u64 (.v 34) (.l 3)),
  (34, .app 0 (vs 6 8) 0),
  (33, .op2 .and .u64 (.v 32) (.l 2251799813685247)),
  (32, .app 0 (vs 0 8) 0)]
def outs_SetBytes : List A := [(.v 33), (.v 36), (.v 39), (.v 42), (.v 45)]
def s_SetBytes : Sem := Sem.st l_SetBytes g_SetBytes 32 46 outs_SetBytes (bs 32 0 255) (bs 5 0 2251799813685247) (by kernel_rfl)

theorem E_SetBytes (xs : List Int) (hx : InB (bs 32 0 255) xs) : ∃ v : Nat → Int, vals l_SetBytes g_SetBytes xs = v ∧ seg v 0 32 = xs ∧ ((v 32 = (s_le64.f (seg v 0 8)).getD 0 0) ∧ (v 33 = (v 32) % 2251799813685248) ∧ (v 34 = (s_le64.f (seg v 6 8)).getD 0 0) ∧ (v 35 = (v 34) / 8) ∧ (v 36 = (v 35) % 2251799813685248) ∧ (v 37 = (s_le64.f (seg v 12 8)).getD 0 0) ∧ (v 38 = (v 37) / 64) ∧ (v 39 = (v 38) % 2251799813685248) ∧ (v 40 = (s_le64.f (seg v 19 8)).getD 0 0) ∧ (v 41 = (v 40) / 2) ∧ (v 42 = (v 41) % 2251799813685248) ∧ (v 43 = (s_le64.f (seg v 24 8)).getD 0 0) ∧ (v 44 = (v 43) / 4096) ∧ (v 45 = (v 44) % 2251799813685248)) ∧ (True) ∧ s_SetBytes.f xs = ([v 33] ++ [v 36] ++ [v 39] ++ [v 42] ++ [v 45]) :=
  Eq.mp (by kernel_rfl) (runE (s := s_SetBytes) (o := outs_SetBytes) (l := l_SetBytes) (g := g_SetBytes) (nin := 32) (top := 46) (by kernel_rfl) hx (by kernel_rfl))

abbrev l_IsNeg : List Sem := [s_Bytes]
def g_IsNeg : List (Nat × Ins) := ([(38, .conv .i64 (.v 37)), (37, .op2 .and .u8 (.v 5) (.l 1))] ++ (apps 0 (vs 0 5) 5 32))
def outs_IsNeg : List A := [(.v 38)]
def s_IsNeg : Sem := Sem.st l_IsNeg g_IsNeg 5 39 outs_IsNeg (bs 5 0 4503599627370458) [(0, 1)] (by kernel_rfl)

theorem E_IsNeg (xs : List Int) (hx : InB (bs 5 0 4503599627370458) xs) : ∃ v : Nat → Int, vals l_IsNeg g_IsNeg xs = v ∧ seg v 0 5 = xs ∧ ((seg v 5 32 = gets (s_Bytes.f (seg v 0 5)) 0 32) ∧ (v 37 = (v 5) % 2) ∧ (v 38 = (v 37))) ∧ (True) ∧ s_IsNeg.f xs = ([v 38]) :=
  Eq.mp (by kernel_rfl) (runE (s := s_IsNeg) (o := outs_IsNeg) (l := l_IsNeg) (g := g_IsNeg) (nin := 5) (top := 39) (by kernel_rfl) hx (by kernel_rfl))

abbrev l_Abs : List Sem := [s_Neg, s_Sel, s_Sel, s_IsNeg]
def g_Abs : List (Nat × Ins) := ((apps 1 ((vs 5 5) ++ (vs 0 5) ++ [(.v 10)]) 11 5) ++ [(10, .app 3 (vs 0 5) 0)] ++ (apps 0 (vs 0 5) 5 5))
def outs_Abs : List A := (vs 11 5)
def s_Abs : Sem := Sem.st l_Abs g_Abs 5 16 outs_Abs (bs 5 0 4503599627370458) (bs 5 0 4503599627370458) (by kernel_rfl)

theorem E_Abs (xs : List Int) (hx : InB (bs 5 0 4503599627370458) xs) : ∃ v : Nat → Int, vals l_Abs g_Abs xs = v ∧ seg v 0 5 = xs ∧ ((seg v 5 5 = gets (s_Neg.f (seg v 0 5)) 0 5) ∧ (v 10 = (s_IsNeg.f (seg v 0 5)).getD 0 0) ∧ (seg v 11 5 = gets (s_Sel.f (seg v 5 5 ++ seg v 0 5 ++ [v 10])) 0 5)) ∧ (True) ∧ s_Abs.f xs = (seg v 11 5) :=
  Eq.mp (by kernel_rfl) (runE (s := s_Abs) (o := outs_Abs) (l := l_Abs) (g := g_Abs) (nin := 5) (top := 16) (by kernel_rfl) hx (by kernel_rfl))

abbrev l_sqrtM1 : List Sem := []
def g_sqrtM1 : List (Nat × Ins) := []
def outs_sqrtM1 : List A := []
def s_sqrtM1 : Sem := Sem.st l_sqrtM1 g_sqrtM1 0 0 outs_sqrtM1 [] [] (by kernel_rfl)

abbrev l_element : List Sem := [s_SetBytes]
def g_element : List (Nat × Ins) := (apps 0 (vs 0 32) 32 5)
def outs_element : List A := (vs 32 5)
def s_element : Sem := Sem.st l_element g_element 32 37 outs_element (bs 32 0 255) (bs 5 0 2251799813685247) (by kernel_rfl)

theorem E_element (xs : List Int) (hx : InB (bs 32 0 255) xs) : ∃ v : Nat → Int, vals l_element g_element xs = v ∧ seg v 0 32 = xs ∧ ((seg v 32 5 = gets (s_SetBytes.f (seg v 0 32)) 0 5)) ∧ (True) ∧ s_element.f xs = (seg v 32 5) :=
  Eq.mp (by kernel_rfl) (runE (s := s_element) (o := outs_element) (l := l_element) (g := g_element) (nin := 32) (top := 37) (by kernel_rfl) hx (by kernel_rfl))

abbrev l_ctc : List Sem := []
def g_ctc_0 : List (Nat × Ins) := [(64, .eqs true (vs 0 32) (vs 32 32))]
def outs_ctc_0 : List A := [(.l 1)]
def q_ctc_0 : FPath := ⟨(bs 64 0 255), g_ctc_0, [.cond (.v 64) true], outs_ctc_0⟩
def g_ctc_1 : List (Nat × Ins) := [(64, .eqs true (vs 0 32) (vs 32 32))]
def outs_ctc_1 : List A := [(.l 0)]
def q_ctc_1 : FPath := ⟨(bs 64 0 255), g_ctc_1, [.cond (.v 64) false], outs_ctc_1⟩
def q_ctc : List FPath := [q_ctc_0, q_ctc_1]
def bi_ctc : Bd := (bs 64 0 255)
def bo_ctc : Bd := [(0, 1)]

theorem E_ctc_0 (xs : List Int) (hx : InB (bs 64 0 255) xs) : ∃ v : Nat → Int, vals l_ctc g_ctc_0 xs = v ∧ seg v 0 64 = xs ∧ ((v 64 = b2i (u8s (seg v 0 32) == u8s (seg v 32 32)))) ∧ (True) ∧ (CondHold v q_ctc_0.asm = ((v 64 != 0) = true ∧ True)) ∧ outs_ctc_0.map (A.ev v) = ([1]) :=
  Eq.mp (by kernel_rfl) (runQ (q := q_ctc_0.asm) (o := outs_ctc_0) (l := l_ctc) (g := g_ctc_0) (nin := 64) (top := 65) (by kernel_rfl) hx)
theorem E_ctc_1 (xs : List Int) (hx : InB (bs 64 0 255) xs) : ∃ v : Nat → Int, vals l_ctc g_ctc_1 xs = v ∧ seg v 0 64 = xs ∧ ((v 64 = b2i (u8s (seg v 0 32) == u8s (seg v 32 32)))) ∧ (True) ∧ (CondHold v q_ctc_1.asm = ((v 64 != 0) = false ∧ True)) ∧ outs_ctc_1.map (A.ev v) = ([0]) :=
  Eq.mp (by kernel_rfl) (runQ (q := q_ctc_1.asm) (o := outs_ctc_1) (l := l_ctc) (g := g_ctc_1) (nin := 64) (top := 65) (by kernel_rfl) hx)

end
end Go.X

namespace Go.X

theorem emod_unique {a r p k : Int} (h0 : 0 ≤ r) (h1 : r < p) (h : a = r + p * k) : a % p = r := by
  rw [h, Int.add_mul_emod_self_left, Int.emod_eq_of_lt h0 h1]

theorem reduce_val (xs : List Int) (hx : InB LB xs) : s_reduce.f xs = toD 2251799813685248 5 (v51 xs % p25519) := by
  obtain ⟨v, -, hin, he, -, hf⟩ := E_reduce xs hx
  obtain ⟨h5, h10, h11, h12, h13, h14, h15, h16, h17, h18, h19, h20, h21, h22, h23, h24, h25, h26, h27, h28, h29, h30, h31, h32, h33, h34⟩ := he
  rw [hin] at h5
  have hb : InB [(0, 18446744073709551615), (0, 18446744073709551615), (0, 18446744073709551615), (0, 18446744073709551615), (0, 18446744073709551615)] xs := hx.sub (by kernel_rfl)
  have hc := carry_bd xs hb
  rw [gets5 hc rfl] at h5
  obtain ⟨k, hk⟩ := carry_val xs hb
  rw [← h5] at hk hc
  simp only [seg, Nat.reduceAdd, InB, and_true] at hc
  obtain ⟨b5, b5', b6, b6', b7, b7', b8, b8', b9, b9'⟩ := hc
  have hk : v 5 + 2251799813685248 * (v 6 + 2251799813685248 * (v 7 + 2251799813685248 * (v 8 + 2251799813685248 * (v 9 + 2251799813685248 * 0)))) = v51 xs - p25519 * k := hk
  have e : v51 xs % p25519 = v 5 + 2251799813685248 * (v 6 + 2251799813685248 * (v 7 + 2251799813685248 * (v 8 + 2251799813685248 * v 9))) - p25519 * v 19 := by
    have pp : p25519 = 57896044618658097711785492504343953926634992332820282019728792003956564819949 := rfl
    rw [pp] at hk ⊢
    refine emod_unique (k := k + v 19) ?_ ?_ ?_
    · omega
    · omega
    · omega
  rw [hf, e]
  refine toD_congr (by decide) ?_ rfl ⟨v 19 - v 32 / 2251799813685248, ?_⟩
  · show InD _ [v 24, v 27, v 30, v 33, v 34]
    simp only [InD, and_true]; omega
  · show v 24 + 2251799813685248 * (v 27 + 2251799813685248 * (v 30 + 2251799813685248 * (v 33 + 2251799813685248 * (v 34 + 2251799813685248 * 0)))) = _
    unfold p25519; omega

theorem put_val {u : Int} (h : 0 ≤ u) (h' : u < 18446744073709551616) : s_put32.f [u] = toD 256 8 u := by
  obtain ⟨v, -, hin, he, -, hf⟩ := E_put32 [u] ⟨h, by omega, trivial⟩
  obtain ⟨h1, h2, h3, h4, h5, h6, h7, h8, h9, h10, h11, h12, h13, h14, h15, h16⟩ := he
  simp only [seg, List.cons.injEq, and_true] at hin
  subst hin
  rw [hf]
  refine toD_congr (by decide) ?_ rfl ⟨0, ?_⟩
  · show InD _ [v 2, v 4, v 6, v 8, v 10, v 12, v 14, v 16]
    simp only [InD, and_true]; omega
  · show v 2 + 256 * (v 4 + 256 * (v 6 + 256 * (v 8 + 256 * (v 10 + 256 * (v 12 + 256 * (v 14 + 256 * (v 16 + 256 * 0))))))) = _
    omega

theorem p_pos : (0 : Int) < p25519 := by decide

theorem bytes_val (xs : List Int) (hx : InB LB xs) : s_bytes_.f xs = toD 256 32 (v51 xs % p25519) := by
  obtain ⟨v, -, hin, he, -, hf⟩ := E_bytes_ xs hx
  obtain ⟨h5, h10, h11, h12, h13, h14, h15, h16, h17, h18, h19, h20, h21, h29, h37, h45⟩ := he
  rw [hin, reduce_val xs hx] at h5
  have m0 := Int.emod_nonneg (v51 xs) (show p25519 ≠ 0 by decide)
  have m1 := Int.emod_lt_of_pos (v51 xs) p_pos
  generalize v51 xs % p25519 = V at *
  rw [gets_all (toD_len _ _ _)] at h5
  have hi := toD_in (b := 2251799813685248) (by decide) 5 V
  have ho := ofD_toD (b := 2251799813685248) (by decide) 5 V
  rw [← h5] at hi ho
  simp only [seg, Nat.reduceAdd, InD, and_true] at hi
  have ho : v 5 + 2251799813685248 * (v 6 + 2251799813685248 * (v 7 + 2251799813685248 * (v 8 + 2251799813685248 * (v 9 + 2251799813685248 * 0)))) = V % 57896044618658097711785492504343953926634992332820282019728792003956564819968 := ho
  have m1 : V < 57896044618658097711785492504343953926634992332820282019728792003956564819949 := m1
  obtain ⟨b5, b5', b6, b6', b7, b7', b8, b8', b9, b9'⟩ := hi
  have r0 : 0 ≤ v 11 ∧ v 11 < 18446744073709551616 := by omega
  have r1 : 0 ≤ v 14 ∧ v 14 < 18446744073709551616 := by omega
  have r2 : 0 ≤ v 17 ∧ v 17 < 18446744073709551616 := by omega
  have r3 : 0 ≤ v 20 ∧ v 20 < 18446744073709551616 := by omega
  have hV : V = v 11 + 18446744073709551616 * (v 14 + 18446744073709551616 * (v 17 + 18446744073709551616 * v 20)) := by omega
  rw [put_val r0.1 r0.2, gets_all (toD_len _ _ _)] at h21
  rw [put_val r1.1 r1.2, gets_all (toD_len _ _ _)] at h29
  rw [put_val r2.1 r2.2, gets_all (toD_len _ _ _)] at h37
  rw [put_val r3.1 r3.2, gets_all (toD_len _ _ _)] at h45
  rw [hf]
  have hs : seg v 21 32 = toD 256 8 (v 11) ++ (toD 256 8 (v 14) ++ (toD 256 8 (v 17) ++ toD 256 8 (v 20))) := by
    rw [seg_add v 8 24, seg_add v 8 16, seg_add v 8 8, h21, h29, h37, h45]
  rw [hs]
  refine toD_congr (by decide) ?_ rfl ⟨0, ?_⟩
  · exact InD_append (toD_in (by decide) _ _) (InD_append (toD_in (by decide) _ _) (InD_append (toD_in (by decide) _ _) (toD_in (by decide) _ _)))
  · simp only [ofD_append, toD_len, ofD_toD (show (0 : Int) < 256 by decide)]
    simp only [show (256 : Int) ^ 8 = 18446744073709551616 from rfl]
    omega

theorem Bytes_val (xs : List Int) (hx : InB LB xs) : s_Bytes.f xs = toD 256 32 (v51 xs % p25519) := by
  obtain ⟨v, -, hin, h5, -, hf⟩ := E_Bytes xs hx
  rw [hin, bytes_val xs hx, gets_all (toD_len _ _ _)] at h5
  rw [hf, h5]

abbrev BB (n : Nat) : Bd := List.replicate n (0, 255)

theorem le64_val (xs : List Int) (hx : InB (BB 8) xs) : s_le64.f xs = [ofD 256 xs] := by
  obtain ⟨v, -, hin, he, -, hf⟩ := E_le64 xs hx
  obtain ⟨h8, h9, h10, h11, h12, h13, h14, h15, h16, h17, h18, h19, h20, h21, h22, h23, h24, h25, h26, h27, h28, h29, h30⟩ := he
  subst hin
  rw [hf]
  show [v 30] = [v 0 + 256 * (v 1 + 256 * (v 2 + 256 * (v 3 + 256 * (v 4 + 256 * (v 5 + 256 * (v 6 + 256 * (v 7 + 256 * 0)))))))]
  congr 1
  omega

theorem BB_in {n : Nat} {xs : List Int} (h : InB (BB n) xs) : InD 256 xs := InB_InD (b := 256) h

theorem in_BB {n : Nat} {xs : List Int} (hl : xs.length = n) (h : InD 256 xs) : InB (BB n) xs := InD_InB (b := 256) hl h

theorem InD_seg {b : Int} {v : Nat → Int} : ∀ {n x : Nat}, (∀ i, x ≤ i → i < x + n → 0 ≤ v i ∧ v i < b) → InD b (seg v x n)
  | 0, _, _ => trivial
  | n + 1, x, h => ⟨(h x (by omega) (by omega)).1, (h x (by omega) (by omega)).2, InD_seg fun i h1 h2 => h i (by omega) (by omega)⟩

theorem seg_InD {b : Int} {v : Nat → Int} : ∀ {n x : Nat}, InD b (seg v x n) → ∀ i, x ≤ i → i < x + n → 0 ≤ v i ∧ v i < b
  | 0, _, _, i, h1, h2 => by omega
  | n + 1, x, h, i, h1, h2 => by
    by_cases e : i = x
    · subst e; exact ⟨h.1, h.2.1⟩
    · exact seg_InD h.2.2 i (by omega) (by omega)

theorem SetBytes_val (xs : List Int) (hx : InB (BB 32) xs) : s_SetBytes.f xs = toD 2251799813685248 5 (ofD 256 xs) := by
  obtain ⟨v, -, hin, he, -, hf⟩ := E_SetBytes xs hx
  obtain ⟨h32, h33, h34, h35, h36, h37, h38, h39, h40, h41, h42, h43, h44, h45⟩ := he
  subst hin
  have hd := BB_in hx
  have hb := seg_InD hd
  have part : ∀ a n, a + n ≤ 32 → InD 256 (seg v a n) := fun a n h => InD_seg fun i h1 h2 => hb i (by omega) (by omega)
  have word : ∀ a, a + 8 ≤ 32 → s_le64.f (seg v a 8) = [ofD 256 (seg v a 8)] := fun a h => le64_val _ (in_BB (seg_len ..) (part a 8 h))
  rw [word 0 (by omega)] at h32
  rw [word 6 (by omega)] at h34
  rw [word 12 (by omega)] at h37
  rw [word 19 (by omega)] at h40
  rw [word 24 (by omega)] at h43
  have bd : ∀ a n, a + n ≤ 32 → 0 ≤ ofD 256 (seg v a n) ∧ ofD 256 (seg v a n) < 256 ^ n := by
    intro a n h
    have := ofD_bound (b := 256) (by decide) (part a n h)
    rwa [seg_len] at this
  have cutAt : ∀ a, a + 8 ≤ 32 → ofD 256 (seg v 0 32) = ofD 256 (seg v 0 a) + 256 ^ a * (ofD 256 (seg v a 8) + 18446744073709551616 * ofD 256 (seg v (a + 8) (24 - a))) := by
    intro a h
    have e : seg v 0 32 = seg v 0 a ++ (seg v a 8 ++ seg v (a + 8) (24 - a)) := by
      rw [show (32 : Nat) = a + (8 + (24 - a)) from by omega, seg_add v a (8 + (24 - a)), Nat.zero_add, seg_add v 8 (24 - a)]
    rw [e, ofD_append, ofD_append, seg_len, seg_len]
    rfl
  have k0 := cutAt 0 (by omega); have k6 := cutAt 6 (by omega); have k12 := cutAt 12 (by omega); have k19 := cutAt 19 (by omega); have k24 := cutAt 24 (by omega)
  have d0 := bd 0 8 (by omega); have d6 := bd 6 8 (by omega); have d12 := bd 12 8 (by omega); have d19 := bd 19 8 (by omega); have d24 := bd 24 8 (by omega)
  have c6 := bd 0 6 (by omega); have c12 := bd 0 12 (by omega); have c19 := bd 0 19 (by omega); have c24 := bd 0 24 (by omega)
  simp only [Nat.reduceAdd, Nat.reduceSub, show (256 : Int) ^ 0 = 1 from rfl, show (256 : Int) ^ 6 = 281474976710656 from rfl, show (256 : Int) ^ 8 = 18446744073709551616 from rfl, show (256 : Int) ^ 12 = 79228162514264337593543950336 from rfl, show (256 : Int) ^ 19 = 5708990770823839524233143877797980545530986496 from rfl, show (256 : Int) ^ 24 = 6277101735386680763835789423207666416102355444464034512896 from rfl] at *
  have z0 : ofD 256 (seg v 0 0) = 0 := rfl
  rw [z0] at k0
  generalize ofD 256 (seg v 0 32) = N at *
  generalize ofD 256 (seg v 0 6) = a6 at *
  generalize ofD 256 (seg v 0 12) = a12 at *
  generalize ofD 256 (seg v 0 19) = a19 at *
  generalize ofD 256 (seg v 0 24) = a24 at *
  generalize ofD 256 (seg v 0 8) = w0 at *
  generalize ofD 256 (seg v 6 8) = w6 at *
  generalize ofD 256 (seg v 12 8) = w12 at *
  generalize ofD 256 (seg v 19 8) = w19 at *
  generalize ofD 256 (seg v 24 8) = w24 at *
  generalize ofD 256 (seg v 8 24) = z8 at *
  generalize ofD 256 (seg v 14 18) = z14 at *
  generalize ofD 256 (seg v 20 12) = z20 at *
  generalize ofD 256 (seg v 27 5) = z27 at *
  have z32 : ofD 256 (seg v 32 0) = 0 := rfl
  rw [z32] at k24
  simp only [List.getD_cons_zero] at h32 h34 h37 h40 h43
  rw [hf]
  show [v 33, v 36, v 39, v 42, v 45] = [N % 2251799813685248, N / 2251799813685248 % 2251799813685248, N / 2251799813685248 / 2251799813685248 % 2251799813685248, N / 2251799813685248 / 2251799813685248 / 2251799813685248 % 2251799813685248, N / 2251799813685248 / 2251799813685248 / 2251799813685248 / 2251799813685248 % 2251799813685248]
  have f0 : v 33 = N % 2251799813685248 := by rw [h33, h32]; clear k6 k12 k19 k24; omega
  have f1 : v 36 = N / 2251799813685248 % 2251799813685248 := by rw [h36, h35, h34]; clear k0 k12 k19 k24; omega
  have f2 : v 39 = N / 2251799813685248 / 2251799813685248 % 2251799813685248 := by rw [h39, h38, h37]; clear k0 k6 k19 k24; omega
  have f3 : v 42 = N / 2251799813685248 / 2251799813685248 / 2251799813685248 % 2251799813685248 := by rw [h42, h41, h40]; clear k0 k6 k12 k24; omega
  have f4 : v 45 = N / 2251799813685248 / 2251799813685248 / 2251799813685248 / 2251799813685248 % 2251799813685248 := by rw [h45, h44, h43]; clear k0 k6 k12 k19; omega
  rw [f0, f1, f2, f3, f4]

end Go.X

namespace Go.X

theorem IsNeg_val (xs : List Int) (hx : InB LB xs) : s_IsNeg.f xs = [(v51 xs % p25519) % 2] := by
  obtain ⟨v, -, hin, he, -, hf⟩ := E_IsNeg xs hx
  obtain ⟨h5, h37, h38⟩ := he
  rw [hin, Bytes_val xs hx, gets_all (toD_len _ _ _)] at h5
  have h5 : v 5 :: seg v 6 31 = (v51 xs % p25519) % 256 :: toD 256 31 ((v51 xs % p25519) / 256) := h5
  have e := (List.cons.inj h5).1
  rw [hf, h38, h37, e]
  congr 1
  omega

theorem Neg_val (xs : List Int) (hx : InB LB xs) : ∃ k, v51 (s_Neg.f xs) = - v51 xs - p25519 * k := by
  obtain ⟨v, -, hin, h5, -, hf⟩ := E_Neg xs hx
  rw [hin] at h5
  have hb : InB (LB ++ LB) ([0, 0, 0, 0, 0] ++ xs) := ⟨by decide, by decide, by decide, by decide, by decide, by decide, by decide, by decide, by decide, by decide, hx⟩
  obtain ⟨k, hk⟩ := Sub_val _ hb
  have ob := s_Sub.ok _ _ (show s_Sub.bt (LB ++ LB) = some _ from rfl) _ hb
  rw [gets5 ob rfl] at h5
  refine ⟨k, ?_⟩
  rw [hf, h5, hk]
  have e1 : v51 (([0, 0, 0, 0, 0] ++ xs).take 5) = 0 := rfl
  have e2 : ([0, 0, 0, 0, 0] ++ xs).drop 5 = xs := rfl
  rw [e1, e2]; omega

theorem Neg_bd (xs : List Int) (hx : InB LB xs) : InB LB (s_Neg.f xs) := (s_Neg.ok _ _ (show s_Neg.bt LB = some _ from rfl) _ hx).sub (by kernel_rfl)

theorem sel_app (a b : List Int) (c : Int) (ha : a.length = 5) (hb : b.length = 5) : f_Sel (a ++ b ++ [c]) = if c = 1 then a else b := by
  match a, b, ha, hb with
  | [_, _, _, _, _], [_, _, _, _, _], _, _ => rfl

theorem Sel_f : s_Sel.f = f_Sel := rfl

theorem Abs_val (xs : List Int) (hx : InB LB xs) : ∃ k, v51 (s_Abs.f xs) = (if (v51 xs % p25519) % 2 = 1 then - v51 xs else v51 xs) - p25519 * k := by
  obtain ⟨v, -, hin, he, -, hf⟩ := E_Abs xs hx
  obtain ⟨h5, h10, h11⟩ := he
  rw [hin] at h5 h10 h11
  have hl := hx.len
  have nb := Neg_bd xs hx
  obtain ⟨k, hk⟩ := Neg_val xs hx
  rw [gets5 nb rfl] at h5
  rw [IsNeg_val xs hx] at h10
  have h10 : v 10 = (v51 xs % p25519) % 2 := h10
  rw [h5] at h11
  rw [Sel_f, sel_app _ _ _ nb.len hl] at h11
  rw [hf, h11, ← h10]
  by_cases h : v 10 = 1
  · rw [if_pos h, if_pos h, gets5 nb rfl]; exact ⟨k, hk⟩
  · rw [if_neg h, if_neg h, gets5 hx rfl]; exact ⟨0, by omega⟩

theorem element_val (xs : List Int) (hx : InB (BB 32) xs) : s_element.f xs = toD 2251799813685248 5 (ofD 256 xs) := by
  obtain ⟨v, -, hin, h5, -, hf⟩ := E_element xs hx
  rw [hin, SetBytes_val xs hx, gets_all (toD_len _ _ _)] at h5
  rw [hf, h5]

/-! bytes compared -/

theorem u8s_inj : ∀ {a b : List Int}, InD 256 a → InD 256 b → u8s a = u8s b → a = b
  | [], [], _, _, _ => rfl
  | [], _ :: _, _, _, h => by simp [u8s] at h
  | _ :: _, [], _, _, h => by simp [u8s] at h
  | x :: a, y :: b, ha, hb, h => by
    simp only [u8s, List.map_cons, List.cons.injEq] at h
    obtain ⟨x0, x1, ha⟩ := ha
    obtain ⟨y0, y1, hb⟩ := hb
    have e := congrArg UInt8.toNat h.1
    simp only [UInt8.toNat_ofNat'] at e
    rw [u8s_inj ha hb h.2]
    congr 1
    omega

theorem u8s_eq {a b : List Int} (ha : InD 256 a) (hb : InD 256 b) : b2i (u8s a == u8s b) = if a = b then 1 else 0 := by
  by_cases h : a = b
  · subst h; simp [b2i]
  · have : (u8s a == u8s b) = false := by
      rw [beq_eq_false_iff_ne]
      exact fun e => h (u8s_inj ha hb e)
    rw [this, if_neg h]; rfl

def f_ctc (xs : List Int) : List Int := [if xs.take 32 = xs.drop 32 then 1 else 0]

def s_ctc : Sem := Sem.of f_ctc bi_ctc bo_ctc (by
  intro xs _
  unfold f_ctc
  split <;> exact ⟨by decide, by decide, trivial⟩)

theorem ctc_in {xs : List Int} (hx : InB bi_ctc xs) : InD 256 (xs.take 32) ∧ InD 256 (xs.drop 32) := by
  have h : InB (BB 32 ++ BB 32) xs := hx
  obtain ⟨h1, h2⟩ := h.split
  exact ⟨BB_in h1, BB_in h2⟩

theorem seg_take (v : Nat → Int) {n k : Nat} (h : k ≤ n) (x : Nat) : (seg v x n).take k = seg v x k := by
  have : n = k + (n - k) := by omega
  rw [this, seg_add, List.take_append_of_le_length (by rw [seg_len]; exact Nat.le_refl _), List.take_of_length_le (by rw [seg_len]; exact Nat.le_refl _)]

theorem seg_drop (v : Nat → Int) {n k : Nat} (h : k ≤ n) (x : Nat) : (seg v x n).drop k = seg v (x + k) (n - k) := by
  have e : n = k + (n - k) := by omega
  rw [e, seg_add, List.drop_append_of_le_length (by rw [seg_len]; exact Nat.le_refl _), List.drop_of_length_le (by rw [seg_len]; exact Nat.le_refl _)]
  simp

theorem cov_ctc : Covered l_ctc s_ctc q_ctc := by
  intro xs hx
  obtain ⟨d1, d2⟩ := ctc_in hx
  obtain ⟨v, hv, hin, he, -, hc, ho⟩ := E_ctc_0 xs hx
  obtain ⟨v', hv', hin', he', -, hc', ho'⟩ := E_ctc_1 xs hx
  rw [show seg v 0 32 = xs.take 32 from by rw [← hin, seg_take _ (by decide)], show seg v 32 32 = xs.drop 32 from by rw [← hin, seg_drop _ (by decide)], u8s_eq d1 d2] at he
  rw [show seg v' 0 32 = xs.take 32 from by rw [← hin', seg_take _ (by decide)], show seg v' 32 32 = xs.drop 32 from by rw [← hin', seg_drop _ (by decide)], u8s_eq d1 d2] at he'
  have hs : s_ctc.f xs = f_ctc xs := rfl
  by_cases h : xs.take 32 = xs.drop 32
  · refine ⟨q_ctc_0, by simp [q_ctc], hx, ?_, ?_⟩
    · show CondHold (vals l_ctc g_ctc_0 xs) _
      rw [hv, hc, he, if_pos h]; exact ⟨rfl, trivial⟩
    · show _ = outs_ctc_0.map (A.ev (vals l_ctc g_ctc_0 xs))
      rw [hv, ho, hs, f_ctc, if_pos h]
  · refine ⟨q_ctc_1, by simp [q_ctc], hx, ?_, ?_⟩
    · show CondHold (vals l_ctc g_ctc_1 xs) _
      rw [hv', hc', he', if_neg h]; exact ⟨rfl, trivial⟩
    · show _ = outs_ctc_1.map (A.ev (vals l_ctc g_ctc_1 xs))
      rw [hv', ho', hs, f_ctc, if_neg h]

end Go.X

namespace Go.X

/-! ### powers: chains of products and squares -/

def seg5 : List A → Option Nat
  | [.v a, .v b, .v c, .v d, .v e] => match Nat.beq b (a + 1) && Nat.beq c (a + 2) && Nat.beq d (a + 3) && Nat.beq e (a + 4) with
    | true => some a
    | false => none
  | _ => none

theorem seg5_eq {as : List A} {a : Nat} (h : seg5 as = some a) (v : Nat → Int) : as.map (A.ev v) = seg v a 5 := by
  unfold seg5 at h
  split at h
  · split at h
    · rename_i hk
      cases h
      simp only [Bool.and_eq_true] at hk
      obtain ⟨⟨⟨k1, k2⟩, k3⟩, k4⟩ := hk
      have k1 := Nat.eq_of_beq_eq_true k1
      have k2 := Nat.eq_of_beq_eq_true k2
      have k3 := Nat.eq_of_beq_eq_true k3
      have k4 := Nat.eq_of_beq_eq_true k4
      subst k1; subst k2; subst k3; subst k4
      rfl
    · cases h
  · cases h

def takeG (c : Nat) (args : List A) : Nat → Nat → List (Nat × Ins) → Option (List (Nat × Ins))
  | 0, _, r => some r
  | j + 1, x, (y, .app c' args' j') :: r =>
    match Nat.beq y (x + j) && Nat.beq c c' && Nat.beq j j' && beqAs args args' with
    | true => takeG c args j x r
    | false => none
  | _ + 1, _, _ => none

theorem takeG_sat {F : Fns} {ρ : Nat → Int} {c : Nat} {args : List A} : ∀ {j x : Nat} {l r : List (Nat × Ins)}, takeG c args j x l = some r → Sat F ρ l →
    Sat F ρ r ∧ ∀ i, i < j → ρ (x + i) = (F c (args.map (A.ev ρ))).getD i 0
  | 0, x, l, r, h, hl => by simp [takeG] at h; subst h; exact ⟨hl, fun i hi => absurd hi (Nat.not_lt_zero _)⟩
  | j + 1, x, [], r, h, hl => by simp [takeG] at h
  | j + 1, x, (y, ci) :: l, r, h, hl => by
    unfold takeG at h
    split at h
    · rename_i e; cases e
    · rename_i j0 y' c' args' j' r' e1 e2
      cases e1; cases e2
      split at h
      · rename_i hk
        simp only [Bool.and_eq_true] at hk
        obtain ⟨⟨⟨k1, k2⟩, k3⟩, k4⟩ := hk
        have k1 := Nat.eq_of_beq_eq_true k1
        have k2 := Nat.eq_of_beq_eq_true k2
        have k3 := Nat.eq_of_beq_eq_true k3
        have k4 := beqAs_eq k4
        subst k1; subst k2; subst k3; subst k4
        obtain ⟨h1, h2⟩ := takeG_sat h (fun z hz => hl z (List.mem_cons_of_mem _ hz))
        refine ⟨h1, ?_⟩
        intro i hi
        by_cases e : i = j
        · subst e; exact hl _ (List.mem_cons_self ..)
        · exact h2 i (by omega)
      · cases h
    · cases h

def lkN : List (Nat × Nat) → Nat → Option Nat
  | [], _ => none
  | (y, v) :: r, x => match Nat.beq y x with | true => some v | false => lkN r x

/-- exponents of the values, group by group; products below m, squares from there on -/
def pw (m n : Nat) : Nat → List (Nat × Ins) → Option (List (Nat × Nat))
  | 0, _ => none
  | _ + 1, [] => some [(0, 1)]
  | f + 1, (x, .app c args 4) :: r =>
    match Nat.ble 4 x, takeG c args 5 (x - 4) ((x, .app c args 4) :: r) with
    | true, some r' =>
      match pw m n f r' with
      | some env =>
        match Nat.blt c m, Nat.blt c n with
        | true, _ => match seg5 (args.take 5), seg5 (args.drop 5) with
          | some a, some b => match lkN env a, lkN env b with
            | some i, some j => some ((x - 4, i + j) :: env)
            | _, _ => none
          | _, _ => none
        | false, true => match seg5 args with
          | some a => match lkN env a with
            | some i => some ((x - 4, 2 * i) :: env)
            | none => none
          | none => none
        | false, false => none
      | none => none
    | _, _ => none
  | _ + 1, _ => none

theorem mul_mod_of {a b n p k x y : Int} (ha : a % p = x % p) (hb : b % p = y % p) (h : n = a * b - p * k) : n % p = x * y % p := by
  rw [h, Int.sub_mul_emod_self_left, Int.mul_emod, ha, hb, ← Int.mul_emod]

theorem feMul_bd (xs : List Int) (hx : InB (LB ++ LB) xs) : InB LB (s_feMulG.f xs) := (s_feMulG.ok _ _ (show s_feMulG.bt (LB ++ LB) = some _ from rfl) _ hx).sub (by kernel_rfl)
theorem feSq_bd (xs : List Int) (hx : InB LB xs) : InB LB (s_feSqG.f xs) := (s_feSqG.ok _ _ (show s_feSqG.bt LB = some _ from rfl) _ hx).sub (by kernel_rfl)

theorem InB.append : ∀ {a b : Bd} {x y : List Int}, InB a x → InB b y → InB (a ++ b) (x ++ y)
  | [], _, [], _, _, h => h
  | [], _, _ :: _, _, h, _ => h.elim
  | _ :: _, _, [], _, h, _ => h.elim
  | _ :: _, _, _ :: _, _, ⟨h1, h2, h3⟩, h => ⟨h1, h2, h3.append h⟩

theorem pw_sound {m n : Nat} {F : Fns} {v : Nat → Int} (hm : ∀ c, c < m → F c = s_feMulG.f) (hs : ∀ c, m ≤ c → c < n → F c = s_feSqG.f) (h0 : InB LB (seg v 0 5)) :
    ∀ {f : Nat} {g : List (Nat × Ins)} {env : List (Nat × Nat)}, pw m n f g = some env → Sat F v g → ∀ x e, lkN env x = some e → InB LB (seg v x 5) ∧ v51 (seg v x 5) % p25519 = v51 (seg v 0 5) ^ e % p25519
  | 0, g, env, h, _ => by simp [pw] at h
  | f + 1, g, env, h, hsat => by
    intro y e hy
    unfold pw at h
    split at h
    · rename_i e1; cases e1
    · cases h
      simp only [lkN] at hy
      split at hy
      · rename_i hb
        cases hy
        have := Nat.eq_of_beq_eq_true hb
        subst this
        exact ⟨h0, by rw [Int.pow_succ, Int.pow_zero, Int.one_mul]⟩
      · cases hy
    · rename_i f' x c args r e1
      cases e1
      split at h
      · rename_i r' hle htk
        have hle := Nat.le_of_ble_eq_true hle
        obtain ⟨t1, t2⟩ := takeG_sat htk hsat
        split at h
        · rename_i env' hpw
          have ih := pw_sound hm hs h0 hpw t1
          have hseg : seg v (x - 4) 5 = gets (F c (args.map (A.ev v))) 0 5 := seg_gets (F := F) fun k hk => by rw [t2 k hk, Nat.zero_add]
          split at h
          · rename_i hc
            have hc : c < m := Nat.le_of_ble_eq_true hc
            split at h
            · rename_i a b ha hb
              split at h
              · rename_i i j hi hj
                cases h
                obtain ⟨a1, a2⟩ := ih a i hi
                obtain ⟨b1, b2⟩ := ih b j hj
                have hargs : args.map (A.ev v) = seg v a 5 ++ seg v b 5 := by
                  rw [← seg5_eq ha v, ← seg5_eq hb v, ← List.map_append, List.take_append_drop]
                have hab := a1.append b1
                rw [hm c hc, hargs, gets5 (feMul_bd _ hab) rfl] at hseg
                simp only [lkN] at hy
                split at hy
                · rename_i hb'
                  cases hy
                  have := Nat.eq_of_beq_eq_true hb'
                  subst this
                  obtain ⟨k, hk⟩ := feMul_val _ hab
                  refine ⟨by rw [hseg]; exact feMul_bd _ hab, ?_⟩
                  rw [List.take_left' (seg_len ..), List.drop_left' (seg_len ..)] at hk
                  rw [hseg, Int.pow_add]
                  exact mul_mod_of a2 b2 hk
                · exact ih y e hy
              · cases h
            · cases h
          · rename_i hc hcn
            have hcn : c < n := Nat.le_of_ble_eq_true hcn
            have hc : m ≤ c := by
              rcases Nat.lt_or_ge c m with h' | h'
              · rw [show Nat.blt c m = true from Nat.ble_eq_true_of_le h'] at hc; cases hc
              · exact h'
            split at h
            · rename_i a ha
              split at h
              · rename_i i hi
                cases h
                obtain ⟨a1, a2⟩ := ih a i hi
                rw [hs c hc hcn, seg5_eq ha v, gets5 (feSq_bd _ a1) rfl] at hseg
                simp only [lkN] at hy
                split at hy
                · rename_i hb'
                  cases hy
                  have := Nat.eq_of_beq_eq_true hb'
                  subst this
                  obtain ⟨k, hk⟩ := feSq_val _ a1
                  refine ⟨by rw [hseg]; exact feSq_bd _ a1, ?_⟩
                  rw [hseg, show 2 * i = i + i from by omega, Int.pow_add]
                  exact mul_mod_of a2 a2 hk
                · exact ih y e hy
              · cases h
            · cases h
          · cases h
        · cases h
      · cases h
    · cases h

def pwOut (m n f : Nat) (g : List (Nat × Ins)) (x : Nat) : Option Nat := match pw m n f g with
  | some env => lkN env x
  | none => none

theorem pw_val {m n f : Nat} {l : List Sem} {g : List (Nat × Ins)} {top x e : Nat} (hm : ∀ c, c < m → tab l c = s_feMulG.f) (hs : ∀ c, m ≤ c → c < n → tab l c = s_feSqG.f) (hw : wfS 5 g top = true) (h : pwOut m n f g x = some e)
    {xs : List Int} (hx : InB LB xs) : v51 (seg (vals l g xs) x 5) % p25519 = v51 xs ^ e % p25519 := by
  obtain ⟨hsat, hin, _⟩ := evalS_sat (F := tab l) (ρ0 := fun x => xs.getD x 0) hw
  have h0 : seg (vals l g xs) 0 5 = xs := by
    have := seg_xs (v := vals l g xs) (xs := xs) 5 0 (by rw [hx.len]; rfl) (fun y hy => hin y (by rw [hx.len] at hy; exact hy))
    simpa using this
  unfold pwOut at h
  split at h
  · rename_i env henv
    have := (pw_sound hm hs (v := vals l g xs) (by rw [h0]; exact hx) henv hsat x e h).2
    rwa [h0] at this
  · cases h

end Go.X

namespace Go.X
set_option maxRecDepth 20000
noncomputable section
abbrev l_Pow22523 : List Sem := [s_feMulG, s_feMulG, s_feMulG, s_feSqG, s_feSqG]
def g_Pow22523 : List (Nat × Ins) := (List.flatten [apps 0 ((vs 1305 5) ++ (vs 0 5)) 1310 5, apps 4 (vs 1300 5) 1305 5, apps 4 (vs 1295 5) 1300 5, apps 2 ((vs 1290 5) ++ (vs 280 5)) 1295 5, apps 4 (vs 1285 5) 1290 5, apps 4 (vs 1280 5) 1285 5, apps 4 (vs 1275 5) 1280 5, apps 4 (vs 1270 5) 1275 5, apps 4 (vs 1265 5) 1270 5, apps 4 (vs 1260 5) 1265 5, apps 4 (vs 1255 5) 1260 5, apps 4 (vs 1250 5) 1255 5, apps 4 (vs 1245 5) 1250 5, apps 4 (vs 1240 5) 1245 5, apps 4 (vs 1235 5) 1240 5, apps 4 (vs 1230 5) 1235 5, apps 4 (vs 1225 5) 1230 5, apps 4 (vs 1220 5) 1225 5, apps 4 (vs 1215 5) 1220 5, apps 4 (vs 1210 5) 1215 5, apps 4 (vs 1205 5) 1210 5, apps 4 (vs 1200 5) 1205 5, apps 4 (vs 1195 5) 1200 5, apps 4 (vs 1190 5) 1195 5, apps 4 (vs 1185 5) 1190 5, apps 4 (vs 1180 5) 1185 5, apps 4 (vs 1175 5) 1180 5, apps 4 (vs 1170 5) 1175 5, apps 4 (vs 1165 5) 1170 5, apps 4 (vs 1160 5) 1165 5, apps 4 (vs 1155 5) 1160 5, apps 4 (vs 1150 5) 1155 5, apps 4 (vs 1145 5) 1150 5, apps 4 (vs 1140 5) 1145 5, apps 4 (vs 1135 5) 1140 5, apps 4 (vs 1130 5) 1135 5, apps 4 (vs 1125 5) 1130 5, apps 4 (vs 1120 5) 1125 5, apps 4 (vs 1115 5) 1120 5, apps 4 (vs 1110 5) 1115 5, apps 4 (vs 1105 5) 1110 5, apps 4 (vs 1100 5) 1105 5, apps 4 (vs 1095 5) 1100 5, apps 4 (vs 1090 5) 1095 5, apps 4 (vs 1085 5) 1090 5, apps 4 (vs 1080 5) 1085 5, apps 4 (vs 1075 5) 1080 5, apps 4 (vs 1070 5) 1075 5, apps 4 (vs 1065 5) 1070 5, apps 4 (vs 1060 5) 1065 5, apps 4 (vs 1055 5) 1060 5, apps 4 (vs 1050 5) 1055 5, apps 4 (vs 1045 5) 1050 5, apps 4 (vs 1040 5) 1045 5, apps 2 ((vs 1035 5) ++ (vs 535 5)) 1040 5, apps 4 (vs 1030 5) 1035 5, apps 4 (vs 1025 5) 1030 5, apps 4 (vs 1020 5) 1025 5, apps 4 (vs 1015 5) 1020 5, apps 4 (vs 1010 5) 1015 5, apps 4 (vs 1005 5) 1010 5, apps 4 (vs 1000 5) 1005 5, apps 4 (vs 995 5) 1000 5, apps 4 (vs 990 5) 995 5, apps 4 (vs 985 5) 990 5, apps 4 (vs 980 5) 985 5, apps 4 (vs 975 5) 980 5, apps 4 (vs 970 5) 975 5, apps 4 (vs 965 5) 970 5, apps 4 (vs 960 5) 965 5, apps 4 (vs 955 5) 960 5, apps 4 (vs 950 5) 955 5, apps 4 (vs 945 5) 950 5, apps 4 (vs 940 5) 945 5, apps 4 (vs 935 5) 940 5, apps 4 (vs 930 5) 935 5, apps 4 (vs 925 5) 930 5, apps 4 (vs 920 5) 925 5, apps 4 (vs 915 5) 920 5, apps 4 (vs 910 5) 915 5, apps 4 (vs 905 5) 910 5, apps 4 (vs 900 5) 905 5, apps 4 (vs 895 5) 900 5, apps 4 (vs 890 5) 895 5, apps 4 (vs 885 5) 890 5, apps 4 (vs 880 5) 885 5, apps 4 (vs 875 5) 880 5, apps 4 (vs 870 5) 875 5, apps 4 (vs 865 5) 870 5, apps 4 (vs 860 5) 865 5, apps 4 (vs 855 5) 860 5, apps 4 (vs 850 5) 855 5, apps 4 (vs 845 5) 850 5, apps 4 (vs 840 5) 845 5, apps 4 (vs 835 5) 840 5, apps 4 (vs 830 5) 835 5, apps 4 (vs 825 5) 830 5, apps 4 (vs 820 5) 825 5, apps 4 (vs 815 5) 820 5, apps 4 (vs 810 5) 815 5, apps 4 (vs 805 5) 810 5, apps 4 (vs 800 5) 805 5, apps 4 (vs 795 5) 800 5, apps 4 (vs 790 5) 795 5, apps 4 (vs 785 5) 790 5, apps 4 (vs 780 5) 785 5, apps 4 (vs 775 5) 780 5, apps 4 (vs 770 5) 775 5, apps 4 (vs 765 5) 770 5, apps 4 (vs 760 5) 765 5, apps 4 (vs 755 5) 760 5, apps 4 (vs 750 5) 755 5, apps 4 (vs 745 5) 750 5, apps 4 (vs 740 5) 745 5, apps 4 (vs 735 5) 740 5, apps 4 (vs 730 5) 735 5, apps 4 (vs 725 5) 730 5, apps 4 (vs 720 5) 725 5, apps 4 (vs 715 5) 720 5, apps 4 (vs 710 5) 715 5, apps 4 (vs 705 5) 710 5, apps 4 (vs 700 5) 705 5, apps 4 (vs 695 5) 700 5, apps 4 (vs 690 5) 695 5, apps 4 (vs 685 5) 690 5, apps 4 (vs 680 5) 685 5, apps 4 (vs 675 5) 680 5, apps 4 (vs 670 5) 675 5, apps 4 (vs 665 5) 670 5, apps 4 (vs 660 5) 665 5, apps 4 (vs 655 5) 660 5, apps 4 (vs 650 5) 655 5, apps 4 (vs 645 5) 650 5, apps 4 (vs 640 5) 645 5, apps 4 (vs 635 5) 640 5, apps 4 (vs 630 5) 635 5, apps 4 (vs 625 5) 630 5, apps 4 (vs 620 5) 625 5, apps 4 (vs 615 5) 620 5, apps 4 (vs 610 5) 615 5, apps 4 (vs 605 5) 610 5, apps 4 (vs 600 5) 605 5, apps 4 (vs 595 5) 600 5, apps 4 (vs 590 5) 595 5, apps 4 (vs 585 5) 590 5, apps 4 (vs 580 5) 585 5, apps 4 (vs 575 5) 580 5, apps 4 (vs 570 5) 575 5, apps 4 (vs 565 5) 570 5, apps 4 (vs 560 5) 565 5, apps 4 (vs 555 5) 560 5, apps 4 (vs 550 5) 555 5, apps 4 (vs 545 5) 550 5, apps 4 (vs 540 5) 545 5, apps 3 (vs 535 5) 540 5, apps 1 ((vs 530 5) ++ (vs 280 5)) 535 5, apps 4 (vs 525 5) 530 5, apps 4 (vs 520 5) 525 5, apps 4 (vs 515 5) 520 5, apps 4 (vs 510 5) 515 5, apps 4 (vs 505 5) 510 5, apps 4 (vs 500 5) 505 5, apps 4 (vs 495 5) 500 5, apps 4 (vs 490 5) 495 5, apps 4 (vs 485 5) 490 5, apps 4 (vs 480 5) 485 5, apps 4 (vs 475 5) 480 5, apps 4 (vs 470 5) 475 5, apps 4 (vs 465 5) 470 5, apps 4 (vs 460 5) 465 5, apps 4 (vs 455 5) 460 5, apps 4 (vs 450 5) 455 5, apps 4 (vs 445 5) 450 5, apps 4 (vs 440 5) 445 5, apps 4 (vs 435 5) 440 5, apps 4 (vs 430 5) 435 5, apps 4 (vs 425 5) 430 5, apps 4 (vs 420 5) 425 5, apps 4 (vs 415 5) 420 5, apps 4 (vs 410 5) 415 5, apps 4 (vs 405 5) 410 5, apps 4 (vs 400 5) 405 5, apps 4 (vs 395 5) 400 5, apps 4 (vs 390 5) 395 5, apps 4 (vs 385 5) 390 5, apps 4 (vs 380 5) 385 5, apps 4 (vs 375 5) 380 5, apps 4 (vs 370 5) 375 5, apps 4 (vs 365 5) 370 5, apps 4 (vs 360 5) 365 5, apps 4 (vs 355 5) 360 5, apps 4 (vs 350 5) 355 5, apps 4 (vs 345 5) 350 5, apps 4 (vs 340 5) 345 5, apps 4 (vs 335 5) 340 5, apps 4 (vs 330 5) 335 5, apps 4 (vs 325 5) 330 5, apps 4 (vs 320 5) 325 5, apps 4 (vs 315 5) 320 5, apps 4 (vs 310 5) 315 5, apps 4 (vs 305 5) 310 5, apps 4 (vs 300 5) 305 5, apps 4 (vs 295 5) 300 5, apps 4 (vs 290 5) 295 5, apps 4 (vs 285 5) 290 5, apps 3 (vs 280 5) 285 5, apps 2 ((vs 275 5) ++ (vs 65 5)) 280 5, apps 4 (vs 270 5) 275 5, apps 4 (vs 265 5) 270 5, apps 4 (vs 260 5) 265 5, apps 4 (vs 255 5) 260 5, apps 4 (vs 250 5) 255 5, apps 4 (vs 245 5) 250 5, apps 4 (vs 240 5) 245 5, apps 4 (vs 235 5) 240 5, apps 4 (vs 230 5) 235 5, apps 4 (vs 225 5) 230 5, apps 2 ((vs 220 5) ++ (vs 120 5)) 225 5, apps 4 (vs 215 5) 220 5, apps 4 (vs 210 5) 215 5, apps 4 (vs 205 5) 210 5, apps 4 (vs 200 5) 205 5, apps 4 (vs 195 5) 200 5, apps 4 (vs 190 5) 195 5, apps 4 (vs 185 5) 190 5, apps 4 (vs 180 5) 185 5, apps 4 (vs 175 5) 180 5, apps 4 (vs 170 5) 175 5, apps 4 (vs 165 5) 170 5, apps 4 (vs 160 5) 165 5, apps 4 (vs 155 5) 160 5, apps 4 (vs 150 5) 155 5, apps 4 (vs 145 5) 150 5, apps 4 (vs 140 5) 145 5, apps 4 (vs 135 5) 140 5, apps 4 (vs 130 5) 135 5, apps 4 (vs 125 5) 130 5, apps 3 (vs 120 5) 125 5, apps 1 ((vs 115 5) ++ (vs 65 5)) 120 5, apps 4 (vs 110 5) 115 5, apps 4 (vs 105 5) 110 5, apps 4 (vs 100 5) 105 5, apps 4 (vs 95 5) 100 5, apps 4 (vs 90 5) 95 5, apps 4 (vs 85 5) 90 5, apps 4 (vs 80 5) 85 5, apps 4 (vs 75 5) 80 5, apps 4 (vs 70 5) 75 5, apps 3 (vs 65 5) 70 5, apps 2 ((vs 60 5) ++ (vs 35 5)) 65 5, apps 4 (vs 55 5) 60 5, apps 4 (vs 50 5) 55 5, apps 4 (vs 45 5) 50 5, apps 4 (vs 40 5) 45 5, apps 3 (vs 35 5) 40 5, apps 2 ((vs 20 5) ++ (vs 30 5)) 35 5, apps 4 (vs 25 5) 30 5, apps 1 ((vs 5 5) ++ (vs 20 5)) 25 5, apps 2 ((vs 0 5) ++ (vs 15 5)) 20 5, apps 4 (vs 10 5) 15 5, apps 3 (vs 5 5) 10 5, apps 3 (vs 0 5) 5 5])
def outs_Pow22523 : List A := (vs 1310 5)
def s_Pow22523 : Sem := Sem.st l_Pow22523 g_Pow22523 5 1315 outs_Pow22523 (bs 5 0 4503599627370458) [(0, 2251799813686995), (0, 2251799813685627), (0, 2251799813685555), (0, 2251799813685483), (0, 2251799813685411)] (by kernel_rfl)

abbrev l_Invert : List Sem := [s_feMulG, s_feMulG, s_feMulG, s_feSqG, s_feSqG]
def g_Invert : List (Nat × Ins) := (List.flatten [apps 0 ((vs 1320 5) ++ (vs 25 5)) 1325 5, apps 4 (vs 1315 5) 1320 5, apps 4 (vs 1310 5) 1315 5, apps 4 (vs 1305 5) 1310 5, apps 4 (vs 1300 5) 1305 5, apps 4 (vs 1295 5) 1300 5, apps 1 ((vs 1290 5) ++ (vs 280 5)) 1295 5, apps 4 (vs 1285 5) 1290 5, apps 4 (vs 1280 5) 1285 5, apps 4 (vs 1275 5) 1280 5, apps 4 (vs 1270 5) 1275 5, apps 4 (vs 1265 5) 1270 5, apps 4 (vs 1260 5) 1265 5, apps 4 (vs 1255 5) 1260 5, apps 4 (vs 1250 5) 1255 5, apps 4 (vs 1245 5) 1250 5, apps 4 (vs 1240 5) 1245 5, apps 4 (vs 1235 5) 1240 5, apps 4 (vs 1230 5) 1235 5, apps 4 (vs 1225 5) 1230 5, apps 4 (vs 1220 5) 1225 5, apps 4 (vs 1215 5) 1220 5, apps 4 (vs 1210 5) 1215 5, apps 4 (vs 1205 5) 1210 5, apps 4 (vs 1200 5) 1205 5, apps 4 (vs 1195 5) 1200 5, apps 4 (vs 1190 5) 1195 5, apps 4 (vs 1185 5) 1190 5, apps 4 (vs 1180 5) 1185 5, apps 4 (vs 1175 5) 1180 5, apps 4 (vs 1170 5) 1175 5, apps 4 (vs 1165 5) 1170 5, apps 4 (vs 1160 5) 1165 5, apps 4 (vs 1155 5) 1160 5, apps 4 (vs 1150 5) 1155 5, apps 4 (vs 1145 5) 1150 5, apps 4 (vs 1140 5) 1145 5, apps 4 (vs 1135 5) 1140 5, apps 4 (vs 1130 5) 1135 5, apps 4 (vs 1125 5) 1130 5, apps 4 (vs 1120 5) 1125 5, apps 4 (vs 1115 5) 1120 5, apps 4 (vs 1110 5) 1115 5, apps 4 (vs 1105 5) 1110 5, apps 4 (vs 1100 5) 1105 5, apps 4 (vs 1095 5) 1100 5, apps 4 (vs 1090 5) 1095 5, apps 4 (vs 1085 5) 1090 5, apps 4 (vs 1080 5) 1085 5, apps 4 (vs 1075 5) 1080 5, apps 4 (vs 1070 5) 1075 5, apps 4 (vs 1065 5) 1070 5, apps 4 (vs 1060 5) 1065 5, apps 4 (vs 1055 5) 1060 5, apps 4 (vs 1050 5) 1055 5, apps 4 (vs 1045 5) 1050 5, apps 4 (vs 1040 5) 1045 5, apps 1 ((vs 1035 5) ++ (vs 535 5)) 1040 5, apps 4 (vs 1030 5) 1035 5, apps 4 (vs 1025 5) 1030 5, apps 4 (vs 1020 5) 1025 5, apps 4 (vs 1015 5) 1020 5, apps 4 (vs 1010 5) 1015 5, apps 4 (vs 1005 5) 1010 5, apps 4 (vs 1000 5) 1005 5, apps 4 (vs 995 5) 1000 5, apps 4 (vs 990 5) 995 5, apps 4 (vs 985 5) 990 5, apps 4 (vs 980 5) 985 5, apps 4 (vs 975 5) 980 5, apps 4 (vs 970 5) 975 5, apps 4 (vs 965 5) 970 5, apps 4 (vs 960 5) 965 5, apps 4 (vs 955 5) 960 5, apps 4 (vs 950 5) 955 5, apps 4 (vs 945 5) 950 5, apps 4 (vs 940 5) 945 5, apps 4 (vs 935 5) 940 5, apps 4 (vs 930 5) 935 5, apps 4 (vs 925 5) 930 5, apps 4 (vs 920 5) 925 5, apps 4 (vs 915 5) 920 5, apps 4 (vs 910 5) 915 5, apps 4 (vs 905 5) 910 5, apps 4 (vs 900 5) 905 5, apps 4 (vs 895 5) 900 5, apps 4 (vs 890 5) 895 5, apps 4 (vs 885 5) 890 5, apps 4 (vs 880 5) 885 5, apps 4 (vs 875 5) 880 5, apps 4 (vs 870 5) 875 5, apps 4 (vs 865 5) 870 5, apps 4 (vs 860 5) 865 5, apps 4 (vs 855 5) 860 5, apps 4 (vs 850 5) 855 5, apps 4 (vs 845 5) 850 5, apps 4 (vs 840 5) 845 5, apps 4 (vs 835 5) 840 5, apps 4 (vs 830 5) 835 5, apps 4 (vs 825 5) 830 5, apps 4 (vs 820 5) 825 5, apps 4 (vs 815 5) 820 5, apps 4 (vs 810 5) 815 5, apps 4 (vs 805 5) 810 5, apps 4 (vs 800 5) 805 5, apps 4 (vs 795 5) 800 5, apps 4 (vs 790 5) 795 5, apps 4 (vs 785 5) 790 5, apps 4 (vs 780 5) 785 5, apps 4 (vs 775 5) 780 5, apps 4 (vs 770 5) 775 5, apps 4 (vs 765 5) 770 5, apps 4 (vs 760 5) 765 5, apps 4 (vs 755 5) 760 5, apps 4 (vs 750 5) 755 5, apps 4 (vs 745 5) 750 5, apps 4 (vs 740 5) 745 5, apps 4 (vs 735 5) 740 5, apps 4 (vs 730 5) 735 5, apps 4 (vs 725 5) 730 5, apps 4 (vs 720 5) 725 5, apps 4 (vs 715 5) 720 5, apps 4 (vs 710 5) 715 5, apps 4 (vs 705 5) 710 5, apps 4 (vs 700 5) 705 5, apps 4 (vs 695 5) 700 5, apps 4 (vs 690 5) 695 5, apps 4 (vs 685 5) 690 5, apps 4 (vs 680 5) 685 5, apps 4 (vs 675 5) 680 5, apps 4 (vs 670 5) 675 5, apps 4 (vs 665 5) 670 5, apps 4 (vs 660 5) 665 5, apps 4 (vs 655 5) 660 5, apps 4 (vs 650 5) 655 5, apps 4 (vs 645 5) 650 5, apps 4 (vs 640 5) 645 5, apps 4 (vs 635 5) 640 5, apps 4 (vs 630 5) 635 5, apps 4 (vs 625 5) 630 5, apps 4 (vs 620 5) 625 5, apps 4 (vs 615 5) 620 5, apps 4 (vs 610 5) 615 5, apps 4 (vs 605 5) 610 5, apps 4 (vs 600 5) 605 5, apps 4 (vs 595 5) 600 5, apps 4 (vs 590 5) 595 5, apps 4 (vs 585 5) 590 5, apps 4 (vs 580 5) 585 5, apps 4 (vs 575 5) 580 5, apps 4 (vs 570 5) 575 5, apps 4 (vs 565 5) 570 5, apps 4 (vs 560 5) 565 5, apps 4 (vs 555 5) 560 5, apps 4 (vs 550 5) 555 5, apps 4 (vs 545 5) 550 5, apps 4 (vs 540 5) 545 5, apps 3 (vs 535 5) 540 5, apps 0 ((vs 530 5) ++ (vs 280 5)) 535 5, apps 4 (vs 525 5) 530 5, apps 4 (vs 520 5) 525 5, apps 4 (vs 515 5) 520 5, apps 4 (vs 510 5) 515 5, apps 4 (vs 505 5) 510 5, apps 4 (vs 500 5) 505 5, apps 4 (vs 495 5) 500 5, apps 4 (vs 490 5) 495 5, apps 4 (vs 485 5) 490 5, apps 4 (vs 480 5) 485 5, apps 4 (vs 475 5) 480 5, apps 4 (vs 470 5) 475 5, apps 4 (vs 465 5) 470 5, apps 4 (vs 460 5) 465 5, apps 4 (vs 455 5) 460 5, apps 4 (vs 450 5) 455 5, apps 4 (vs 445 5) 450 5, apps 4 (vs 440 5) 445 5, apps 4 (vs 435 5) 440 5, apps 4 (vs 430 5) 435 5, apps 4 (vs 425 5) 430 5, apps 4 (vs 420 5) 425 5, apps 4 (vs 415 5) 420 5, apps 4 (vs 410 5) 415 5, apps 4 (vs 405 5) 410 5, apps 4 (vs 400 5) 405 5, apps 4 (vs 395 5) 400 5, apps 4 (vs 390 5) 395 5, apps 4 (vs 385 5) 390 5, apps 4 (vs 380 5) 385 5, apps 4 (vs 375 5) 380 5, apps 4 (vs 370 5) 375 5, apps 4 (vs 365 5) 370 5, apps 4 (vs 360 5) 365 5, apps 4 (vs 355 5) 360 5, apps 4 (vs 350 5) 355 5, apps 4 (vs 345 5) 350 5, apps 4 (vs 340 5) 345 5, apps 4 (vs 335 5) 340 5, apps 4 (vs 330 5) 335 5, apps 4 (vs 325 5) 330 5, apps 4 (vs 320 5) 325 5, apps 4 (vs 315 5) 320 5, apps 4 (vs 310 5) 315 5, apps 4 (vs 305 5) 310 5, apps 4 (vs 300 5) 305 5, apps 4 (vs 295 5) 300 5, apps 4 (vs 290 5) 295 5, apps 4 (vs 285 5) 290 5, apps 3 (vs 280 5) 285 5, apps 0 ((vs 275 5) ++ (vs 65 5)) 280 5, apps 4 (vs 270 5) 275 5, apps 4 (vs 265 5) 270 5, apps 4 (vs 260 5) 265 5, apps 4 (vs 255 5) 260 5, apps 4 (vs 250 5) 255 5, apps 4 (vs 245 5) 250 5, apps 4 (vs 240 5) 245 5, apps 4 (vs 235 5) 240 5, apps 4 (vs 230 5) 235 5, apps 4 (vs 225 5) 230 5, apps 1 ((vs 220 5) ++ (vs 120 5)) 225 5, apps 4 (vs 215 5) 220 5, apps 4 (vs 210 5) 215 5, apps 4 (vs 205 5) 210 5, apps 4 (vs 200 5) 205 5, apps 4 (vs 195 5) 200 5, apps 4 (vs 190 5) 195 5, apps 4 (vs 185 5) 190 5, apps 4 (vs 180 5) 185 5, apps 4 (vs 175 5) 180 5, apps 4 (vs 170 5) 175 5, apps 4 (vs 165 5) 170 5, apps 4 (vs 160 5) 165 5, apps 4 (vs 155 5) 160 5, apps 4 (vs 150 5) 155 5, apps 4 (vs 145 5) 150 5, apps 4 (vs 140 5) 145 5, apps 4 (vs 135 5) 140 5, apps 4 (vs 130 5) 135 5, apps 4 (vs 125 5) 130 5, apps 3 (vs 120 5) 125 5, apps 0 ((vs 115 5) ++ (vs 65 5)) 120 5, apps 4 (vs 110 5) 115 5, apps 4 (vs 105 5) 110 5, apps 4 (vs 100 5) 105 5, apps 4 (vs 95 5) 100 5, apps 4 (vs 90 5) 95 5, apps 4 (vs 85 5) 90 5, apps 4 (vs 80 5) 85 5, apps 4 (vs 75 5) 80 5, apps 4 (vs 70 5) 75 5, apps 3 (vs 65 5) 70 5, apps 0 ((vs 60 5) ++ (vs 35 5)) 65 5, apps 4 (vs 55 5) 60 5, apps 4 (vs 50 5) 55 5, apps 4 (vs 45 5) 50 5, apps 4 (vs 40 5) 45 5, apps 3 (vs 35 5) 40 5, apps 0 ((vs 30 5) ++ (vs 20 5)) 35 5, apps 3 (vs 25 5) 30 5, apps 0 ((vs 20 5) ++ (vs 5 5)) 25 5, apps 0 ((vs 15 5) ++ (vs 0 5)) 20 5, apps 4 (vs 10 5) 15 5, apps 3 (vs 5 5) 10 5, apps 3 (vs 0 5) 5 5])
def outs_Invert : List A := (vs 1325 5)
def s_Invert : Sem := Sem.st l_Invert g_Invert 5 1330 outs_Invert (bs 5 0 4503599627370458) [(0, 2251799813686995), (0, 2251799813685627), (0, 2251799813685555), (0, 2251799813685483), (0, 2251799813685411)] (by kernel_rfl)

abbrev l_Equal : List Sem := [s_Bytes, s_ctc]
def g_Equal : List (Nat × Ins) := ([(74, .app 1 (vs 10 64) 0)] ++ (apps 0 (vs 0 5) 42 32) ++ (apps 0 (vs 5 5) 10 32))
def outs_Equal : List A := [(.v 74)]
def s_Equal : Sem := Sem.st l_Equal g_Equal 10 75 outs_Equal (bs 10 0 4503599627370458) [(0, 1)] (by kernel_rfl)

theorem E_Equal (xs : List Int) (hx : InB (bs 10 0 4503599627370458) xs) : ∃ v : Nat → Int, vals l_Equal g_Equal xs = v ∧ seg v 0 10 = xs ∧ ((seg v 10 32 = gets (s_Bytes.f (seg v 5 5)) 0 32) ∧ (seg v 42 32 = gets (s_Bytes.f (seg v 0 5)) 0 32) ∧ (v 74 = (s_ctc.f (seg v 10 64)).getD 0 0)) ∧ (True) ∧ s_Equal.f xs = ([v 74]) :=
  Eq.mp (by kernel_rfl) (runE (s := s_Equal) (o := outs_Equal) (l := l_Equal) (g := g_Equal) (nin := 10) (top := 75) (by kernel_rfl) hx (by kernel_rfl))

end
end Go.X

namespace Go.X

theorem Pow22523_val (xs : List Int) (hx : InB LB xs) : v51 (s_Pow22523.f xs) % p25519 = v51 xs ^ 7237005577332262213973186563042994240829374041602535252466099000494570602493 % p25519 := by
  have hf : s_Pow22523.f xs = seg (vals l_Pow22523 g_Pow22523 xs) 1310 5 := by
    have h0 : s_Pow22523.f xs = outs_Pow22523.map (A.ev (vals l_Pow22523 g_Pow22523 xs)) := by kernel_rfl
    have h1 : ∀ v : Nat → Int, outs_Pow22523.map (A.ev v) = seg v 1310 5 := fun v => rfl
    exact h0.trans (h1 _)
  rw [hf]
  refine pw_val (m := 3) (n := 5) (f := 2000) (top := 1315) ?_ ?_ (by kernel_rfl) (by kernel_rfl) hx
  · intro c hc
    match c, hc with
    | 0, _ => rfl
    | 1, _ => rfl
    | 2, _ => rfl
  · intro c hc hc'
    match c, hc, hc' with
    | 3, _, _ => rfl
    | 4, _, _ => rfl

theorem Invert_val (xs : List Int) (hx : InB LB xs) : v51 (s_Invert.f xs) % p25519 = v51 xs ^ 57896044618658097711785492504343953926634992332820282019728792003956564819947 % p25519 := by
  have hf : s_Invert.f xs = seg (vals l_Invert g_Invert xs) 1325 5 := by
    have h0 : s_Invert.f xs = outs_Invert.map (A.ev (vals l_Invert g_Invert xs)) := by kernel_rfl
    have h1 : ∀ v : Nat → Int, outs_Invert.map (A.ev v) = seg v 1325 5 := fun v => rfl
    exact h0.trans (h1 _)
  rw [hf]
  refine pw_val (m := 3) (n := 5) (f := 2000) (top := 1330) ?_ ?_ (by kernel_rfl) (by kernel_rfl) hx
  · intro c hc
    match c, hc with
    | 0, _ => rfl
    | 1, _ => rfl
    | 2, _ => rfl
  · intro c hc hc'
    match c, hc, hc' with
    | 3, _, _ => rfl
    | 4, _, _ => rfl

theorem Equal_val (xs : List Int) (hx : InB (LB ++ LB) xs) : s_Equal.f xs = [if v51 (xs.take 5) % p25519 = v51 (xs.drop 5) % p25519 then 1 else 0] := by
  obtain ⟨v, -, hin, he, -, hf⟩ := E_Equal xs hx
  obtain ⟨h10, h42, h74⟩ := he
  obtain ⟨hx1, hx2⟩ := hx.split
  have e0 : seg v 0 5 = xs.take 5 := by rw [← hin, seg_take _ (by decide)]
  have e5 : seg v 5 5 = xs.drop 5 := by rw [← hin, seg_drop _ (by decide)]
  have hx1 : InB LB (xs.take 5) := hx1
  have hx2 : InB LB (xs.drop 5) := hx2
  rw [e5, Bytes_val _ hx2, gets_all (toD_len _ _ _)] at h10
  rw [e0, Bytes_val _ hx1, gets_all (toD_len _ _ _)] at h42
  have es : seg v 10 64 = seg v 10 32 ++ seg v 42 32 := seg_add v 32 32 10
  have hc : s_ctc.f = f_ctc := rfl
  rw [es, h10, h42, hc, f_ctc, List.take_left' (toD_len _ _ _), List.drop_left' (toD_len _ _ _)] at h74
  rw [hf]
  have h74 : v 74 = if toD 256 32 (v51 (xs.drop 5) % p25519) = toD 256 32 (v51 (xs.take 5) % p25519) then 1 else 0 := h74
  rw [h74]
  congr 1
  have a0 := Int.emod_nonneg (v51 (xs.take 5)) (show p25519 ≠ 0 by decide)
  have a1 := Int.emod_lt_of_pos (v51 (xs.take 5)) p_pos
  have b0 := Int.emod_nonneg (v51 (xs.drop 5)) (show p25519 ≠ 0 by decide)
  have b1 := Int.emod_lt_of_pos (v51 (xs.drop 5)) p_pos
  generalize v51 (xs.take 5) % p25519 = a at *
  generalize v51 (xs.drop 5) % p25519 = b at *
  have pp : p25519 = 57896044618658097711785492504343953926634992332820282019728792003956564819949 := rfl
  by_cases h : a = b
  · rw [h, if_pos rfl, if_pos rfl]
  · rw [if_neg h, if_neg]
    intro e
    have e2 := congrArg (ofD 256) e
    rw [ofD_toD (by decide), ofD_toD (by decide)] at e2
    simp only [show (256 : Int) ^ 32 = 115792089237316195423570985008687907853269984665640564039457584007913129639936 from rfl] at e2
    omega

end Go.X

namespace Go.X

/-! ### the field -/

instance : NeZero pN := ⟨by decide⟩

abbrev Fp := Fin pN

theorem pN_int : ((pN : Nat) : Int) = p25519 := rfl

def φ (a : Int) : Fp := ⟨(a % p25519).toNat, by
  have h0 := Int.emod_nonneg a (show p25519 ≠ 0 by decide)
  have h1 := Int.emod_lt_of_pos a p_pos
  rw [← pN_int] at h0 h1 ⊢
  omega⟩

theorem φ_val (a : Int) : ((φ a).val : Int) = a % p25519 := by
  have h0 := Int.emod_nonneg a (show p25519 ≠ 0 by decide)
  show (((a % p25519).toNat : Nat) : Int) = _
  omega

theorem Fp_ext {x y : Fp} (h : (x.val : Int) = y.val) : x = y := Fin.ext (by omega)

theorem φ_iff {a b : Int} : φ a = φ b ↔ a % p25519 = b % p25519 := by
  constructor
  · intro h; rw [← φ_val, ← φ_val, h]
  · intro h; exact Fp_ext (by rw [φ_val, φ_val, h])

theorem φ_add (a b : Int) : φ (a + b) = φ a + φ b := by
  refine Fp_ext ?_
  rw [φ_val, Fin.val_add, Int.natCast_emod, Int.natCast_add, φ_val, φ_val, pN_int, Int.emod_add_emod, Int.add_emod_emod]

theorem φ_mul (a b : Int) : φ (a * b) = φ a * φ b := by
  refine Fp_ext ?_
  rw [φ_val, Fin.val_mul, Int.natCast_emod, Int.natCast_mul, φ_val, φ_val, pN_int, ← Int.mul_emod]

theorem φ_zero : φ 0 = 0 := by kernel_rfl
theorem φ_one : φ 1 = 1 := by kernel_rfl

theorem φ_neg (a : Int) : φ (-a) = - φ a := by
  have h : φ (-a) + φ a = 0 := by rw [← φ_add, show -a + a = 0 from by omega, φ_zero]
  generalize φ (-a) = x at *
  generalize φ a = y at *
  grind

theorem φ_sub (a b : Int) : φ (a - b) = φ a - φ b := by
  rw [show a - b = a + -b from by omega, φ_add, φ_neg]; grind

theorem φ_p (k : Int) : φ (p25519 * k) = 0 := by
  rw [← φ_zero]; exact φ_iff.2 (by rw [Int.mul_emod_right]; rfl)

theorem φ_off (a k : Int) : φ (a - p25519 * k) = φ a := by rw [φ_sub, φ_p]; grind

theorem φ_pow (a : Int) : ∀ n : Nat, φ (a ^ n) = φ a ^ n
  | 0 => by rw [Int.pow_zero, φ_one]; grind
  | n + 1 => by rw [Int.pow_succ, φ_mul, φ_pow a n]; grind

theorem val_pow (x : Fp) : ∀ n : Nat, (x ^ n).val = x.val ^ n % pN
  | 0 => by
    have : x ^ 0 = 1 := by grind
    rw [this, Nat.pow_zero]; rfl
  | n + 1 => by
    have : x ^ (n + 1) = x ^ n * x := by grind
    rw [this, Fin.val_mul, val_pow x n, Nat.pow_succ, Nat.mod_mul_mod]

theorem not_dvd {x : Fp} (h : x ≠ 0) : ¬ pN ∣ x.val := by
  intro hd
  have h1 := x.isLt
  have : x.val ≠ 0 := fun e => h (Fin.ext (by rw [e]; rfl))
  have := Nat.le_of_dvd (by omega) hd
  omega

theorem fermatF {x : Fp} (h : x ≠ 0) : x ^ (pN - 1) = 1 := by
  refine Fin.ext ?_
  rw [val_pow, fermat pr_p (not_dvd h)]; rfl

theorem mul_zero_F {x y : Fp} (h : x * y = 0) : x = 0 ∨ y = 0 := by
  by_cases hx : x = 0
  · exact .inl hx
  by_cases hy : y = 0
  · exact .inr hy
  exfalso
  have e := congrArg Fin.val h
  rw [Fin.val_mul] at e
  have hd : pN ∣ x.val * y.val := Nat.dvd_of_mod_eq_zero e
  rcases pr_p.dvd_mul hd with h1 | h1
  · exact not_dvd hx h1
  · exact not_dvd hy h1

def inv (x : Fp) : Fp := x ^ (pN - 2)

theorem inv_mul {x : Fp} (h : x ≠ 0) : x * inv x = 1 := by
  have e : x * inv x = x ^ (pN - 1) := by
    unfold inv
    rw [show pN - 1 = (pN - 2) + 1 from by decide]
    generalize pN - 2 = n
    grind
  rw [e, fermatF h]

theorem mul_cancel {x y z : Fp} (hx : x ≠ 0) (h : x * y = x * z) : y = z := by
  have := inv_mul hx
  grind

theorem sq_eq {x y : Fp} (h : x * x = y * y) : x = y ∨ x = -y := by
  have : (x - y) * (x + y) = 0 := by grind
  rcases mul_zero_F this with h1 | h1
  · left; grind
  · right; grind

theorem two_ne : (2 : Fp) ≠ 0 := by decide

theorem neg_ne {x : Fp} (h : x ≠ 0) : x ≠ -x := by
  intro e
  have : 2 * x = 0 := by grind
  rcases mul_zero_F this with h1 | h1
  · exact two_ne h1
  · exact h h1

/-- the root of -1 -/
def iF : Fp := ⟨19681161376707505956807079304988542015446066515923890162744021073123829784752, by decide⟩

theorem iF_sq : iF * iF = -1 := by kernel_rfl

theorem fourth {c : Fp} (h : c ^ 4 = 1) : c = 1 ∨ c = -1 ∨ c = iF ∨ c = -iF := by
  have hi := iF_sq
  have h1 : (c * c - 1) * (c * c + 1) = 0 := by grind
  rcases mul_zero_F h1 with h2 | h2
  · have : c * c = 1 * 1 := by grind
    rcases sq_eq this with h3 | h3
    · exact .inl h3
    · exact .inr (.inl h3)
  · have : c * c = iF * iF := by grind
    rcases sq_eq this with h3 | h3
    · exact .inr (.inr (.inl h3))
    · exact .inr (.inr (.inr h3))

end Go.X

namespace Go.X
noncomputable section
abbrev l_SqrtRatio : List Sem := [s_feMulG, s_feMulG, s_feMulG, s_feSqG, s_feSqG, s_Neg, s_Sel, s_Sel, s_Abs, s_sqrtM1, s_Pow22523, s_Equal]
def g_SqrtRatio : List (Nat × Ins) := (List.flatten [[(84, .op2 .or .i64 (.v 60) (.v 61))], apps 8 (vs 74 5) 79 5, apps 7 ((vs 68 5) ++ (vs 40 5) ++ [(.v 73)]) 74 5, [(73, .op2 .or .i64 (.v 61) (.v 67))], apps 0 ((vs 40 5) ++ [(.l 1718705420411056), (.l 234908883556509), (.l 2233514472574048), (.l 2117202627021982), (.l 765476049583133)]) 68 5, [(67, .app 11 ((vs 50 5) ++ (vs 62 5)) 0)], apps 0 ((vs 55 5) ++ [(.l 1718705420411056), (.l 234908883556509), (.l 2233514472574048), (.l 2117202627021982), (.l 765476049583133)]) 62 5, [(61, .app 11 (vs 50 10) 0), (60, .app 11 ((vs 50 5) ++ (vs 0 5)) 0)], apps 5 (vs 0 5) 55 5, apps 0 ((vs 5 5) ++ (vs 45 5)) 50 5, apps 3 (vs 40 5) 45 5, apps 0 ((vs 20 5) ++ (vs 35 5)) 40 5, apps 10 (vs 30 5) 35 5, apps 0 (vs 20 10) 30 5, apps 3 (vs 10 5) 25 5, apps 0 ((vs 0 5) ++ (vs 15 5)) 20 5, apps 0 ((vs 10 5) ++ (vs 5 5)) 15 5, apps 3 (vs 5 5) 10 5])
def outs_SqrtRatio : List A := ([(.v 84)] ++ (vs 79 5))
def s_SqrtRatio : Sem := Sem.st l_SqrtRatio g_SqrtRatio 10 85 outs_SqrtRatio (bs 10 0 4503599627370458) ([(0, 1)] ++ (bs 5 0 4503599627370458)) (by kernel_rfl)

theorem E_SqrtRatio (xs : List Int) (hx : InB (bs 10 0 4503599627370458) xs) : ∃ v : Nat → Int, vals l_SqrtRatio g_SqrtRatio xs = v ∧ seg v 0 10 = xs ∧ ((seg v 10 5 = gets (s_feSqG.f (seg v 5 5)) 0 5) ∧ (seg v 15 5 = gets (s_feMulG.f (seg v 10 5 ++ seg v 5 5)) 0 5) ∧ (seg v 20 5 = gets (s_feMulG.f (seg v 0 5 ++ seg v 15 5)) 0 5) ∧ (seg v 25 5 = gets (s_feSqG.f (seg v 10 5)) 0 5) ∧ (seg v 30 5 = gets (s_feMulG.f (seg v 20 10)) 0 5) ∧ (seg v 35 5 = gets (s_Pow22523.f (seg v 30 5)) 0 5) ∧ (seg v 40 5 = gets (s_feMulG.f (seg v 20 5 ++ seg v 35 5)) 0 5) ∧ (seg v 45 5 = gets (s_feSqG.f (seg v 40 5)) 0 5) ∧ (seg v 50 5 = gets (s_feMulG.f (seg v 5 5 ++ seg v 45 5)) 0 5) ∧ (seg v 55 5 = gets (s_Neg.f (seg v 0 5)) 0 5) ∧ (v 60 = (s_Equal.f (seg v 50 5 ++ seg v 0 5)).getD 0 0) ∧ (v 61 = (s_Equal.f (seg v 50 10)).getD 0 0) ∧ (seg v 62 5 = gets (s_feMulG.f (seg v 55 5 ++ [1718705420411056, 234908883556509, 2233514472574048, 2117202627021982, 765476049583133])) 0 5) ∧ (v 67 = (s_Equal.f (seg v 50 5 ++ seg v 62 5)).getD 0 0) ∧ (seg v 68 5 = gets (s_feMulG.f (seg v 40 5 ++ [1718705420411056, 234908883556509, 2233514472574048, 2117202627021982, 765476049583133])) 0 5) ∧ (v 73 = op2 .or .i64 (v 61) (v 67)) ∧ (seg v 74 5 = gets (s_Sel.f (seg v 68 5 ++ seg v 40 5 ++ [v 73])) 0 5) ∧ (seg v 79 5 = gets (s_Abs.f (seg v 74 5)) 0 5) ∧ (v 84 = op2 .or .i64 (v 60) (v 61))) ∧ (True) ∧ s_SqrtRatio.f xs = ([v 84] ++ seg v 79 5) :=
  Eq.mp (by kernel_rfl) (runE (s := s_SqrtRatio) (o := outs_SqrtRatio) (l := l_SqrtRatio) (g := g_SqrtRatio) (nin := 10) (top := 85) (by kernel_rfl) hx (by kernel_rfl))

end
end Go.X

namespace Go.X

/-! ### the square root of a ratio, as the program takes it -/

theorem mulLB {a b : List Int} (ha : InB LB a) (hb : InB LB b) : φ (v51 (s_feMulG.f (a ++ b))) = φ (v51 a) * φ (v51 b) ∧ InB LB (s_feMulG.f (a ++ b)) := by
  have hx := InB.append ha hb
  obtain ⟨k, hk⟩ := feMul_val (a ++ b) hx
  have hl : _ = 5 := ha.len
  rw [List.take_left' hl, List.drop_left' hl] at hk
  refine ⟨?_, feMul_bd _ hx⟩
  have hk : v51 (s_feMulG.f (a ++ b)) = v51 a * v51 b - p25519 * k := hk
  rw [hk, φ_off, φ_mul]

theorem sqLB {a : List Int} (ha : InB LB a) : φ (v51 (s_feSqG.f a)) = φ (v51 a) * φ (v51 a) ∧ InB LB (s_feSqG.f a) := by
  obtain ⟨k, hk⟩ := feSq_val a ha
  refine ⟨?_, feSq_bd _ ha⟩
  have hk : v51 (s_feSqG.f a) = v51 a * v51 a - p25519 * k := hk
  rw [hk, φ_off, φ_mul]

theorem addLB {a b : List Int} (ha : InB LB a) (hb : InB LB b) : φ (v51 (s_Add.f (a ++ b))) = φ (v51 a) + φ (v51 b) ∧ InB LB (s_Add.f (a ++ b)) := by
  have hx := InB.append ha hb
  obtain ⟨k, hk⟩ := Add_val (a ++ b) hx
  have hl : _ = 5 := ha.len
  rw [List.take_left' hl, List.drop_left' hl] at hk
  refine ⟨?_, (s_Add.ok _ _ (show s_Add.bt (LB ++ LB) = some _ from rfl) _ hx).sub (by kernel_rfl)⟩
  rw [hk, φ_off, φ_add]

theorem subLB {a b : List Int} (ha : InB LB a) (hb : InB LB b) : φ (v51 (s_Sub.f (a ++ b))) = φ (v51 a) - φ (v51 b) ∧ InB LB (s_Sub.f (a ++ b)) := by
  have hx := InB.append ha hb
  obtain ⟨k, hk⟩ := Sub_val (a ++ b) hx
  have hl : _ = 5 := ha.len
  rw [List.take_left' hl, List.drop_left' hl] at hk
  refine ⟨?_, (s_Sub.ok _ _ (show s_Sub.bt (LB ++ LB) = some _ from rfl) _ hx).sub (by kernel_rfl)⟩
  rw [hk, φ_off, φ_sub]

theorem negLB {a : List Int} (ha : InB LB a) : φ (v51 (s_Neg.f a)) = - φ (v51 a) ∧ InB LB (s_Neg.f a) := by
  obtain ⟨k, hk⟩ := Neg_val a ha
  refine ⟨?_, Neg_bd _ ha⟩
  rw [hk, φ_off, φ_neg]

theorem powLB {a : List Int} (ha : InB LB a) : φ (v51 (s_Pow22523.f a)) = φ (v51 a) ^ ((pN - 5) / 8) ∧ InB LB (s_Pow22523.f a) := by
  refine ⟨?_, (s_Pow22523.ok _ _ (show s_Pow22523.bt LB = some _ from rfl) _ ha).sub (by kernel_rfl)⟩
  have h := φ_iff.2 (Pow22523_val a ha)
  rw [h, φ_pow, show (pN - 5) / 8 = 7237005577332262213973186563042994240829374041602535252466099000494570602493 from by decide]

theorem invLB {a : List Int} (ha : InB LB a) : φ (v51 (s_Invert.f a)) = inv (φ (v51 a)) ∧ InB LB (s_Invert.f a) := by
  refine ⟨?_, (s_Invert.ok _ _ (show s_Invert.bt LB = some _ from rfl) _ ha).sub (by kernel_rfl)⟩
  have h := φ_iff.2 (Invert_val a ha)
  rw [h, φ_pow]
  unfold inv
  rw [show pN - 2 = 57896044618658097711785492504343953926634992332820282019728792003956564819947 from by decide]

theorem eqLB {a b : List Int} (ha : InB LB a) (hb : InB LB b) : s_Equal.f (a ++ b) = [if φ (v51 a) = φ (v51 b) then 1 else 0] := by
  have hl : _ = 5 := ha.len
  rw [Equal_val (a ++ b) (InB.append ha hb), List.take_left' hl, List.drop_left' hl]
  by_cases h : v51 a % p25519 = v51 b % p25519
  · rw [if_pos h, if_pos (φ_iff.2 h)]
  · rw [if_neg h, if_neg (fun e => h (φ_iff.1 e))]

def absF (x : Fp) : Fp := if x.val % 2 = 1 then -x else x

theorem φ_odd (a : Int) : (φ a).val % 2 = 1 ↔ (a % p25519) % 2 = 1 := by
  have := φ_val a
  omega

theorem absLB {a : List Int} (ha : InB LB a) : φ (v51 (s_Abs.f a)) = absF (φ (v51 a)) ∧ InB LB (s_Abs.f a) := by
  refine ⟨?_, (s_Abs.ok _ _ (show s_Abs.bt LB = some _ from rfl) _ ha).sub (by kernel_rfl)⟩
  obtain ⟨k, hk⟩ := Abs_val a ha
  rw [hk, φ_off]
  unfold absF
  by_cases h : v51 a % p25519 % 2 = 1
  · rw [if_pos h, if_pos ((φ_odd _).2 h), φ_neg]
  · rw [if_neg h, if_neg (fun e => h ((φ_odd _).1 e))]

theorem selLB {a b : List Int} {c : Int} (ha : InB LB a) (hb : InB LB b) : s_Sel.f (a ++ b ++ [c]) = if c = 1 then a else b := by
  rw [Sel_f, sel_app _ _ _ ha.len hb.len]

def rrF (u v : Fp) : Fp := u * (v * v * v) * (u * (v * v * v) * (v * v * (v * v))) ^ ((pN - 5) / 8)
def chF (u v : Fp) : Fp := v * (rrF u v * rrF u v)
def selF (u v : Fp) : Fp := if chF u v = -u ∨ chF u v = -u * iF then rrF u v * iF else rrF u v
def sqF (u v : Fp) : Fp := absF (selF u v)
def okF (u v : Fp) : Prop := chF u v = u ∨ chF u v = -u

theorem m1_in : InB LB [1718705420411056, 234908883556509, 2233514472574048, 2117202627021982, 765476049583133] :=
  ⟨by decide, by decide, by decide, by decide, by decide, by decide, by decide, by decide, by decide, by decide, trivial⟩

theorem m1_φ : φ (v51 [1718705420411056, 234908883556509, 2233514472574048, 2117202627021982, 765476049583133]) = iF := by kernel_rfl

theorem or01 {P Q : Prop} [Decidable P] [Decidable Q] : op2 .or .i64 (if P then 1 else 0) (if Q then 1 else 0) = if P ∨ Q then 1 else 0 := by
  by_cases hp : P
  · by_cases hq : Q
    · rw [if_pos hp, if_pos hq, if_pos (.inl hp)]; kernel_rfl
    · rw [if_pos hp, if_neg hq, if_pos (.inl hp)]; kernel_rfl
  · by_cases hq : Q
    · rw [if_neg hp, if_pos hq, if_pos (.inr hq)]; kernel_rfl
    · rw [if_neg hp, if_neg hq, if_neg (fun h => h.elim hp hq)]; kernel_rfl

theorem SqrtRatio_val {a b : List Int} (ha : InB LB a) (hb : InB LB b) : ∃ t r, s_SqrtRatio.f (a ++ b) = t :: r ∧ (t = 1 ↔ okF (φ (v51 a)) (φ (v51 b))) ∧ (t = 0 ∨ t = 1) ∧ InB LB r ∧ φ (v51 r) = sqF (φ (v51 a)) (φ (v51 b)) := by
  obtain ⟨v, -, hin, he, -, hf⟩ := E_SqrtRatio (a ++ b) (InB.append ha hb)
  obtain ⟨h10, h15, h20, h25, h30, h35, h40, h45, h50, h55, h60, h61, h62, h67, h68, h73, h74, h79, h84⟩ := he
  have hl : _ = 5 := ha.len
  have s0 : seg v 0 5 = a := by rw [← seg_take v (show 5 ≤ 10 by decide), hin, List.take_left' hl]
  have s5 : seg v 5 5 = b := by rw [show (5:Nat) = 0 + 5 from rfl, show (5 : Nat) = 10 - 5 from rfl, ← seg_drop v (show 5 ≤ 10 by decide), hin, List.drop_left' hl]
  have sp : ∀ x, seg v x 10 = seg v x 5 ++ seg v (x + 5) 5 := fun x => seg_add v 5 5 x
  generalize hu : φ (v51 a) = U at *
  generalize hv : φ (v51 b) = V at *
  rw [s5] at h10 h15 h50
  rw [s0] at h20 h55 h60
  rw [sp 20] at h30
  rw [sp 50] at h61
  obtain ⟨e10, b10⟩ := sqLB hb
  rw [gets5 b10 rfl] at h10
  rw [← h10, hv] at e10; rw [← h10] at b10
  obtain ⟨e15, b15⟩ := mulLB b10 hb
  rw [gets5 b15 rfl] at h15
  rw [← h15, e10, hv] at e15; rw [← h15] at b15
  obtain ⟨e20, b20⟩ := mulLB ha b15
  rw [gets5 b20 rfl] at h20
  rw [← h20, e15, hu] at e20; rw [← h20] at b20
  obtain ⟨e25, b25⟩ := sqLB b10
  rw [gets5 b25 rfl] at h25
  rw [← h25, e10] at e25; rw [← h25] at b25
  obtain ⟨e30, b30⟩ := mulLB b20 b25
  rw [gets5 b30 rfl] at h30
  rw [← h30, e20, e25] at e30; rw [← h30] at b30
  obtain ⟨e35, b35⟩ := powLB b30
  rw [gets5 b35 rfl] at h35
  rw [← h35, e30] at e35; rw [← h35] at b35
  obtain ⟨e40, b40⟩ := mulLB b20 b35
  rw [gets5 b40 rfl] at h40
  rw [← h40, e20, e35] at e40; rw [← h40] at b40
  have e40 : φ (v51 (seg v 40 5)) = rrF U V := e40
  obtain ⟨e45, b45⟩ := sqLB b40
  rw [gets5 b45 rfl] at h45
  rw [← h45, e40] at e45; rw [← h45] at b45
  obtain ⟨e50, b50⟩ := mulLB hb b45
  rw [gets5 b50 rfl] at h50
  rw [← h50, e45, hv] at e50; rw [← h50] at b50
  have e50 : φ (v51 (seg v 50 5)) = chF U V := e50
  obtain ⟨e55, b55⟩ := negLB ha
  rw [gets5 b55 rfl] at h55
  rw [← h55, hu] at e55; rw [← h55] at b55
  rw [eqLB b50 ha, e50, hu] at h60
  rw [eqLB b50 b55, e50, e55] at h61
  obtain ⟨e62, b62⟩ := mulLB b55 m1_in
  rw [gets5 b62 rfl] at h62
  rw [← h62, e55, m1_φ] at e62; rw [← h62] at b62
  rw [eqLB b50 b62, e50, e62] at h67
  obtain ⟨e68, b68⟩ := mulLB b40 m1_in
  rw [gets5 b68 rfl] at h68
  rw [← h68, e40, m1_φ] at e68; rw [← h68] at b68
  rw [List.getD_cons_zero] at h60 h61 h67
  rw [h61, h67, or01] at h73
  rw [selLB b68 b40] at h74
  have b74 : InB LB (if v 73 = 1 then seg v 68 5 else seg v 40 5) := by
    by_cases h : v 73 = 1
    · rw [if_pos h]; exact b68
    · rw [if_neg h]; exact b40
  rw [gets5 b74 rfl] at h74
  rw [← h74] at b74
  have e74 : φ (v51 (seg v 74 5)) = selF U V := by
    rw [h74, h73]
    unfold selF
    by_cases h : chF U V = -U ∨ chF U V = -U * iF
    · rw [if_pos h, if_pos h, if_pos rfl, e68]
    · rw [if_neg h, if_neg h, if_neg (by decide), e40]
  obtain ⟨e79, b79⟩ := absLB b74
  rw [gets5 b79 rfl] at h79
  rw [← h79, e74] at e79; rw [← h79] at b79
  rw [h60, h61, or01] at h84
  refine ⟨v 84, seg v 79 5, hf, ?_, ?_, b79, e79⟩
  · rw [h84]
    unfold okF
    by_cases h : chF U V = U ∨ chF U V = -U
    · rw [if_pos h]; exact ⟨fun _ => h, fun _ => rfl⟩
    · rw [if_neg h]; exact ⟨fun e => absurd e (by decide), fun e => absurd e h⟩
  · rw [h84]
    by_cases h : chF U V = U ∨ chF U V = -U
    · rw [if_pos h]; exact .inr rfl
    · rw [if_neg h]; exact .inl rfl

end Go.X

namespace Go.X

/-! ### the root of a ratio, as it is said -/

theorem absF_neg (x : Fp) : absF (-x) = absF x := by
  by_cases h : x = 0
  · subst h; rfl
  · have hx : x.val ≠ 0 := fun e => h (Fin.ext (by rw [e]; rfl))
    have hl := x.isLt
    have hv : (-x).val = pN - x.val := by
      rw [Fin.val_neg', Nat.mod_eq_of_lt (by omega)]
    have hp : pN % 2 = 1 := by decide
    unfold absF
    by_cases h1 : x.val % 2 = 1
    · rw [if_pos h1, if_neg (by omega)]
    · rw [if_neg h1, if_pos (by omega)]; grind

theorem absF_sq (x : Fp) : absF x * absF x = x * x := by
  unfold absF
  by_cases h : x.val % 2 = 1
  · rw [if_pos h]; grind
  · rw [if_neg h]

theorem absF_eq {x y : Fp} (h : x * x = y * y) : absF x = absF y := by
  rcases sq_eq h with h | h
  · rw [h]
  · rw [h, absF_neg]

instance (u v : Fp) : Decidable (okF u v) := inferInstanceAs (Decidable (_ ∨ _))

def rtF (x : Fp) : Fp := absF (if x ^ ((pN + 3) / 8) * x ^ ((pN + 3) / 8) = x then x ^ ((pN + 3) / 8) else x ^ ((pN + 3) / 8) * iF)

def cF (x : Fp) : Fp := x ^ ((pN - 1) / 4)

theorem pow_add_F (x : Fp) (m n : Nat) : x ^ (m + n) = x ^ m * x ^ n := by
  induction n with
  | zero => rw [Nat.add_zero]; have : x ^ 0 = 1 := by grind
            rw [this]; grind
  | succ n ih =>
    rw [← Nat.add_assoc]
    have h1 : x ^ (m + n + 1) = x ^ (m + n) * x := by grind
    have h2 : x ^ (n + 1) = x ^ n * x := by grind
    rw [h1, h2, ih]; grind

theorem pow_mul_F (x : Fp) (m n : Nat) : x ^ (m * n) = (x ^ m) ^ n := by
  induction n with
  | zero => rw [Nat.mul_zero]; have h1 : x ^ 0 = 1 := by grind
            have h2 : (x ^ m) ^ 0 = 1 := by grind
            rw [h1, h2]
  | succ n ih =>
    rw [Nat.mul_succ, pow_add_F, ih]
    have h2 : (x ^ m) ^ (n + 1) = (x ^ m) ^ n * x ^ m := by grind
    rw [h2]

theorem mul_pow_F (x y : Fp) (n : Nat) : (x * y) ^ n = x ^ n * y ^ n := by
  induction n with
  | zero => have h1 : x ^ 0 = 1 := by grind
            have h2 : y ^ 0 = 1 := by grind
            have h3 : (x * y) ^ 0 = 1 := by grind
            rw [h1, h2, h3]; grind
  | succ n ih =>
    have h1 : x ^ (n + 1) = x ^ n * x := by grind
    have h2 : y ^ (n + 1) = y ^ n * y := by grind
    have h3 : (x * y) ^ (n + 1) = (x * y) ^ n * (x * y) := by grind
    rw [h1, h2, h3, ih]; grind

theorem s_sq (x : Fp) : x ^ ((pN + 3) / 8) * x ^ ((pN + 3) / 8) = x * cF x := by
  unfold cF
  rw [← pow_add_F, show (pN + 3) / 8 + (pN + 3) / 8 = 1 + (pN - 1) / 4 from by decide, pow_add_F]
  have : x ^ 1 = x := by grind
  rw [this]

theorem cF_4 {x : Fp} (h : x ≠ 0) : cF x ^ 4 = 1 := by
  unfold cF
  rw [← pow_mul_F, show (pN - 1) / 4 * 4 = pN - 1 from by decide, fermatF h]

theorem cF_iF (x : Fp) : cF (x * iF) = cF x * -iF := by
  unfold cF
  rw [mul_pow_F]
  suffices h : iF ^ ((pN - 1) / 4) = -iF by rw [h]
  have e : (pN - 1) / 4 = 4 * ((pN - 13) / 16) + 3 := by decide
  rw [e, pow_add_F, pow_mul_F]
  have h4 : iF ^ 4 = 1 := by have := iF_sq; grind
  have h3 : iF ^ 3 = -iF := by have := iF_sq; grind
  have h1 : ∀ n : Nat, (1 : Fp) ^ n = 1 := by
    intro n
    induction n with
    | zero => grind
    | succ n ih => have h1 : (1 : Fp) ^ (n + 1) = 1 ^ n * 1 := by grind
                   rw [h1, ih]; grind
  rw [h4, h3, h1]; grind

theorem rr_eq {u v : Fp} (hv : v ≠ 0) : rrF u v = (u * inv v) ^ ((pN + 3) / 8) := by
  have hi := inv_mul hv
  obtain ⟨x, hx⟩ : ∃ x, u * inv v = x := ⟨_, rfl⟩
  have hu : u = x * v := by grind
  rw [hx, hu]
  unfold rrF
  have e1 : x * v * (v * v * v) * (v * v * (v * v)) = x * v ^ 8 := by grind
  have e2 : x * v * (v * v * v) = x * v ^ 4 := by grind
  rw [e1, e2, mul_pow_F, ← pow_mul_F]
  have e3 : x * v ^ 4 * (x ^ ((pN - 5) / 8) * v ^ (8 * ((pN - 5) / 8))) = (x * x ^ ((pN - 5) / 8)) * (v ^ 4 * v ^ (8 * ((pN - 5) / 8))) := by
    generalize v ^ (8 * ((pN - 5) / 8)) = a
    generalize x ^ ((pN - 5) / 8) = b
    grind
  rw [e3, ← pow_add_F, show 4 + 8 * ((pN - 5) / 8) = pN - 1 from by decide, fermatF hv]
  have e4 : x ^ ((pN + 3) / 8) = x * x ^ ((pN - 5) / 8) := by
    rw [show (pN + 3) / 8 = 1 + (pN - 5) / 8 from by decide, pow_add_F]
    have : x ^ 1 = x := by grind
    rw [this]
  rw [e4]
  generalize x ^ ((pN - 5) / 8) = b
  grind

theorem iF_ne : iF ≠ 0 ∧ (1 : Fp) ≠ 0 := ⟨by decide, by decide⟩

theorem rt_sq {x : Fp} (hc : cF x = 1 ∨ cF x = -1) : rtF x * rtF x = x := by
  unfold rtF
  rw [absF_sq]
  have hs := s_sq x
  generalize x ^ ((pN + 3) / 8) = s at *
  have hi := iF_sq
  by_cases e : s * s = x
  · rw [if_pos e]; exact e
  · rw [if_neg e]
    rcases hc with hc | hc
    · rw [hc] at hs; exact absurd (by grind) e
    · rw [hc] at hs; grind

theorem rt_nsq {x : Fp} (h : x ≠ 0) (hc : ¬ (cF x = 1 ∨ cF x = -1)) : rtF x * rtF x ≠ x := by
  unfold rtF
  rw [absF_sq]
  have hs := s_sq x
  generalize x ^ ((pN + 3) / 8) = s at *
  have hi := iF_sq
  have hne : s * s ≠ x := by
    intro e
    rw [e] at hs
    refine hc (.inl ?_)
    have : x * cF x = x * 1 := by grind
    exact mul_cancel h this
  rw [if_neg hne]
  intro e
  refine hc (.inr ?_)
  have : x * cF x = x * -1 := by grind
  exact mul_cancel h this

theorem ne_neg1 : (1 : Fp) ≠ -1 := neg_ne iF_ne.2
theorem i_ne1 : iF ≠ 1 := by decide
theorem i_ne2 : iF ≠ -1 := by decide
theorem i_ne3 : iF ≠ -iF := neg_ne iF_ne.1

section
variable {u v : Fp} (hu : u ≠ 0) (hv : v ≠ 0)
include hu hv

theorem x_ne : u * inv v ≠ 0 := by
  intro e
  have := inv_mul hv
  exact hu (by grind)

omit hu in
theorem ch_eq : chF u v = u * cF (u * inv v) := by
  have hs := s_sq (u * inv v)
  unfold chF
  rw [rr_eq hv, hs]
  have := inv_mul hv
  generalize cF (u * inv v) = c
  grind

theorem ok_iff : okF u v ↔ (cF (u * inv v) = 1 ∨ cF (u * inv v) = -1) := by
  unfold okF
  rw [ch_eq hv]
  have h1 : u * cF (u * inv v) = u ↔ cF (u * inv v) = 1 := by
    generalize cF (u * inv v) = c
    constructor
    · intro h; exact mul_cancel hu (by grind)
    · intro h; grind
  have h2 : u * cF (u * inv v) = -u ↔ cF (u * inv v) = -1 := by
    generalize cF (u * inv v) = c
    constructor
    · intro h; exact mul_cancel hu (by grind)
    · intro h; grind
  rw [h1, h2]

theorem sel_iff : (chF u v = -u ∨ chF u v = -u * iF) ↔ (cF (u * inv v) = -1 ∨ cF (u * inv v) = -iF) := by
  rw [ch_eq hv]
  generalize cF (u * inv v) = c
  have h1 : u * c = -u ↔ c = -1 := by
    constructor
    · intro h; exact mul_cancel hu (by grind)
    · intro h; grind
  have h2 : u * c = -u * iF ↔ c = -iF := by
    constructor
    · intro h; exact mul_cancel hu (by grind)
    · intro h; grind
  rw [h1, h2]

theorem sel_sq : selF u v * selF u v = if okF u v then u * inv v else u * inv v * iF := by
  have hs := s_sq (u * inv v)
  have hk := ok_iff hu hv
  have hl := sel_iff hu hv
  have h4 := fourth (cF_4 (x_ne hu hv))
  have hi := iF_sq
  have n1 := ne_neg1
  have n2 := i_ne1
  have n3 := i_ne2
  have n4 := i_ne3
  unfold selF
  rw [rr_eq hv]
  generalize (u * inv v) ^ ((pN + 3) / 8) = s at *
  generalize u * inv v = x at *
  generalize hc : cF x = c at *
  rcases h4 with rfl | rfl | rfl | rfl
  · rw [if_neg (fun h => by rcases hl.1 h with h | h
                            · exact n1 h
                            · exact n3 (by grind)), if_pos (hk.2 (.inl rfl))]
    grind
  · rw [if_pos (hl.2 (.inl rfl)), if_pos (hk.2 (.inr rfl))]
    grind
  · rw [if_neg (fun h => by rcases hl.1 h with h | h
                            · exact n3 h
                            · exact n4 h), if_neg (fun h => by rcases hk.1 h with h | h
                                                               · exact n2 h
                                                               · exact n3 h)]
    exact hs
  · rw [if_pos (hl.2 (.inr rfl)), if_neg (fun h => by rcases hk.1 h with h | h
                                                      · exact n3 (by grind)
                                                      · exact n2 (by grind))]
    grind

theorem ok_rt : okF u v ↔ rtF (u * inv v) * rtF (u * inv v) = u * inv v := by
  rw [ok_iff hu hv]
  constructor
  · exact rt_sq
  · intro h
    by_cases hc : cF (u * inv v) = 1 ∨ cF (u * inv v) = -1
    · exact hc
    · exact absurd h (rt_nsq (x_ne hu hv) hc)

omit hu hv in
theorem rt_abs (x : Fp) : absF (rtF x) = rtF x := absF_eq (absF_sq _)

theorem sq_ok (h : okF u v) : sqF u v = rtF (u * inv v) := by
  have h1 := sel_sq hu hv
  rw [if_pos h] at h1
  rw [← rt_abs]
  exact absF_eq (by rw [h1, (ok_rt hu hv).1 h])

theorem sq_nok (h : ¬ okF u v) : sqF u v = rtF (u * inv v * iF) := by
  have h1 := sel_sq hu hv
  rw [if_neg h] at h1
  have h4 := fourth (cF_4 (x_ne hu hv))
  have hk := ok_iff hu hv
  have hi := iF_sq
  have hc := cF_iF (u * inv v)
  have hx := x_ne hu hv
  generalize u * inv v = x at *
  rw [← rt_abs]
  refine absF_eq ?_
  rw [h1, rt_sq]
  rcases h4 with h4 | h4 | h4 | h4
  · exact absurd (hk.2 (.inl h4)) h
  · exact absurd (hk.2 (.inr h4)) h
  · left; rw [hc, h4]; grind
  · right; rw [hc, h4]; grind

end

theorem zero_u (v : Fp) : okF 0 v ∧ sqF 0 v = 0 := by
  have h0 : rrF 0 v = 0 := by
    unfold rrF
    generalize (0 * (v * v * v) * (v * v * (v * v))) ^ ((pN - 5) / 8) = z
    grind
  have hc : chF 0 v = 0 := by unfold chF; rw [h0]; grind
  refine ⟨.inl hc, ?_⟩
  unfold sqF selF
  rw [h0]
  have : (0 : Fp) * iF = 0 := by grind
  rw [this]
  split <;> rfl

theorem zero_v {u : Fp} (hu : u ≠ 0) : ¬ okF u 0 ∧ sqF u 0 = 0 := by
  have h0 : rrF u 0 = 0 := by
    unfold rrF
    generalize (u * (0 * 0 * 0) * (0 * 0 * (0 * 0))) ^ ((pN - 5) / 8) = z
    grind
  have hc : chF u 0 = 0 := by unfold chF; rw [h0]; grind
  refine ⟨?_, ?_⟩
  · rintro (h | h)
    · rw [hc] at h; exact hu h.symm
    · rw [hc] at h; exact hu (by grind)
  · unfold sqF selF
    rw [h0]
    have : (0 : Fp) * iF = 0 := by grind
    rw [this]
    split <;> rfl

end Go.X

namespace Go.X

theorem InD_LB {l : List Int} (hl : l.length = 5) (h : InD 2251799813685248 l) : InB LB l :=
  (InD_InB hl h).sub (by kernel_rfl)

theorem el_in (n : Int) : InB LB (toD 2251799813685248 5 n) := InD_LB (toD_len _ _ _) (toD_in (by decide) _ _)

theorem el_val (n : Int) : v51 (toD 2251799813685248 5 n) = n % 57896044618658097711785492504343953926634992332820282019728792003956564819968 :=
  ofD_toD (by decide) 5 n

theorem b2i_one {P : Prop} [Decidable P] : op2 .eql .i64 (if P then 1 else 0) 1 = if P then 1 else 0 := by
  by_cases h : P
  · rw [if_pos h]; kernel_rfl
  · rw [if_neg h]; kernel_rfl

theorem if_one {P : Prop} [Decidable P] {t : Int} (h : t = 1 ↔ P) (h' : t = 0 ∨ t = 1) : t = if P then 1 else 0 := by
  by_cases hp : P
  · rw [if_pos hp]; exact h.2 hp
  · rw [if_neg hp]; exact h'.resolve_right (fun e => hp (h.1 e))

end Go.X
