/-
  A part of the proof of Ytkjhclknbkleoaa: texts M9, G2, M10. No conditions.
-/
import Derived.Test.YtkjhclknbkleoaaR06
import Derived.KernelRfl
namespace Go.X

/-! ### whole numbers of sixteen words -/

abbrev WB (n : Nat) : Bd := List.replicate n (0, 4294967295)

theorem W_pos : (0 : Int) < 4294967296 := by decide

/-- the digits of a sum with carries -/
def chain : Int → List Int → List Int
  | _, [] => []
  | c, t :: ts => (c + t) % 4294967296 :: chain ((c + t) / 4294967296) ts

/-- and the last carry -/
def chainX : Int → List Int → List Int
  | c, [] => [c]
  | c, t :: ts => (c + t) % 4294967296 :: chainX ((c + t) / 4294967296) ts

theorem chain_val : ∀ (ts : List Int) (c : Int), chain c ts = toD 4294967296 ts.length (c + ofD 4294967296 ts)
  | [], _ => rfl
  | t :: ts, c => by
    show (c + t) % 4294967296 :: chain ((c + t) / 4294967296) ts = (c + (t + 4294967296 * ofD 4294967296 ts)) % 4294967296 :: toD 4294967296 ts.length ((c + (t + 4294967296 * ofD 4294967296 ts)) / 4294967296)
    rw [chain_val ts]
    generalize ofD 4294967296 ts = z
    congr 1
    · omega
    · congr 1; omega

theorem chainX_val : ∀ (ts : List Int) (c : Int), ofD 4294967296 (chainX c ts) = c + ofD 4294967296 ts
  | [], c => by show c + 4294967296 * 0 = c + 0; omega
  | t :: ts, c => by
    show (c + t) % 4294967296 + 4294967296 * ofD 4294967296 (chainX ((c + t) / 4294967296) ts) = c + (t + 4294967296 * ofD 4294967296 ts)
    rw [chainX_val ts]
    generalize ofD 4294967296 ts = z
    omega

theorem cst {c t t' x y z : Int} {ts r : List Int} (ht : t = t') (hx : x = c + t) (hy : y = x % 4294967296) (hz : z = x / 4294967296) (h : r = chain z ts) : y :: r = chain c (t' :: ts) := by
  subst ht hx hy hz h; rfl

theorem cst1 {c t t' x y : Int} (ht : t = t') (hx : x = c + t) (hy : y = x % 4294967296) : [y] = chain c [t'] := by
  subst ht hx hy; rfl

theorem cstx {c t t' x y z : Int} {ts r : List Int} (ht : t = t') (hx : x = c + t) (hy : y = x % 4294967296) (hz : z = x / 4294967296) (h : r = chainX z ts) : y :: r = chainX c (t' :: ts) := by
  subst ht hx hy hz h; rfl

theorem cste {c y : Int} (hy : y = c) : [y] = chainX c [] := by
  subst hy; rfl

theorem ofD_plus (b : Int) : ∀ l : List (Int × Int), ofD b (l.map fun p => p.1 + p.2) = ofD b (l.map Prod.fst) + ofD b (l.map Prod.snd)
  | [] => rfl
  | p :: l => by
    show p.1 + p.2 + b * ofD b (l.map fun p => p.1 + p.2) = (p.1 + b * ofD b (l.map Prod.fst)) + (p.2 + b * ofD b (l.map Prod.snd))
    rw [ofD_plus b l, Int.mul_add]; omega

theorem ofD_minus (b : Int) : ∀ l : List (Int × Int), ofD b (l.map fun p => p.1 - p.2) = ofD b (l.map Prod.fst) - ofD b (l.map Prod.snd)
  | [] => rfl
  | p :: l => by
    show p.1 - p.2 + b * ofD b (l.map fun p => p.1 - p.2) = (p.1 + b * ofD b (l.map Prod.fst)) - (p.2 + b * ofD b (l.map Prod.snd))
    rw [ofD_minus b l, Int.mul_sub]; omega

theorem ofD_mac (b a : Int) : ∀ l : List (Int × Int), ofD b (l.map fun p => a * p.1 + p.2) = a * ofD b (l.map Prod.fst) + ofD b (l.map Prod.snd)
  | [] => by show (0 : Int) = a * 0 + 0; omega
  | p :: l => by
    show a * p.1 + p.2 + b * ofD b (l.map fun p => a * p.1 + p.2) = a * (p.1 + b * ofD b (l.map Prod.fst)) + (p.2 + b * ofD b (l.map Prod.snd))
    rw [ofD_mac b a l]
    generalize ofD b (l.map Prod.fst) = y
    generalize ofD b (l.map Prod.snd) = z
    grind

theorem Plus_val (xs : List Int) (hx : InB (WB 32) xs) : s_Plus.f xs = toD 4294967296 16 (ofD 4294967296 (xs.take 16) + ofD 4294967296 (xs.drop 16)) := by
  obtain ⟨v, -, hin, he, -, hf⟩ := E_Plus xs hx
  obtain ⟨h32, h33, h34, h35, h36, h37, h38, h39, h40, h41, h42, h43, h44, h45, h46, h47, h48, h49, h50, h51, h52, h53, h54, h55, h56, h57, h58, h59, h60, h61, h62, h63, h64, h65, h66, h67, h68, h69, h70, h71, h72, h73, h74, h75, h76, h77, h78, h79, h80, h81, h82, h83, h84, h85, h86, h87, h88, h89, h90, h91, h92, h93, h94, h95, h96, h97, h98, h99, h100, h101, h102, h103, h104, h105, h106, h107, h108, h109, h110, h111, h112, h113, h114, h115, h116, h117, h118, h119, h120, h121, h122, h123, h124, h125, h126, h127⟩ := he
  subst hin
  have e : s_Plus.f (seg v 0 32) = chain 0 ([(v 0, v 16), (v 1, v 17), (v 2, v 18), (v 3, v 19), (v 4, v 20), (v 5, v 21), (v 6, v 22), (v 7, v 23), (v 8, v 24), (v 9, v 25), (v 10, v 26), (v 11, v 27), (v 12, v 28), (v 13, v 29), (v 14, v 30), (v 15, v 31)].map fun p => p.1 + p.2) := hf.trans (cst (h34.trans (by rw [h32, h33])) h35 h36 h37 (cst (h40.trans (by rw [h38, h39])) h41 h42 h43 (cst (h46.trans (by rw [h44, h45])) h47 h48 h49 (cst (h52.trans (by rw [h50, h51])) h53 h54 h55 (cst (h58.trans (by rw [h56, h57])) h59 h60 h61 (cst (h64.trans (by rw [h62, h63])) h65 h66 h67 (cst (h70.trans (by rw [h68, h69])) h71 h72 h73 (cst (h76.trans (by rw [h74, h75])) h77 h78 h79 (cst (h82.trans (by rw [h80, h81])) h83 h84 h85 (cst (h88.trans (by rw [h86, h87])) h89 h90 h91 (cst (h94.trans (by rw [h92, h93])) h95 h96 h97 (cst (h100.trans (by rw [h98, h99])) h101 h102 h103 (cst (h106.trans (by rw [h104, h105])) h107 h108 h109 (cst (h112.trans (by rw [h110, h111])) h113 h114 h115 (cst (h118.trans (by rw [h116, h117])) h119 h120 h121 (cst1 (h124.trans (by rw [h122, h123])) h125 h126))))))))))))))))
  rw [e, chain_val, ofD_plus, Int.zero_add]
  rfl

theorem Minus_val (xs : List Int) (hx : InB (WB 32) xs) : s_Minus.f xs = toD 4294967296 16 (ofD 4294967296 (xs.take 16) - ofD 4294967296 (xs.drop 16)) := by
  obtain ⟨v, -, hin, he, -, hf⟩ := E_Minus xs hx
  obtain ⟨h32, h33, h34, h35, h36, h37, h38, h39, h40, h41, h42, h43, h44, h45, h46, h47, h48, h49, h50, h51, h52, h53, h54, h55, h56, h57, h58, h59, h60, h61, h62, h63, h64, h65, h66, h67, h68, h69, h70, h71, h72, h73, h74, h75, h76, h77, h78, h79, h80, h81, h82, h83, h84, h85, h86, h87, h88, h89, h90, h91, h92, h93, h94, h95, h96, h97, h98, h99, h100, h101, h102, h103, h104, h105, h106, h107, h108, h109, h110, h111, h112, h113, h114, h115, h116, h117, h118, h119, h120, h121, h122, h123, h124, h125, h126, h127⟩ := he
  subst hin
  have e : s_Minus.f (seg v 0 32) = chain 0 ([(v 0, v 16), (v 1, v 17), (v 2, v 18), (v 3, v 19), (v 4, v 20), (v 5, v 21), (v 6, v 22), (v 7, v 23), (v 8, v 24), (v 9, v 25), (v 10, v 26), (v 11, v 27), (v 12, v 28), (v 13, v 29), (v 14, v 30), (v 15, v 31)].map fun p => p.1 - p.2) := hf.trans (cst (h34.trans (by rw [h32, h33])) h35 h36 h37 (cst (h40.trans (by rw [h38, h39])) h41 h42 h43 (cst (h46.trans (by rw [h44, h45])) h47 h48 h49 (cst (h52.trans (by rw [h50, h51])) h53 h54 h55 (cst (h58.trans (by rw [h56, h57])) h59 h60 h61 (cst (h64.trans (by rw [h62, h63])) h65 h66 h67 (cst (h70.trans (by rw [h68, h69])) h71 h72 h73 (cst (h76.trans (by rw [h74, h75])) h77 h78 h79 (cst (h82.trans (by rw [h80, h81])) h83 h84 h85 (cst (h88.trans (by rw [h86, h87])) h89 h90 h91 (cst (h94.trans (by rw [h92, h93])) h95 h96 h97 (cst (h100.trans (by rw [h98, h99])) h101 h102 h103 (cst (h106.trans (by rw [h104, h105])) h107 h108 h109 (cst (h112.trans (by rw [h110, h111])) h113 h114 h115 (cst (h118.trans (by rw [h116, h117])) h119 h120 h121 (cst1 (h124.trans (by rw [h122, h123])) h125 h126))))))))))))))))
  rw [e, chain_val, ofD_minus, Int.zero_add]
  rfl

theorem times_lin {B : Int} {r0 T0 a0 r1 T1 a1 r2 T2 a2 r3 T3 a3 r4 T4 a4 r5 T5 a5 r6 T6 a6 r7 T7 a7 : Int} (h0 : r0 + 4294967296 * T0 = a0 * B + 0)
   (h1 : r1 + 4294967296 * T1 = a1 * B + T0) (h2 : r2 + 4294967296 * T2 = a2 * B + T1) (h3 : r3 + 4294967296 * T3 = a3 * B + T2) (h4 : r4 + 4294967296 * T4 = a4 * B + T3) (h5 : r5 + 4294967296 * T5 = a5 * B + T4) (h6 : r6 + 4294967296 * T6 = a6 * B + T5) (h7 : r7 + 4294967296 * T7 = a7 * B + T6) :
   r0 + 4294967296 * (r1 + 4294967296 * (r2 + 4294967296 * (r3 + 4294967296 * (r4 + 4294967296 * (r5 + 4294967296 * (r6 + 4294967296 * (r7 + 4294967296 * T7))))))) = (a0 + 4294967296 * (a1 + 4294967296 * (a2 + 4294967296 * (a3 + 4294967296 * (a4 + 4294967296 * (a5 + 4294967296 * (a6 + 4294967296 * (a7 + 4294967296 * 0)))))))) * B := by
  have e : (a0 + 4294967296 * (a1 + 4294967296 * (a2 + 4294967296 * (a3 + 4294967296 * (a4 + 4294967296 * (a5 + 4294967296 * (a6 + 4294967296 * (a7 + 4294967296 * 0)))))))) * B = a0 * B + 4294967296 * (a1 * B + 4294967296 * (a2 * B + 4294967296 * (a3 * B + 4294967296 * (a4 * B + 4294967296 * (a5 * B + 4294967296 * (a6 * B + 4294967296 * (a7 * B))))))) := by grind
  rw [e]
  generalize a0 * B = p0 at *
  generalize a1 * B = p1 at *
  generalize a2 * B = p2 at *
  generalize a3 * B = p3 at *
  generalize a4 * B = p4 at *
  generalize a5 * B = p5 at *
  generalize a6 * B = p6 at *
  generalize a7 * B = p7 at *
  omega

theorem mac0 {a e p0 q0 m0 t0 x0 y0 z0 b0 p1 q1 m1 t1 x1 y1 z1 b1 p2 q2 m2 t2 x2 y2 z2 b2 p3 q3 m3 t3 x3 y3 z3 b3 p4 q4 m4 t4 x4 y4 z4 b4 p5 q5 m5 t5 x5 y5 z5 b5 p6 q6 m6 t6 x6 y6 z6 b6 p7 q7 m7 t7 x7 y7 z7 b7 : Int} {T : Prop} (h : p0 = a ∧ q0 = b0 ∧ m0 = p0 * q0 ∧ t0 = m0 + 0 ∧ x0 = 0 + t0 ∧ y0 = x0 % 4294967296 ∧ z0 = x0 / 4294967296 ∧ p1 = a ∧ q1 = b1 ∧ m1 = p1 * q1 ∧ t1 = m1 + 0 ∧ x1 = z0 + t1 ∧ y1 = x1 % 4294967296 ∧ z1 = x1 / 4294967296 ∧ p2 = a ∧ q2 = b2 ∧ m2 = p2 * q2 ∧ t2 = m2 + 0 ∧ x2 = z1 + t2 ∧ y2 = x2 % 4294967296 ∧ z2 = x2 / 4294967296 ∧ p3 = a ∧ q3 = b3 ∧ m3 = p3 * q3 ∧ t3 = m3 + 0 ∧ x3 = z2 + t3 ∧ y3 = x3 % 4294967296 ∧ z3 = x3 / 4294967296 ∧ p4 = a ∧ q4 = b4 ∧ m4 = p4 * q4 ∧ t4 = m4 + 0 ∧ x4 = z3 + t4 ∧ y4 = x4 % 4294967296 ∧ z4 = x4 / 4294967296 ∧ p5 = a ∧ q5 = b5 ∧ m5 = p5 * q5 ∧ t5 = m5 + 0 ∧ x5 = z4 + t5 ∧ y5 = x5 % 4294967296 ∧ z5 = x5 / 4294967296 ∧ p6 = a ∧ q6 = b6 ∧ m6 = p6 * q6 ∧ t6 = m6 + 0 ∧ x6 = z5 + t6 ∧ y6 = x6 % 4294967296 ∧ z6 = x6 / 4294967296 ∧ p7 = a ∧ q7 = b7 ∧ m7 = p7 * q7 ∧ t7 = m7 + 0 ∧ x7 = z6 + t7 ∧ y7 = x7 % 4294967296 ∧ z7 = x7 / 4294967296 ∧ e = z7 ∧ T) : (y0 + 4294967296 * ofD 4294967296 [y1, y2, y3, y4, y5, y6, y7, e] = a * ofD 4294967296 [b0, b1, b2, b3, b4, b5, b6, b7] + 0) ∧ T := by
  obtain ⟨hp0, hq0, hm0, ht0, hx0, hy0, hz0, hp1, hq1, hm1, ht1, hx1, hy1, hz1, hp2, hq2, hm2, ht2, hx2, hy2, hz2, hp3, hq3, hm3, ht3, hx3, hy3, hz3, hp4, hq4, hm4, ht4, hx4, hy4, hz4, hp5, hq5, hm5, ht5, hx5, hy5, hz5, hp6, hq6, hm6, ht6, hx6, hy6, hz6, hp7, hq7, hm7, ht7, hx7, hy7, hz7, he, hT⟩ := h
  have R : [y0, y1, y2, y3, y4, y5, y6, y7, e] = chainX 0 ([(b0, 0), (b1, 0), (b2, 0), (b3, 0), (b4, 0), (b5, 0), (b6, 0), (b7, 0)].map fun p => a * p.1 + p.2) := (cstx (ht0.trans (by rw [hm0, hp0, hq0])) hx0 hy0 hz0 (cstx (ht1.trans (by rw [hm1, hp1, hq1])) hx1 hy1 hz1 (cstx (ht2.trans (by rw [hm2, hp2, hq2])) hx2 hy2 hz2 (cstx (ht3.trans (by rw [hm3, hp3, hq3])) hx3 hy3 hz3 (cstx (ht4.trans (by rw [hm4, hp4, hq4])) hx4 hy4 hz4 (cstx (ht5.trans (by rw [hm5, hp5, hq5])) hx5 hy5 hz5 (cstx (ht6.trans (by rw [hm6, hp6, hq6])) hx6 hy6 hz6 (cstx (ht7.trans (by rw [hm7, hp7, hq7])) hx7 hy7 hz7 (cste he)))))))))
  have R := congrArg (ofD 4294967296) R
  rw [chainX_val, ofD_mac, Int.zero_add] at R
  exact ⟨R, hT⟩

theorem mac {a e p0 q0 m0 t0 x0 y0 z0 o0 u0 b0 p1 q1 m1 t1 x1 y1 z1 o1 u1 b1 p2 q2 m2 t2 x2 y2 z2 o2 u2 b2 p3 q3 m3 t3 x3 y3 z3 o3 u3 b3 p4 q4 m4 t4 x4 y4 z4 o4 u4 b4 p5 q5 m5 t5 x5 y5 z5 o5 u5 b5 p6 q6 m6 t6 x6 y6 z6 o6 u6 b6 p7 q7 m7 t7 x7 y7 z7 o7 u7 b7 : Int} {T : Prop} (h : p0 = a ∧ q0 = b0 ∧ m0 = p0 * q0 ∧ u0 = o0 ∧ t0 = m0 + u0 ∧ x0 = 0 + t0 ∧ y0 = x0 % 4294967296 ∧ z0 = x0 / 4294967296 ∧ p1 = a ∧ q1 = b1 ∧ m1 = p1 * q1 ∧ u1 = o1 ∧ t1 = m1 + u1 ∧ x1 = z0 + t1 ∧ y1 = x1 % 4294967296 ∧ z1 = x1 / 4294967296 ∧ p2 = a ∧ q2 = b2 ∧ m2 = p2 * q2 ∧ u2 = o2 ∧ t2 = m2 + u2 ∧ x2 = z1 + t2 ∧ y2 = x2 % 4294967296 ∧ z2 = x2 / 4294967296 ∧ p3 = a ∧ q3 = b3 ∧ m3 = p3 * q3 ∧ u3 = o3 ∧ t3 = m3 + u3 ∧ x3 = z2 + t3 ∧ y3 = x3 % 4294967296 ∧ z3 = x3 / 4294967296 ∧ p4 = a ∧ q4 = b4 ∧ m4 = p4 * q4 ∧ u4 = o4 ∧ t4 = m4 + u4 ∧ x4 = z3 + t4 ∧ y4 = x4 % 4294967296 ∧ z4 = x4 / 4294967296 ∧ p5 = a ∧ q5 = b5 ∧ m5 = p5 * q5 ∧ u5 = o5 ∧ t5 = m5 + u5 ∧ x5 = z4 + t5 ∧ y5 = x5 % 4294967296 ∧ z5 = x5 / 4294967296 ∧ p6 = a ∧ q6 = b6 ∧ m6 = p6 * q6 ∧ u6 = o6 ∧ t6 = m6 + u6 ∧ x6 = z5 + t6 ∧ y6 = x6 % 4294967296 ∧ z6 = x6 / 4294967296 ∧ p7 = a ∧ q7 = b7 ∧ m7 = p7 * q7 ∧ u7 = o7 ∧ t7 = m7 + u7 ∧ x7 = z6 + t7 ∧ y7 = x7 % 4294967296 ∧ z7 = x7 / 4294967296 ∧ e = z7 ∧ T) : (y0 + 4294967296 * ofD 4294967296 [y1, y2, y3, y4, y5, y6, y7, e] = a * ofD 4294967296 [b0, b1, b2, b3, b4, b5, b6, b7] + ofD 4294967296 [o0, o1, o2, o3, o4, o5, o6, o7]) ∧ T := by
  obtain ⟨hp0, hq0, hm0, hu0, ht0, hx0, hy0, hz0, hp1, hq1, hm1, hu1, ht1, hx1, hy1, hz1, hp2, hq2, hm2, hu2, ht2, hx2, hy2, hz2, hp3, hq3, hm3, hu3, ht3, hx3, hy3, hz3, hp4, hq4, hm4, hu4, ht4, hx4, hy4, hz4, hp5, hq5, hm5, hu5, ht5, hx5, hy5, hz5, hp6, hq6, hm6, hu6, ht6, hx6, hy6, hz6, hp7, hq7, hm7, hu7, ht7, hx7, hy7, hz7, he, hT⟩ := h
  have R : [y0, y1, y2, y3, y4, y5, y6, y7, e] = chainX 0 ([(b0, o0), (b1, o1), (b2, o2), (b3, o3), (b4, o4), (b5, o5), (b6, o6), (b7, o7)].map fun p => a * p.1 + p.2) := (cstx (ht0.trans (by rw [hm0, hp0, hq0, hu0])) hx0 hy0 hz0 (cstx (ht1.trans (by rw [hm1, hp1, hq1, hu1])) hx1 hy1 hz1 (cstx (ht2.trans (by rw [hm2, hp2, hq2, hu2])) hx2 hy2 hz2 (cstx (ht3.trans (by rw [hm3, hp3, hq3, hu3])) hx3 hy3 hz3 (cstx (ht4.trans (by rw [hm4, hp4, hq4, hu4])) hx4 hy4 hz4 (cstx (ht5.trans (by rw [hm5, hp5, hq5, hu5])) hx5 hy5 hz5 (cstx (ht6.trans (by rw [hm6, hp6, hq6, hu6])) hx6 hy6 hz6 (cstx (ht7.trans (by rw [hm7, hp7, hq7, hu7])) hx7 hy7 hz7 (cste he)))))))))
  have R := congrArg (ofD 4294967296) R
  rw [chainX_val, ofD_mac, Int.zero_add] at R
  exact ⟨R, hT⟩

theorem mac_ {a e p0 q0 m0 t0 x0 y0 z0 o0 u0 b0 p1 q1 m1 t1 x1 y1 z1 o1 u1 b1 p2 q2 m2 t2 x2 y2 z2 o2 u2 b2 p3 q3 m3 t3 x3 y3 z3 o3 u3 b3 p4 q4 m4 t4 x4 y4 z4 o4 u4 b4 p5 q5 m5 t5 x5 y5 z5 o5 u5 b5 p6 q6 m6 t6 x6 y6 z6 o6 u6 b6 p7 q7 m7 t7 x7 y7 z7 o7 u7 b7 : Int} (h : p0 = a ∧ q0 = b0 ∧ m0 = p0 * q0 ∧ u0 = o0 ∧ t0 = m0 + u0 ∧ x0 = 0 + t0 ∧ y0 = x0 % 4294967296 ∧ z0 = x0 / 4294967296 ∧ p1 = a ∧ q1 = b1 ∧ m1 = p1 * q1 ∧ u1 = o1 ∧ t1 = m1 + u1 ∧ x1 = z0 + t1 ∧ y1 = x1 % 4294967296 ∧ z1 = x1 / 4294967296 ∧ p2 = a ∧ q2 = b2 ∧ m2 = p2 * q2 ∧ u2 = o2 ∧ t2 = m2 + u2 ∧ x2 = z1 + t2 ∧ y2 = x2 % 4294967296 ∧ z2 = x2 / 4294967296 ∧ p3 = a ∧ q3 = b3 ∧ m3 = p3 * q3 ∧ u3 = o3 ∧ t3 = m3 + u3 ∧ x3 = z2 + t3 ∧ y3 = x3 % 4294967296 ∧ z3 = x3 / 4294967296 ∧ p4 = a ∧ q4 = b4 ∧ m4 = p4 * q4 ∧ u4 = o4 ∧ t4 = m4 + u4 ∧ x4 = z3 + t4 ∧ y4 = x4 % 4294967296 ∧ z4 = x4 / 4294967296 ∧ p5 = a ∧ q5 = b5 ∧ m5 = p5 * q5 ∧ u5 = o5 ∧ t5 = m5 + u5 ∧ x5 = z4 + t5 ∧ y5 = x5 % 4294967296 ∧ z5 = x5 / 4294967296 ∧ p6 = a ∧ q6 = b6 ∧ m6 = p6 * q6 ∧ u6 = o6 ∧ t6 = m6 + u6 ∧ x6 = z5 + t6 ∧ y6 = x6 % 4294967296 ∧ z6 = x6 / 4294967296 ∧ p7 = a ∧ q7 = b7 ∧ m7 = p7 * q7 ∧ u7 = o7 ∧ t7 = m7 + u7 ∧ x7 = z6 + t7 ∧ y7 = x7 % 4294967296 ∧ z7 = x7 / 4294967296 ∧ e = z7) : y0 + 4294967296 * ofD 4294967296 [y1, y2, y3, y4, y5, y6, y7, e] = a * ofD 4294967296 [b0, b1, b2, b3, b4, b5, b6, b7] + ofD 4294967296 [o0, o1, o2, o3, o4, o5, o6, o7] := by
  obtain ⟨hp0, hq0, hm0, hu0, ht0, hx0, hy0, hz0, hp1, hq1, hm1, hu1, ht1, hx1, hy1, hz1, hp2, hq2, hm2, hu2, ht2, hx2, hy2, hz2, hp3, hq3, hm3, hu3, ht3, hx3, hy3, hz3, hp4, hq4, hm4, hu4, ht4, hx4, hy4, hz4, hp5, hq5, hm5, hu5, ht5, hx5, hy5, hz5, hp6, hq6, hm6, hu6, ht6, hx6, hy6, hz6, hp7, hq7, hm7, hu7, ht7, hx7, hy7, hz7, he⟩ := h
  have R : [y0, y1, y2, y3, y4, y5, y6, y7, e] = chainX 0 ([(b0, o0), (b1, o1), (b2, o2), (b3, o3), (b4, o4), (b5, o5), (b6, o6), (b7, o7)].map fun p => a * p.1 + p.2) := (cstx (ht0.trans (by rw [hm0, hp0, hq0, hu0])) hx0 hy0 hz0 (cstx (ht1.trans (by rw [hm1, hp1, hq1, hu1])) hx1 hy1 hz1 (cstx (ht2.trans (by rw [hm2, hp2, hq2, hu2])) hx2 hy2 hz2 (cstx (ht3.trans (by rw [hm3, hp3, hq3, hu3])) hx3 hy3 hz3 (cstx (ht4.trans (by rw [hm4, hp4, hq4, hu4])) hx4 hy4 hz4 (cstx (ht5.trans (by rw [hm5, hp5, hq5, hu5])) hx5 hy5 hz5 (cstx (ht6.trans (by rw [hm6, hp6, hq6, hu6])) hx6 hy6 hz6 (cstx (ht7.trans (by rw [hm7, hp7, hq7, hu7])) hx7 hy7 hz7 (cste he)))))))))
  have R := congrArg (ofD 4294967296) R
  rw [chainX_val, ofD_mac, Int.zero_add] at R
  exact R

theorem Times_val (xs : List Int) (hx : InB (WB 32) xs) : s_Times.f xs = toD 4294967296 16 (ofD 4294967296 (xs.take 8) * ofD 4294967296 ((xs.drop 16).take 8)) := by
  have hb := s_Times.ok _ _ (show s_Times.bt (WB 32) = some (WB 16) by kernel_rfl) _ hx
  obtain ⟨v, -, hin, he, -, hf⟩ := E_Times xs hx
  subst hin
  obtain ⟨R0, he⟩ := mac0 he
  obtain ⟨R1, he⟩ := mac he
  obtain ⟨R2, he⟩ := mac he
  obtain ⟨R3, he⟩ := mac he
  obtain ⟨R4, he⟩ := mac he
  obtain ⟨R5, he⟩ := mac he
  obtain ⟨R6, he⟩ := mac he
  have R7 := mac_ he
  have ht := times_lin R0 R1 R2 R3 R4 R5 R6 R7
  rw [hf] at hb ⊢
  exact toD_congr W_pos (InB_InD (b := 4294967296) (n := 16) hb) rfl ⟨0, ht.trans (Int.add_zero _).symm⟩

theorem ofD4 {w y0 y1 y2 y3 r : Int} {l : List Int} (h : y0 + 256 * (y1 + 256 * (y2 + 256 * y3)) = w) (hr : ofD 256 l = r) : ofD 256 (y0 :: y1 :: y2 :: y3 :: l) = w + 4294967296 * r := by
  subst hr
  show y0 + 256 * (y1 + 256 * (y2 + 256 * (y3 + 256 * ofD 256 l))) = _
  omega

theorem word4 {w x0 x1 x2 x3 y0 y1 y2 y3 : Int} {T : Prop} (h : x0 = w / 1 ∧ y0 = x0 % 256 ∧ x1 = w / 256 ∧ y1 = x1 % 256 ∧ x2 = w / 65536 ∧ y2 = x2 % 256 ∧ x3 = w / 16777216 ∧ y3 = x3 ∧ T) : y0 + 256 * (y1 + 256 * (y2 + 256 * y3)) = w ∧ T := by
  obtain ⟨a0, b0, a1, b1, a2, b2, a3, b3, hT⟩ := h
  exact ⟨by omega, hT⟩

theorem word4_ {w x0 x1 x2 x3 y0 y1 y2 y3 : Int} (h : x0 = w / 1 ∧ y0 = x0 % 256 ∧ x1 = w / 256 ∧ y1 = x1 % 256 ∧ x2 = w / 65536 ∧ y2 = x2 % 256 ∧ x3 = w / 16777216 ∧ y3 = x3) : y0 + 256 * (y1 + 256 * (y2 + 256 * y3)) = w := by
  obtain ⟨a0, b0, a1, b1, a2, b2, a3, b3⟩ := h
  omega

theorem byte4 {w a0 a1 a2 a3 b0 b1 b2 b3 c0 c1 c2 x0 x1 x2 x3 : Int} {T : Prop} (h : a0 = x0 ∧ b0 = a0 * 1 ∧ c0 = 0 + b0 ∧ a1 = x1 ∧ b1 = a1 * 256 ∧ c1 = c0 + b1 ∧ a2 = x2 ∧ b2 = a2 * 65536 ∧ c2 = c1 + b2 ∧ a3 = x3 ∧ b3 = a3 * 16777216 ∧ w = c2 + b3 ∧ T) : x0 + 256 * (x1 + 256 * (x2 + 256 * x3)) = w ∧ T := by
  obtain ⟨p0, q0, r0, p1, q1, r1, p2, q2, r2, p3, q3, r3, hT⟩ := h
  exact ⟨by omega, hT⟩

theorem byte4_ {w a0 a1 a2 a3 b0 b1 b2 b3 c0 c1 c2 x0 x1 x2 x3 : Int} (h : a0 = x0 ∧ b0 = a0 * 1 ∧ c0 = 0 + b0 ∧ a1 = x1 ∧ b1 = a1 * 256 ∧ c1 = c0 + b1 ∧ a2 = x2 ∧ b2 = a2 * 65536 ∧ c2 = c1 + b2 ∧ a3 = x3 ∧ b3 = a3 * 16777216 ∧ w = c2 + b3) : x0 + 256 * (x1 + 256 * (x2 + 256 * x3)) = w := by
  obtain ⟨p0, q0, r0, p1, q1, r1, p2, q2, r2, p3, q3, r3⟩ := h
  omega

theorem NBytes_val (xs : List Int) (hx : InB (WB 16) xs) : s_NBytes.f xs = toD 256 32 (ofD 4294967296 xs) := by
  have hb := s_NBytes.ok _ _ (show s_NBytes.bt (WB 16) = some (BB 32) by kernel_rfl) _ hx
  obtain ⟨v, -, hin, he, -, hf⟩ := E_NBytes xs hx
  subst hin
  obtain ⟨w0, he⟩ := word4 he
  obtain ⟨w1, he⟩ := word4 he
  obtain ⟨w2, he⟩ := word4 he
  obtain ⟨w3, he⟩ := word4 he
  obtain ⟨w4, he⟩ := word4 he
  obtain ⟨w5, he⟩ := word4 he
  obtain ⟨w6, he⟩ := word4 he
  have w7 := word4_ he
  have e := ofD4 w0 (ofD4 w1 (ofD4 w2 (ofD4 w3 (ofD4 w4 (ofD4 w5 (ofD4 w6 (ofD4 w7 (show ofD 256 [] = 0 from rfl))))))))
  rw [hf] at hb ⊢
  refine toD_congr (by decide) (InB_InD (b := 256) (n := 32) hb) rfl ⟨-(ofD 4294967296 [v 8, v 9, v 10, v 11, v 12, v 13, v 14, v 15]), ?_⟩
  refine e.trans ?_
  have e2 : ofD 4294967296 (seg v 0 16) = ofD 4294967296 (seg v 0 8) + 4294967296 ^ 8 * ofD 4294967296 (seg v 8 8) := ofD_append 4294967296 (seg v 0 8) (seg v 8 8)
  rw [e2]
  show ofD 4294967296 (seg v 0 8) = ofD 4294967296 (seg v 0 8) + 4294967296 ^ 8 * ofD 4294967296 (seg v 8 8) + 256 ^ 32 * -ofD 4294967296 (seg v 8 8)
  omega

theorem Of32_val (xs : List Int) (hx : InB (BB 32) xs) : s_Of32.f xs = toD 4294967296 8 (ofD 256 xs) := by
  have hb := s_Of32.ok _ _ (show s_Of32.bt (BB 32) = some (WB 8) by kernel_rfl) _ hx
  obtain ⟨v, -, hin, he, -, hf⟩ := E_Of32 xs hx
  subst hin
  obtain ⟨w0, he⟩ := byte4 he
  obtain ⟨w1, he⟩ := byte4 he
  obtain ⟨w2, he⟩ := byte4 he
  obtain ⟨w3, he⟩ := byte4 he
  obtain ⟨w4, he⟩ := byte4 he
  obtain ⟨w5, he⟩ := byte4 he
  obtain ⟨w6, he⟩ := byte4 he
  have w7 := byte4_ he
  have e := ofD4 w0 (ofD4 w1 (ofD4 w2 (ofD4 w3 (ofD4 w4 (ofD4 w5 (ofD4 w6 (ofD4 w7 (show ofD 256 [] = 0 from rfl))))))))
  rw [hf] at hb ⊢
  exact toD_congr W_pos (InB_InD (b := 4294967296) (n := 8) hb) rfl ⟨0, e.symm.trans (Int.add_zero _).symm⟩

end Go.X

namespace Go.X
noncomputable section
abbrev l_Less : List Sem := []
def g_Less_0 : List (Nat × Ins) := [(33, .op2 .lss .u32 (.v 15) (.v 31)),
  (32, .op2 .neq .u32 (.v 15) (.v 31))]
def outs_Less_0 : List A := [(.v 33)]
def q_Less_0 : FPath := ⟨(bs 32 0 4294967295), g_Less_0, [.cond (.v 32) true], outs_Less_0⟩
def g_Less_1 : List (Nat × Ins) := [(34, .op2 .lss .u32 (.v 14) (.v 30)),
  (33, .op2 .neq .u32 (.v 14) (.v 30)),
  (32, .op2 .neq .u32 (.v 15) (.v 31))]
def outs_Less_1 : List A := [(.v 34)]
def q_Less_1 : FPath := ⟨(bs 32 0 4294967295), g_Less_1, [.cond (.v 33) true, .cond (.v 32) false], outs_Less_1⟩
def g_Less_2 : List (Nat × Ins) := [(35, .op2 .lss .u32 (.v 13) (.v 29)),
  (34, .op2 .neq .u32 (.v 13) (.v 29)),
  (33, .op2 .neq .u32 (.v 14) (.v 30)),
  (32, .op2 .neq .u32 (.v 15) (.v 31))]
def outs_Less_2 : List A := [(.v 35)]
def q_Less_2 : FPath := ⟨(bs 32 0 4294967295), g_Less_2, [.cond (.v 34) true, .cond (.v 33) false, .cond (.v 32) false], outs_Less_2⟩
def g_Less_3 : List (Nat × Ins) := [(36, .op2 .lss .u32 (.v 12) (.v 28)),
  (35, .op2 .neq .u32 (.v 12) (.v 28)),
  (34, .op2 .neq .u32 (.v 13) (.v 29)),
  (33, .op2 .neq .u32 (.v 14) (.v 30)),
  (32, .op2 .neq .u32 (.v 15) (.v 31))]
def outs_Less_3 : List A := [(.v 36)]
def q_Less_3 : FPath := ⟨(bs 32 0 4294967295), g_Less_3, [.cond (.v 35) true, .cond (.v 34) false, .cond (.v 33) false, .cond (.v 32) false], outs_Less_3⟩
def g_Less_4 : List (Nat × Ins) := [(37, .op2 .lss .u32 (.v 11) (.v 27)),
  (36, .op2 .neq .u32 (.v 11) (.v 27)),
  (35, .op2 .neq .u32 (.v 12) (.v 28)),
  (34, .op2 .neq .u32 (.v 13) (.v 29)),
  (33, .op2 .neq .u32 (.v 14) (.v 30)),
  (32, .op2 .neq .u32 (.v 15) (.v 31))]
def outs_Less_4 : List A := [(.v 37)]
def q_Less_4 : FPath := ⟨(bs 32 0 4294967295), g_Less_4, [.cond (.v 36) true, .cond (.v 35) false, .cond (.v 34) false, .cond (.v 33) false, .cond (.v 32) false], outs_Less_4⟩
def g_Less_5 : List (Nat × Ins) := [(38, .op2 .lss .u32 (.v 10) (.v 26)),
  (37, .op2 .neq .u32 (.v 10) (.v 26)),
  (36, .op2 .neq .u32 (.v 11) (.v 27)),
  (35, .op2 .neq .u32 (.v 12) (.v 28)),
  (34, .op2 .neq .u32 (.v 13) (.v 29)),
  (33, .op2 .neq .u32 (.v 14) (.v 30)),
  (32, .op2 .neq .u32 (.v 15) (.v 31))]
def outs_Less_5 : List A := [(.v 38)]
def q_Less_5 : FPath := ⟨(bs 32 0 4294967295), g_Less_5, [.cond (.v 37) true, .cond (.v 36) false, .cond (.v 35) false, .cond (.v 34) false, .cond (.v 33) false, .cond (.v 32) false], outs_Less_5⟩
def g_Less_6 : List (Nat × Ins) := [(39, .op2 .lss .u32 (.v 9) (.v 25)),
  (38, .op2 .neq .u32 (.v 9) (.v 25)),
  (37, .op2 .neq .u32 (.v 10) (.v 26)),
  (36, .op2 .neq .u32 (.v 11) (.v 27)),
  (35, .op2 .neq .u32 (.v 12) (.v 28)),
  (34, .op2 .neq .u32 (.v 13) (.v 29)),
  (33, .op2 .neq .u32 (.v 14) (.v 30)),
  (32, .op2 .neq .u32 (.v 15) (.v 31))]
def outs_Less_6 : List A := [(.v 39)]
def q_Less_6 : FPath := ⟨(bs 32 0 4294967295), g_Less_6, [.cond (.v 38) true, .cond (.v 37) false, .cond (.v 36) false, .cond (.v 35) false, .cond (.v 34) false, .cond (.v 33) false, .cond (.v 32) false], outs_Less_6⟩
def g_Less_7 : List (Nat × Ins) := [(40, .op2 .lss .u32 (.v 8) (.v 24)),
  (39, .op2 .neq .u32 (.v 8) (.v 24)),
  (38, .op2 .neq .u32 (.v 9) (.v 25)),
  (37, .op2 .neq .u32 (.v 10) (.v 26)),
  (36, .op2 .neq .u32 (.v 11) (.v 27)),
  (35, .op2 .neq .u32 (.v 12) (.v 28)),
  (34, .op2 .neq .u32 (.v 13) (.v 29)),
  (33, .op2 .neq .u32 (.v 14) (.v 30)),
  (32, .op2 .neq .u32 (.v 15) (.v 31))]
def outs_Less_7 : List A := [(.v 40)]
def q_Less_7 : FPath := ⟨(bs 32 0 4294967295), g_Less_7, [.cond (.v 39) true, .cond (.v 38) false, .cond (.v 37) false, .cond (.v 36) false, .cond (.v 35) false, .cond (.v 34) false, .cond (.v 33) false, .cond (.v 32) false], outs_Less_7⟩
def g_Less_8 : List (Nat × Ins) := [(41, .op2 .lss .u32 (.v 7) (.v 23)),
  (40, .op2 .neq .u32 (.v 7) (.v 23)),
  (39, .op2 .neq .u32 (.v 8) (.v 24)),
  (38, .op2 .neq .u32 (.v 9) (.v 25)),
  (37, .op2 .neq .u32 (.v 10) (.v 26)),
  (36, .op2 .neq .u32 (.v 11) (.v 27)),
  (35, .op2 .neq .u32 (.v 12) (.v 28)),
  (34, .op2 .neq .u32 (.v 13) (.v 29)),
  (33, .op2 .neq .u32 (.v 14) (.v 30)),
  (32, .op2 .neq .u32 (.v 15) (.v 31))]
def outs_Less_8 : List A := [(.v 41)]
def q_Less_8 : FPath := ⟨(bs 32 0 4294967295), g_Less_8, [.cond (.v 40) true, .cond (.v 39) false, .cond (.v 38) false, .cond (.v 37) false, .cond (.v 36) false, .cond (.v 35) false, .cond (.v 34) false, .cond (.v 33) false, .cond (.v 32) false], outs_Less_8⟩
def g_Less_9 : List (Nat × Ins) := [(42, .op2 .lss .u32 (.v 6) (.v 22)),
  (41, .op2 .neq .u32 (.v 6) (.v 22)),
  (40, .op2 .neq .u32 (.v 7) (.v 23)),
  (39, .op2 .neq .u32 (.v 8) (.v 24)),
  (38, .op2 .neq .u32 (.v 9) (.v 25)),
  (37, .op2 .neq .u32 (.v 10) (.v 26)),
  (36, .op2 .neq .u32 (.v 11) (.v 27)),
  (35, .op2 .neq .u32 (.v 12) (.v 28)),
  (34, .op2 .neq .u32 (.v 13) (.v 29)),
  (33, .op2 .neq .u32 (.v 14) (.v 30)),
  (32, .op2 .neq .u32 (.v 15) (.v 31))]
def outs_Less_9 : List A := [(.v 42)]
def q_Less_9 : FPath := ⟨(bs 32 0 4294967295), g_Less_9, [.cond (.v 41) true, .cond (.v 40) false, .cond (.v 39) false, .cond (.v 38) false, .cond (.v 37) false, .cond (.v 36) false, .cond (.v 35) false, .cond (.v 34) false, .cond (.v 33) false, .cond (.v 32) false], outs_Less_9⟩
def g_Less_10 : List (Nat × Ins) := [(43, .op2 .lss .u32 (.v 5) (.v 21)),
  (42, .op2 .neq .u32 (.v 5) (.v 21)),
  (41, .op2 .neq .u32 (.v 6) (.v 22)),
  (40, .op2 .neq .u32 (.v 7) (.v 23)),
  (39, .op2 .neq .u32 (.v 8) (.v 24)),
  (38, .op2 .neq .u32 (.v 9) (.v 25)),
  (37, .op2 .neq .u32 (.v 10) (.v 26)),
  (36, .op2 .neq .u32 (.v 11) (.v 27)),
  (35, .op2 .neq .u32 (.v 12) (.v 28)),
  (34, .op2 .neq .u32 (.v 13) (.v 29)),
  (33, .op2 .neq .u32 (.v 14) (.v 30)),
  (32, .op2 .neq .u32 (.v 15) (.v 31))]
def outs_Less_10 : List A := [(.v 43)]
def q_Less_10 : FPath := ⟨(bs 32 0 4294967295), g_Less_10, [.cond (.v 42) true, .cond (.v 41) false, .cond (.v 40) false, .cond (.v 39) false, .cond (.v 38) false, .cond (.v 37) false, .cond (.v 36) false, .cond (.v 35) false, .cond (.v 34) false, .cond (.v 33) false, .cond (.v 32) false], outs_Less_10⟩
def g_Less_11 : List (Nat × Ins) := [(44, .op2 .lss .u32 (.v 4) (.v 20)),
  (43, .op2 .neq .u32 (.v 4) (.v 20)),
  (42, .op2 .neq .u32 (.v 5) (.v 21)),
  (41, .op2 .neq .u32 (.v 6) (.v 22)),
  (40, .op2 .neq .u32 (.v 7) (.v 23)),
  (39, .op2 .neq .u32 (.v 8) (.v 24)),
  (38, .op2 .neq .u32 (.v 9) (.v 25)),
  (37, .op2 .neq .u32 (.v 10) (.v 26)),
  (36, .op2 .neq .u32 (.v 11) (.v 27)),
  (35, .op2 .neq .u32 (.v 12) (.v 28)),
  (34, .op2 .neq .u32 (.v 13) (.v 29)),
  (33, .op2 .neq .u32 (.v 14) (.v 30)),
  (32, .op2 .neq .u32 (.v 15) (.v 31))]
def outs_Less_11 : List A := [(.v 44)]
def q_Less_11 : FPath := ⟨(bs 32 0 4294967295), g_Less_11, [.cond (.v 43) true, .cond (.v 42) false, .cond (.v 41) false, .cond (.v 40) false, .cond (.v 39) false, .cond (.v 38) false, .cond (.v 37) false, .cond (.v 36) false, .cond (.v 35) false, .cond (.v 34) false, .cond (.v 33) false, .cond (.v 32) false], outs_Less_11⟩
def g_Less_12 : List (Nat × Ins) := [(45, .op2 .lss .u32 (.v 3) (.v 19)),
  (44, .op2 .neq .u32 (.v 3) (.v 19)),
  (43, .op2 .neq .u32 (.v 4) (.v 20)),
  (42, .op2 .neq .u32 (.v 5) (.v 21)),
  (41, .op2 .neq .u32 (.v 6) (.v 22)),
  (40, .op2 .neq .u32 (.v 7) (.v 23)),
  (39, .op2 .neq .u32 (.v 8) (.v 24)),
  (38, .op2 .neq .u32 (.v 9) (.v 25)),
  (37, .op2 .neq .u32 (.v 10) (.v 26)),
  (36, .op2 .neq .u32 (.v 11) (.v 27)),
  (35, .op2 .neq .u32 (.v 12) (.v 28)),
  (34, .op2 .neq .u32 (.v 13) (.v 29)),
  (33, .op2 .neq .u32 (.v 14) (.v 30)),
  (32, .op2 .neq .u32 (.v 15) (.v 31))]
def outs_Less_12 : List A := [(.v 45)]
def q_Less_12 : FPath := ⟨(bs 32 0 4294967295), g_Less_12, [.cond (.v 44) true, .cond (.v 43) false, .cond (.v 42) false, .cond (.v 41) false, .cond (.v 40) false, .cond (.v 39) false, .cond (.v 38) false, .cond (.v 37) false, .cond (.v 36) false, .cond (.v 35) false, .cond (.v 34) false, .cond (.v 33) false, .cond (.v 32) false], outs_Less_12⟩
def g_Less_13 : List (Nat × Ins) := [(46, .op2 .lss .u32 (.v 2) (.v 18)),
  (45, .op2 .neq .u32 (.v 2) (.v 18)),
  (44, .op2 .neq .u32 (.v 3) (.v 19)),
  (43, .op2 .neq .u32 (.v 4) (.v 20)),
  (42, .op2 .neq .u32 (.v 5) (.v 21)),
  (41, .op2 .neq .u32 (.v 6) (.v 22)),
  (40, .op2 .neq .u32 (.v 7) (.v 23)),
  (39, .op2 .neq .u32 (.v 8) (.v 24)),
  (38, .op2 .neq .u32 (.v 9) (.v 25)),
  (37, .op2 .neq .u32 (.v 10) (.v 26)),
  (36, .op2 .neq .u32 (.v 11) (.v 27)),
  (35, .op2 .neq .u32 (.v 12) (.v 28)),
  (34, .op2 .neq .u32 (.v 13) (.v 29)),
  (33, .op2 .neq .u32 (.v 14) (.v 30)),
  (32, .op2 .neq .u32 (.v 15) (.v 31))]
def outs_Less_13 : List A := [(.v 46)]
def q_Less_13 : FPath := ⟨(bs 32 0 4294967295), g_Less_13, [.cond (.v 45) true, .cond (.v 44) false, .cond (.v 43) false, .cond (.v 42) false, .cond (.v 41) false, .cond (.v 40) false, .cond (.v 39) false, .cond (.v 38) false, .cond (.v 37) false, .cond (.v 36) false, .cond (.v 35) false, .cond (.v 34) false, .cond (.v 33) false, .cond (.v 32) false], outs_Less_13⟩
def g_Less_14 : List (Nat × Ins) := [(47, .op2 .lss .u32 (.v 1) (.v 17)),
  (46, .op2 .neq .u32 (.v 1) (.v 17)),
  (45, .op2 .neq .u32 (.v 2) (.v 18)),
  (44, .op2 .neq .u32 (.v 3) (.v 19)),
  (43, .op2 .neq .u32 (.v 4) (.v 20)),
  (42, .op2 .neq .u32 (.v 5) (.v 21)),
  (41, .op2 .neq .u32 (.v 6) (.v 22)),
  (40, .op2 .neq .u32 (.v 7) (.v 23)),
  (39, .op2 .neq .u32 (.v 8) (.v 24)),
  (38, .op2 .neq .u32 (.v 9) (.v 25)),
  (37, .op2 .neq .u32 (.v 10) (.v 26)),
  (36, .op2 .neq .u32 (.v 11) (.v 27)),
  (35, .op2 .neq .u32 (.v 12) (.v 28)),
  (34, .op2 .neq .u32 (.v 13) (.v 29)),
  (33, .op2 .neq .u32 (.v 14) (.v 30)),
  (32, .op2 .neq .u32 (.v 15) (.v 31))]
def outs_Less_14 : List A := [(.v 47)]
def q_Less_14 : FPath := ⟨(bs 32 0 4294967295), g_Less_14, [.cond (.v 46) true, .cond (.v 45) false, .cond (.v 44) false, .cond (.v 43) false, .cond (.v 42) false, .cond (.v 41) false, .cond (.v 40) false, .cond (.v 39) false, .cond (.v 38) false, .cond (.v 37) false, .cond (.v 36) false, .cond (.v 35) false, .cond (.v 34) false, .cond (.v 33) false, .cond (.v 32) false], outs_Less_14⟩
def g_Less_15 : List (Nat × Ins) := [(48, .op2 .lss .u32 (.v 0) (.v 16)),
  (47, .op2 .neq .u32 (.v 0) (.v 16)),
  (46, .op2 .neq .u32 (.v 1) (.v 17)),
  (45, .op2 .neq .u32 (.v 2) (.v 18)),
  (44, .op2 .neq .u32 (.v 3) (.v 19)),
  (43, .op2 .neq .u32 (.v 4) (.v 20)),
  (42, .op2 .neq .u32 (.v 5) (.v 21)),
  (41, .op2 .neq .u32 (.v 6) (.v 22)),
  (40, .op2 .neq .u32 (.v 7) (.v 23)),
  (39, .op2 .neq .u32 (.v 8) (.v 24)),
  (38, .op2 .neq .u32 (.v 9) (.v 25)),
  (37, .op2 .neq .u32 (.v 10) (.v 26)),
  (36, .op2 .neq .u32 (.v 11) (.v 27)),
  (35, .op2 .neq .u32 (.v 12) (.v 28)),
  (34, .op2 .neq .u32 (.v 13) (.v 29)),
  (33, .op2 .neq .u32 (.v 14) (.v 30)),
  (32, .op2 .neq .u32 (.v 15) (.v 31))]
def outs_Less_15 : List A := [(.v 48)]
def q_Less_15 : FPath := ⟨(bs 32 0 4294967295), g_Less_15, [.cond (.v 47) true, .cond (.v 46) false, .cond (.v 45) false, .cond (.v 44) false, .cond (.v 43) false, .cond (.v 42) false, .cond (.v 41) false, .cond (.v 40) false, .cond (.v 39) false, .cond (.v 38) false, .cond (.v 37) false, .cond (.v 36) false, .cond (.v 35) false, .cond (.v 34) false, .cond (.v 33) false, .cond (.v 32) false], outs_Less_15⟩
def g_Less_16 : List (Nat × Ins) := [(47, .op2 .neq .u32 (.v 0) (.v 16)),
  (46, .op2 .neq .u32 (.v 1) (.v 17)),
  (45, .op2 .neq .u32 (.v 2) (.v 18)),
  (44, .op2 .neq .u32 (.v 3) (.v 19)),
  (43, .op2 .neq .u32 (.v 4) (.v 20)),
  (42, .op2 .neq .u32 (.v 5) (.v 21)),
  (41, .op2 .neq .u32 (.v 6) (.v 22)),
  (40, .op2 .neq .u32 (.v 7) (.v 23)),
  (39, .op2 .neq .u32 (.v 8) (.v 24)),
  (38, .op2 .neq .u32 (.v 9) (.v 25)),
  (37, .op2 .neq .u32 (.v 10) (.v 26)),
  (36, .op2 .neq .u32 (.v 11) (.v 27)),
  (35, .op2 .neq .u32 (.v 12) (.v 28)),
  (34, .op2 .neq .u32 (.v 13) (.v 29)),
  (33, .op2 .neq .u32 (.v 14) (.v 30)),
  (32, .op2 .neq .u32 (.v 15) (.v 31))]
def outs_Less_16 : List A := [(.l 0)]
def q_Less_16 : FPath := ⟨(bs 32 0 4294967295), g_Less_16, [.cond (.v 47) false, .cond (.v 46) false, .cond (.v 45) false, .cond (.v 44) false, .cond (.v 43) false, .cond (.v 42) false, .cond (.v 41) false, .cond (.v 40) false, .cond (.v 39) false, .cond (.v 38) false, .cond (.v 37) false, .cond (.v 36) false, .cond (.v 35) false, .cond (.v 34) false, .cond (.v 33) false, .cond (.v 32) false], outs_Less_16⟩
def q_Less : List FPath := [q_Less_0, q_Less_1, q_Less_2, q_Less_3, q_Less_4, q_Less_5, q_Less_6, q_Less_7, q_Less_8, q_Less_9, q_Less_10, q_Less_11, q_Less_12, q_Less_13, q_Less_14, q_Less_15, q_Less_16]
def bi_Less : Bd := (bs 32 0 4294967295)
def bo_Less : Bd := [(0, 1)]

theorem E_Less_0 (xs : List Int) (hx : InB (bs 32 0 4294967295) xs) : ∃ v : Nat → Int, vals l_Less g_Less_0 xs = v ∧ seg v 0 32 = xs ∧ ((v 32 = op2 .neq .u32 (v 15) (v 31)) ∧ (v 33 = op2 .lss .u32 (v 15) (v 31))) ∧ (True) ∧ (CondHold v q_Less_0.asm = ((v 32 != 0) = true ∧ True)) ∧ outs_Less_0.map (A.ev v) = ([v 33]) := by
  have h := run_eqs (l := l_Less) (g := g_Less_0) (nin := 32) (top := 34) (b := (bs 32 0 4294967295)) (by kernel_rfl) hx
  obtain ⟨v, hv⟩ : ∃ v, vals l_Less g_Less_0 xs = v := ⟨_, rfl⟩
  rw [hv] at h
  exact ⟨v, hv, h.1, Eq.mp (by kernel_rfl) h.2.1, trivial, by kernel_rfl, by kernel_rfl⟩
theorem E_Less_1 (xs : List Int) (hx : InB (bs 32 0 4294967295) xs) : ∃ v : Nat → Int, vals l_Less g_Less_1 xs = v ∧ seg v 0 32 = xs ∧ ((v 32 = op2 .neq .u32 (v 15) (v 31)) ∧ (v 33 = op2 .neq .u32 (v 14) (v 30)) ∧ (v 34 = op2 .lss .u32 (v 14) (v 30))) ∧ (True) ∧ (CondHold v q_Less_1.asm = ((v 33 != 0) = true ∧ ((v 32 != 0) = false ∧ True))) ∧ outs_Less_1.map (A.ev v) = ([v 34]) := by
  have h := run_eqs (l := l_Less) (g := g_Less_1) (nin := 32) (top := 35) (b := (bs 32 0 4294967295)) (by kernel_rfl) hx
  obtain ⟨v, hv⟩ : ∃ v, vals l_Less g_Less_1 xs = v := ⟨_, rfl⟩
  rw [hv] at h
  exact ⟨v, hv, h.1, Eq.mp (by kernel_rfl) h.2.1, trivial, by kernel_rfl, by kernel_rfl⟩
theorem E_Less_2 (xs : List Int) (hx : InB (bs 32 0 4294967295) xs) : ∃ v : Nat → Int, vals l_Less g_Less_2 xs = v ∧ seg v 0 32 = xs ∧ ((v 32 = op2 .neq .u32 (v 15) (v 31)) ∧ (v 33 = op2 .neq .u32 (v 14) (v 30)) ∧ (v 34 = op2 .neq .u32 (v 13) (v 29)) ∧ (v 35 = op2 .lss .u32 (v 13) (v 29))) ∧ (True) ∧ (CondHold v q_Less_2.asm = ((v 34 != 0) = true ∧ ((v 33 != 0) = false ∧ ((v 32 != 0) = false ∧ True)))) ∧ outs_Less_2.map (A.ev v) = ([v 35]) := by
  have h := run_eqs (l := l_Less) (g := g_Less_2) (nin := 32) (top := 36) (b := (bs 32 0 4294967295)) (by kernel_rfl) hx
  obtain ⟨v, hv⟩ : ∃ v, vals l_Less g_Less_2 xs = v := ⟨_, rfl⟩
  rw [hv] at h
  exact ⟨v, hv, h.1, Eq.mp (by kernel_rfl) h.2.1, trivial, by kernel_rfl, by kernel_rfl⟩
theorem E_Less_3 (xs : List Int) (hx : InB (bs 32 0 4294967295) xs) : ∃ v : Nat → Int, vals l_Less g_Less_3 xs = v ∧ seg v 0 32 = xs ∧ ((v 32 = op2 .neq .u32 (v 15) (v 31)) ∧ (v 33 = op2 .neq .u32 (v 14) (v 30)) ∧ (v 34 = op2 .neq .u32 (v 13) (v 29)) ∧ (v 35 = op2 .neq .u32 (v 12) (v 28)) ∧ (v 36 = op2 .lss .u32 (v 12) (v 28))) ∧ (True) ∧ (CondHold v q_Less_3.asm = ((v 35 != 0) = true ∧ ((v 34 != 0) = false ∧ ((v 33 != 0) = false ∧ ((v 32 != 0) = false ∧ True))))) ∧ outs_Less_3.map (A.ev v) = ([v 36]) := by
  have h := run_eqs (l := l_Less) (g := g_Less_3) (nin := 32) (top := 37) (b := (bs 32 0 4294967295)) (by kernel_rfl) hx
  obtain ⟨v, hv⟩ : ∃ v, vals l_Less g_Less_3 xs = v := ⟨_, rfl⟩
  rw [hv] at h
  exact ⟨v, hv, h.1, Eq.mp (by kernel_rfl) h.2.1, trivial, by kernel_rfl, by kernel_rfl⟩
theorem E_Less_4 (xs : List Int) (hx : InB (bs 32 0 4294967295) xs) : ∃ v : Nat → Int, vals l_Less g_Less_4 xs = v ∧ seg v 0 32 = xs ∧ ((v 32 = op2 .neq .u32 (v 15) (v 31)) ∧ (v 33 = op2 .neq .u32 (v 14) (v 30)) ∧ (v 34 = op2 .neq .u32 (v 13) (v 29)) ∧ (v 35 = op2 .neq .u32 (v 12) (v 28)) ∧ (v 36 = op2 .neq .u32 (v 11) (v 27)) ∧ (v 37 = op2 .lss .u32 (v 11) (v 27))) ∧ (True) ∧ (CondHold v q_Less_4.asm = ((v 36 != 0) = true ∧ ((v 35 != 0) = false ∧ ((v 34 != 0) = false ∧ ((v 33 != 0) = false ∧ ((v 32 != 0) = false ∧ True)))))) ∧ outs_Less_4.map (A.ev v) = ([v 37]) := by
  have h := run_eqs (l := l_Less) (g := g_Less_4) (nin := 32) (top := 38) (b := (bs 32 0 4294967295)) (by kernel_rfl) hx
  obtain ⟨v, hv⟩ : ∃ v, vals l_Less g_Less_4 xs = v := ⟨_, rfl⟩
  rw [hv] at h
  exact ⟨v, hv, h.1, Eq.mp (by kernel_rfl) h.2.1, trivial, by kernel_rfl, by kernel_rfl⟩
theorem E_Less_5 (xs : List Int) (hx : InB (bs 32 0 4294967295) xs) : ∃ v : Nat → Int, vals l_Less g_Less_5 xs = v ∧ seg v 0 32 = xs ∧ ((v 32 = op2 .neq .u32 (v 15) (v 31)) ∧ (v 33 = op2 .neq .u32 (v 14) (v 30)) ∧ (v 34 = op2 .neq .u32 (v 13) (v 29)) ∧ (v 35 = op2 .neq .u32 (v 12) (v 28)) ∧ (v 36 = op2 .neq .u32 (v 11) (v 27)) ∧ (v 37 = op2 .neq .u32 (v 10) (v 26)) ∧ (v 38 = op2 .lss .u32 (v 10) (v 26))) ∧ (True) ∧ (CondHold v q_Less_5.asm = ((v 37 != 0) = true ∧ ((v 36 != 0) = false ∧ ((v 35 != 0) = false ∧ ((v 34 != 0) = false ∧ ((v 33 != 0) = false ∧ ((v 32 != 0) = false ∧ True))))))) ∧ outs_Less_5.map (A.ev v) = ([v 38]) := by
  have h := run_eqs (l := l_Less) (g := g_Less_5) (nin := 32) (top := 39) (b := (bs 32 0 4294967295)) (by kernel_rfl) hx
  obtain ⟨v, hv⟩ : ∃ v, vals l_Less g_Less_5 xs = v := ⟨_, rfl⟩
  rw [hv] at h
  exact ⟨v, hv, h.1, Eq.mp (by kernel_rfl) h.2.1, trivial, by kernel_rfl, by kernel_rfl⟩
theorem E_Less_6 (xs : List Int) (hx : InB (bs 32 0 4294967295) xs) : ∃ v : Nat → Int, vals l_Less g_Less_6 xs = v ∧ seg v 0 32 = xs ∧ ((v 32 = op2 .neq .u32 (v 15) (v 31)) ∧ (v 33 = op2 .neq .u32 (v 14) (v 30)) ∧ (v 34 = op2 .neq .u32 (v 13) (v 29)) ∧ (v 35 = op2 .neq .u32 (v 12) (v 28)) ∧ (v 36 = op2 .neq .u32 (v 11) (v 27)) ∧ (v 37 = op2 .neq .u32 (v 10) (v 26)) ∧ (v 38 = op2 .neq .u32 (v 9) (v 25)) ∧ (v 39 = op2 .lss .u32 (v 9) (v 25))) ∧ (True) ∧ (CondHold v q_Less_6.asm = ((v 38 != 0) = true ∧ ((v 37 != 0) = false ∧ ((v 36 != 0) = false ∧ ((v 35 != 0) = false ∧ ((v 34 != 0) = false ∧ ((v 33 != 0) = false ∧ ((v 32 != 0) = false ∧ True)))))))) ∧ outs_Less_6.map (A.ev v) = ([v 39]) := by
  have h := run_eqs (l := l_Less) (g := g_Less_6) (nin := 32) (top := 40) (b := (bs 32 0 4294967295)) (by kernel_rfl) hx
  obtain ⟨v, hv⟩ : ∃ v, vals l_Less g_Less_6 xs = v := ⟨_, rfl⟩
  rw [hv] at h
  exact ⟨v, hv, h.1, Eq.mp (by kernel_rfl) h.2.1, trivial, by kernel_rfl, by kernel_rfl⟩
theorem E_Less_7 (xs : List Int) (hx : InB (bs 32 0 4294967295) xs) : ∃ v : Nat → Int, vals l_Less g_Less_7 xs = v ∧ seg v 0 32 = xs ∧ ((v 32 = op2 .neq .u32 (v 15) (v 31)) ∧ (v 33 = op2 .neq .u32 (v 14) (v 30)) ∧ (v 34 = op2 .neq .u32 (v 13) (v 29)) ∧ (v 35 = op2 .neq .u32 (v 12) (v 28)) ∧ (v 36 = op2 .neq .u32 (v 11) (v 27)) ∧ (v 37 = op2 .neq .u32 (v 10) (v 26)) ∧ (v 38 = op2 .neq .u32 (v 9) (v 25)) ∧ (v 39 = op2 .neq .u32 (v 8) (v 24)) ∧ (v 40 = op2 .lss .u32 (v 8) (v 24))) ∧ (True) ∧ (CondHold v q_Less_7.asm = ((v 39 != 0) = true ∧ ((v 38 != 0) = false ∧ ((v 37 != 0) = false ∧ ((v 36 != 0) = false ∧ ((v 35 != 0) = false ∧ ((v 34 != 0) = false ∧ ((v 33 != 0) = false ∧ ((v 32 != 0) = false ∧ True))))))))) ∧ outs_Less_7.map (A.ev v) = ([v 40]) := by
  have h := run_eqs (l := l_Less) (g := g_Less_7) (nin := 32) (top := 41) (b := (bs 32 0 4294967295)) (by kernel_rfl) hx
  obtain ⟨v, hv⟩ : ∃ v, vals l_Less g_Less_7 xs = v := ⟨_, rfl⟩
  rw [hv] at h
  exact ⟨v, hv, h.1, Eq.mp (by kernel_rfl) h.2.1, trivial, by kernel_rfl, by kernel_rfl⟩
theorem E_Less_8 (xs : List Int) (hx : InB (bs 32 0 4294967295) xs) : ∃ v : Nat → Int, vals l_Less g_Less_8 xs = v ∧ seg v 0 32 = xs ∧ ((v 32 = op2 .neq .u32 (v 15) (v 31)) ∧ (v 33 = op2 .neq .u32 (v 14) (v 30)) ∧ (v 34 = op2 .neq .u32 (v 13) (v 29)) ∧ (v 35 = op2 .neq .u32 (v 12) (v 28)) ∧ (v 36 = op2 .neq .u32 (v 11) (v 27)) ∧ (v 37 = op2 .neq .u32 (v 10) (v 26)) ∧ (v 38 = op2 .neq .u32 (v 9) (v 25)) ∧ (v 39 = op2 .neq .u32 (v 8) (v 24)) ∧ (v 40 = op2 .neq .u32 (v 7) (v 23)) ∧ (v 41 = op2 .lss .u32 (v 7) (v 23))) ∧ (True) ∧ (CondHold v q_Less_8.asm = ((v 40 != 0) = true ∧ ((v 39 != 0) = false ∧ ((v 38 != 0) = false ∧ ((v 37 != 0) = false ∧ ((v 36 != 0) = false ∧ ((v 35 != 0) = false ∧ ((v 34 != 0) = false ∧ ((v 33 != 0) = false ∧ ((v 32 != 0) = false ∧ True)))))))))) ∧ outs_Less_8.map (A.ev v) = ([v 41]) := by
  have h := run_eqs (l := l_Less) (g := g_Less_8) (nin := 32) (top := 42) (b := (bs 32 0 4294967295)) (by kernel_rfl) hx
  obtain ⟨v, hv⟩ : ∃ v, vals l_Less g_Less_8 xs = v := ⟨_, rfl⟩
  rw [hv] at h
  exact ⟨v, hv, h.1, Eq.mp (by kernel_rfl) h.2.1, trivial, by kernel_rfl, by kernel_rfl⟩
theorem E_Less_9 (xs : List Int) (hx : InB (bs 32 0 4294967295) xs) : ∃ v : Nat → Int, vals l_Less g_Less_9 xs = v ∧ seg v 0 32 = xs ∧ ((v 32 = op2 .neq .u32 (v 15) (v 31)) ∧ (v 33 = op2 .neq .u32 (v 14) (v 30)) ∧ (v 34 = op2 .neq .u32 (v 13) (v 29)) ∧ (v 35 = op2 .neq .u32 (v 12) (v 28)) ∧ (v 36 = op2 .neq .u32 (v 11) (v 27)) ∧ (v 37 = op2 .neq .u32 (v 10) (v 26)) ∧ (v 38 = op2 .neq .u32 (v 9) (v 25)) ∧ (v 39 = op2 .neq .u32 (v 8) (v 24)) ∧ (v 40 = op2 .neq .u32 (v 7) (v 23)) ∧ (v 41 = op2 .neq .u32 (v 6) (v 22)) ∧ (v 42 = op2 .lss .u32 (v 6) (v 22))) ∧ (True) ∧ (CondHold v q_Less_9.asm = ((v 41 != 0) = true ∧ ((v 40 != 0) = false ∧ ((v 39 != 0) = false ∧ ((v 38 != 0) = false ∧ ((v 37 != 0) = false ∧ ((v 36 != 0) = false ∧ ((v 35 != 0) = false ∧ ((v 34 != 0) = false ∧ ((v 33 != 0) = false ∧ ((v 32 != 0) = false ∧ True))))))))))) ∧ outs_Less_9.map (A.ev v) = ([v 42]) := by
  have h := run_eqs (l := l_Less) (g := g_Less_9) (nin := 32) (top := 43) (b := (bs 32 0 4294967295)) (by kernel_rfl) hx
  obtain ⟨v, hv⟩ : ∃ v, vals l_Less g_Less_9 xs = v := ⟨_, rfl⟩
  rw [hv] at h
  exact ⟨v, hv, h.1, Eq.mp (by kernel_rfl) h.2.1, trivial, by kernel_rfl, by kernel_rfl⟩
theorem E_Less_10 (xs : List Int) (hx : InB (bs 32 0 4294967295) xs) : ∃ v : Nat → Int, vals l_Less g_Less_10 xs = v ∧ seg v 0 32 = xs ∧ ((v 32 = op2 .neq .u32 (v 15) (v 31)) ∧ (v 33 = op2 .neq .u32 (v 14) (v 30)) ∧ (v 34 = op2 .neq .u32 (v 13) (v 29)) ∧ (v 35 = op2 .neq .u32 (v 12) (v 28)) ∧ (v 36 = op2 .neq .u32 (v 11) (v 27)) ∧ (v 37 = op2 .neq .u32 (v 10) (v 26)) ∧ (v 38 = op2 .neq .u32 (v 9) (v 25)) ∧ (v 39 = op2 .neq .u32 (v 8) (v 24)) ∧ (v 40 = op2 .neq .u32 (v 7) (v 23)) ∧ (v 41 = op2 .neq .u32 (v 6) (v 22)) ∧ (v 42 = op2 .neq .u32 (v 5) (v 21)) ∧ (v 43 = op2 .lss .u32 (v 5) (v 21))) ∧ (True) ∧ (CondHold v q_Less_10.asm = ((v 42 != 0) = true ∧ ((v 41 != 0) = false ∧ ((v 40 != 0) = false ∧ ((v 39 != 0) = false ∧ ((v 38 != 0) = false ∧ ((v 37 != 0) = false ∧ ((v 36 != 0) = false ∧ ((v 35 != 0) = false ∧ ((v 34 != 0) = false ∧ ((v 33 != 0) = false ∧ ((v 32 != 0) = false ∧ True)))))))))))) ∧ outs_Less_10.map (A.ev v) = ([v 43]) := by
  have h := run_eqs (l := l_Less) (g := g_Less_10) (nin := 32) (top := 44) (b := (bs 32 0 4294967295)) (by kernel_rfl) hx
  obtain ⟨v, hv⟩ : ∃ v, vals l_Less g_Less_10 xs = v := ⟨_, rfl⟩
  rw [hv] at h
  exact ⟨v, hv, h.1, Eq.mp (by kernel_rfl) h.2.1, trivial, by kernel_rfl, by kernel_rfl⟩
theorem E_Less_11 (xs : List Int) (hx : InB (bs 32 0 4294967295) xs) : ∃ v : Nat → Int, vals l_Less g_Less_11 xs = v ∧ seg v 0 32 = xs ∧ ((v 32 = op2 .neq .u32 (v 15) (v 31)) ∧ (v 33 = op2 .neq .u32 (v 14) (v 30)) ∧ (v 34 = op2 .neq .u32 (v 13) (v 29)) ∧ (v 35 = op2 .neq .u32 (v 12) (v 28)) ∧ (v 36 = op2 .neq .u32 (v 11) (v 27)) ∧ (v 37 = op2 .neq .u32 (v 10) (v 26)) ∧ (v 38 = op2 .neq .u32 (v 9) (v 25)) ∧ (v 39 = op2 .neq .u32 (v 8) (v 24)) ∧ (v 40 = op2 .neq .u32 (v 7) (v 23)) ∧ (v 41 = op2 .neq .u32 (v 6) (v 22)) ∧ (v 42 = op2 .neq .u32 (v 5) (v 21)) ∧ (v 43 = op2 .neq .u32 (v 4) (v 20)) ∧ (v 44 = op2 .lss .u32 (v 4) (v 20))) ∧ (True) ∧ (CondHold v q_Less_11.asm = ((v 43 != 0) = true ∧ ((v 42 != 0) = false ∧ ((v 41 != 0) = false ∧ ((v 40 != 0) = false ∧ ((v 39 != 0) = false ∧ ((v 38 != 0) = false ∧ ((v 37 != 0) = false ∧ ((v 36 != 0) = false ∧ ((v 35 != 0) = false ∧ ((v 34 != 0) = false ∧ ((v 33 != 0) = false ∧ ((v 32 != 0) = false ∧ True))))))))))))) ∧ outs_Less_11.map (A.ev v) = ([v 44]) := by
  have h := run_eqs (l := l_Less) (g := g_Less_11) (nin := 32) (top := 45) (b := (bs 32 0 4294967295)) (by kernel_rfl) hx
  obtain ⟨v, hv⟩ : ∃ v, vals l_Less g_Less_11 xs = v := ⟨_, rfl⟩
  rw [hv] at h
  exact ⟨v, hv, h.1, Eq.mp (by kernel_rfl) h.2.1, trivial, by kernel_rfl, by kernel_rfl⟩
theorem E_Less_12 (xs : List Int) (hx : InB (bs 32 0 4294967295) xs) : ∃ v : Nat → Int, vals l_Less g_Less_12 xs = v ∧ seg v 0 32 = xs ∧ ((v 32 = op2 .neq .u32 (v 15) (v 31)) ∧ (v 33 = op2 .neq .u32 (v 14) (v 30)) ∧ (v 34 = op2 .neq .u32 (v 13) (v 29)) ∧ (v 35 = op2 .neq .u32 (v 12) (v 28)) ∧ (v 36 = op2 .neq .u32 (v 11) (v 27)) ∧ (v 37 = op2 .neq .u32 (v 10) (v 26)) ∧ (v 38 = op2 .neq .u32 (v 9) (v 25)) ∧ (v 39 = op2 .neq .u32 (v 8) (v 24)) ∧ (v 40 = op2 .neq .u32 (v 7) (v 23)) ∧ (v 41 = op2 .neq .u32 (v 6) (v 22)) ∧ (v 42 = op2 .neq .u32 (v 5) (v 21)) ∧ (v 43 = op2 .neq .u32 (v 4) (v 20)) ∧ (v 44 = op2 .neq .u32 (v 3) (v 19)) ∧ (v 45 = op2 .lss .u32 (v 3) (v 19))) ∧ (True) ∧ (CondHold v q_Less_12.asm = ((v 44 != 0) = true ∧ ((v 43 != 0) = false ∧ ((v 42 != 0) = false ∧ ((v 41 != 0) = false ∧ ((v 40 != 0) = false ∧ ((v 39 != 0) = false ∧ ((v 38 != 0) = false ∧ ((v 37 != 0) = false ∧ ((v 36 != 0) = false ∧ ((v 35 != 0) = false ∧ ((v 34 != 0) = false ∧ ((v 33 != 0) = false ∧ ((v 32 != 0) = false ∧ True)))))))))))))) ∧ outs_Less_12.map (A.ev v) = ([v 45]) := by
  have h := run_eqs (l := l_Less) (g := g_Less_12) (nin := 32) (top := 46) (b := (bs 32 0 4294967295)) (by kernel_rfl) hx
  obtain ⟨v, hv⟩ : ∃ v, vals l_Less g_Less_12 xs = v := ⟨_, rfl⟩
  rw [hv] at h
  exact ⟨v, hv, h.1, Eq.mp (by kernel_rfl) h.2.1, trivial, by kernel_rfl, by kernel_rfl⟩
theorem E_Less_13 (xs : List Int) (hx : InB (bs 32 0 4294967295) xs) : ∃ v : Nat → Int, vals l_Less g_Less_13 xs = v ∧ seg v 0 32 = xs ∧ ((v 32 = op2 .neq .u32 (v 15) (v 31)) ∧ (v 33 = op2 .neq .u32 (v 14) (v 30)) ∧ (v 34 = op2 .neq .u32 (v 13) (v 29)) ∧ (v 35 = op2 .neq .u32 (v 12) (v 28)) ∧ (v 36 = op2 .neq .u32 (v 11) (v 27)) ∧ (v 37 = op2 .neq .u32 (v 10) (v 26)) ∧ (v 38 = op2 .neq .u32 (v 9) (v 25)) ∧ (v 39 = op2 .neq .u32 (v 8) (v 24)) ∧ (v 40 = op2 .neq .u32 (v 7) (v 23)) ∧ (v 41 = op2 .neq .u32 (v 6) (v 22)) ∧ (v 42 = op2 .neq .u32 (v 5) (v 21)) ∧ (v 43 = op2 .neq .u32 (v 4) (v 20)) ∧ (v 44 = op2 .neq .u32 (v 3) (v 19)) ∧ (v 45 = op2 .neq .u32 (v 2) (v 18)) ∧ (v 46 = op2 .lss .u32 (v 2) (v 18))) ∧ (True) ∧ (CondHold v q_Less_13.asm = ((v 45 != 0) = true ∧ ((v 44 != 0) = false ∧ ((v 43 != 0) = false ∧ ((v 42 != 0) = false ∧ ((v 41 != 0) = false ∧ ((v 40 != 0) = false ∧ ((v 39 != 0) = false ∧ ((v 38 != 0) = false ∧ ((v 37 != 0) = false ∧ ((v 36 != 0) = false ∧ ((v 35 != 0) = false ∧ ((v 34 != 0) = false ∧ ((v 33 != 0) = false ∧ ((v 32 != 0) = false ∧ True))))))))))))))) ∧ outs_Less_13.map (A.ev v) = ([v 46]) := by
  have h := run_eqs (l := l_Less) (g := g_Less_13) (nin := 32) (top := 47) (b := (bs 32 0 4294967295)) (by kernel_rfl) hx
  obtain ⟨v, hv⟩ : ∃ v, vals l_Less g_Less_13 xs = v := ⟨_, rfl⟩
  rw [hv] at h
  exact ⟨v, hv, h.1, Eq.mp (by kernel_rfl) h.2.1, trivial, by kernel_rfl, by kernel_rfl⟩
theorem E_Less_14 (xs : List Int) (hx : InB (bs 32 0 4294967295) xs) : ∃ v : Nat → Int, vals l_Less g_Less_14 xs = v ∧ seg v 0 32 = xs ∧ ((v 32 = op2 .neq .u32 (v 15) (v 31)) ∧ (v 33 = op2 .neq .u32 (v 14) (v 30)) ∧ (v 34 = op2 .neq .u32 (v 13) (v 29)) ∧ (v 35 = op2 .neq .u32 (v 12) (v 28)) ∧ (v 36 = op2 .neq .u32 (v 11) (v 27)) ∧ (v 37 = op2 .neq .u32 (v 10) (v 26)) ∧ (v 38 = op2 .neq .u32 (v 9) (v 25)) ∧ (v 39 = op2 .neq .u32 (v 8) (v 24)) ∧ (v 40 = op2 .neq .u32 (v 7) (v 23)) ∧ (v 41 = op2 .neq .u32 (v 6) (v 22)) ∧ (v 42 = op2 .neq .u32 (v 5) (v 21)) ∧ (v 43 = op2 .neq .u32 (v 4) (v 20)) ∧ (v 44 = op2 .neq .u32 (v 3) (v 19)) ∧ (v 45 = op2 .neq .u32 (v 2) (v 18)) ∧ (v 46 = op2 .neq .u32 (v 1) (v 17)) ∧ (v 47 = op2 .lss .u32 (v 1) (v 17))) ∧ (True) ∧ (CondHold v q_Less_14.asm = ((v 46 != 0) = true ∧ ((v 45 != 0) = false ∧ ((v 44 != 0) = false ∧ ((v 43 != 0) = false ∧ ((v 42 != 0) = false ∧ ((v 41 != 0) = false ∧ ((v 40 != 0) = false ∧ ((v 39 != 0) = false ∧ ((v 38 != 0) = false ∧ ((v 37 != 0) = false ∧ ((v 36 != 0) = false ∧ ((v 35 != 0) = false ∧ ((v 34 != 0) = false ∧ ((v 33 != 0) = false ∧ ((v 32 != 0) = false ∧ True)))))))))))))))) ∧ outs_Less_14.map (A.ev v) = ([v 47]) := by
  have h := run_eqs (l := l_Less) (g := g_Less_14) (nin := 32) (top := 48) (b := (bs 32 0 4294967295)) (by kernel_rfl) hx
  obtain ⟨v, hv⟩ : ∃ v, vals l_Less g_Less_14 xs = v := ⟨_, rfl⟩
  rw [hv] at h
  exact ⟨v, hv, h.1, Eq.mp (by kernel_rfl) h.2.1, trivial, by kernel_rfl, by kernel_rfl⟩
theorem E_Less_15 (xs : List Int) (hx : InB (bs 32 0 4294967295) xs) : ∃ v : Nat → Int, vals l_Less g_Less_15 xs = v ∧ seg v 0 32 = xs ∧ ((v 32 = op2 .neq .u32 (v 15) (v 31)) ∧ (v 33 = op2 .neq .u32 (v 14) (v 30)) ∧ (v 34 = op2 .neq .u32 (v 13) (v 29)) ∧ (v 35 = op2 .neq .u32 (v 12) (v 28)) ∧ (v 36 = op2 .neq .u32 (v 11) (v 27)) ∧ (v 37 = op2 .neq .u32 (v 10) (v 26)) ∧ (v 38 = op2 .neq .u32 (v 9) (v 25)) ∧ (v 39 = op2 .neq .u32 (v 8) (v 24)) ∧ (v 40 = op2 .neq .u32 (v 7) (v 23)) ∧ (v 41 = op2 .neq .u32 (v 6) (v 22)) ∧ (v 42 = op2 .neq .u32 (v 5) (v 21)) ∧ (v 43 = op2 .neq .u32 (v 4) (v 20)) ∧ (v 44 = op2 .neq .u32 (v 3) (v 19)) ∧ (v 45 = op2 .neq .u32 (v 2) (v 18)) ∧ (v 46 = op2 .neq .u32 (v 1) (v 17)) ∧ (v 47 = op2 .neq .u32 (v 0) (v 16)) ∧ (v 48 = op2 .lss .u32 (v 0) (v 16))) ∧ (True) ∧ (CondHold v q_Less_15.asm = ((v 47 != 0) = true ∧ ((v 46 != 0) = false ∧ ((v 45 != 0) = false ∧ ((v 44 != 0) = false ∧ ((v 43 != 0) = false ∧ ((v 42 != 0) = false ∧ ((v 41 != 0) = false ∧ ((v 40 != 0) = false ∧ ((v 39 != 0) = false ∧ ((v 38 != 0) = false ∧ ((v 37 != 0) = false ∧ ((v 36 != 0) = false ∧ ((v 35 != 0) = false ∧ ((v 34 != 0) = false ∧ ((v 33 != 0) = false ∧ ((v 32 != 0) = false ∧ True))))))))))))))))) ∧ outs_Less_15.map (A.ev v) = ([v 48]) := by
  have h := run_eqs (l := l_Less) (g := g_Less_15) (nin := 32) (top := 49) (b := (bs 32 0 4294967295)) (by kernel_rfl) hx
  obtain ⟨v, hv⟩ : ∃ v, vals l_Less g_Less_15 xs = v := ⟨_, rfl⟩
  rw [hv] at h
  exact ⟨v, hv, h.1, Eq.mp (by kernel_rfl) h.2.1, trivial, by kernel_rfl, by kernel_rfl⟩
theorem E_Less_16 (xs : List Int) (hx : InB (bs 32 0 4294967295) xs) : ∃ v : Nat → Int, vals l_Less g_Less_16 xs = v ∧ seg v 0 32 = xs ∧ ((v 32 = op2 .neq .u32 (v 15) (v 31)) ∧ (v 33 = op2 .neq .u32 (v 14) (v 30)) ∧ (v 34 = op2 .neq .u32 (v 13) (v 29)) ∧ (v 35 = op2 .neq .u32 (v 12) (v 28)) ∧ (v 36 = op2 .neq .u32 (v 11) (v 27)) ∧ (v 37 = op2 .neq .u32 (v 10) (v 26)) ∧ (v 38 = op2 .neq .u32 (v 9) (v 25)) ∧ (v 39 = op2 .neq .u32 (v 8) (v 24)) ∧ (v 40 = op2 .neq .u32 (v 7) (v 23)) ∧ (v 41 = op2 .neq .u32 (v 6) (v 22)) ∧ (v 42 = op2 .neq .u32 (v 5) (v 21)) ∧ (v 43 = op2 .neq .u32 (v 4) (v 20)) ∧ (v 44 = op2 .neq .u32 (v 3) (v 19)) ∧ (v 45 = op2 .neq .u32 (v 2) (v 18)) ∧ (v 46 = op2 .neq .u32 (v 1) (v 17)) ∧ (v 47 = op2 .neq .u32 (v 0) (v 16))) ∧ (True) ∧ (CondHold v q_Less_16.asm = ((v 47 != 0) = false ∧ ((v 46 != 0) = false ∧ ((v 45 != 0) = false ∧ ((v 44 != 0) = false ∧ ((v 43 != 0) = false ∧ ((v 42 != 0) = false ∧ ((v 41 != 0) = false ∧ ((v 40 != 0) = false ∧ ((v 39 != 0) = false ∧ ((v 38 != 0) = false ∧ ((v 37 != 0) = false ∧ ((v 36 != 0) = false ∧ ((v 35 != 0) = false ∧ ((v 34 != 0) = false ∧ ((v 33 != 0) = false ∧ ((v 32 != 0) = false ∧ True))))))))))))))))) ∧ outs_Less_16.map (A.ev v) = ([0]) := by
  have h := run_eqs (l := l_Less) (g := g_Less_16) (nin := 32) (top := 48) (b := (bs 32 0 4294967295)) (by kernel_rfl) hx
  obtain ⟨v, hv⟩ : ∃ v, vals l_Less g_Less_16 xs = v := ⟨_, rfl⟩
  rw [hv] at h
  exact ⟨v, hv, h.1, Eq.mp (by kernel_rfl) h.2.1, trivial, by kernel_rfl, by kernel_rfl⟩

end
end Go.X

namespace Go.X

/-! ### which number is less -/

theorem seg_getD {v : Nat → Int} : ∀ {n x : Nat} (i : Nat), i < n → (seg v x n).getD i 0 = v (x + i)
  | 0, _, _, h => absurd h (Nat.not_lt_zero _)
  | _ + 1, _, 0, _ => rfl
  | n + 1, x, i + 1, h => by
    have := seg_getD (v := v) (n := n) (x := x + 1) i (by omega)
    rw [show x + (i + 1) = x + 1 + i from by omega, ← this]
    rfl

theorem neq_t {a b : Int} (h : a ≠ b) : (op2 .neq .u32 a b != 0) = true := by
  have : op2 .neq .u32 a b = b2i (a != b) := rfl
  rw [this, bne_iff_ne.2 h]; rfl

theorem neq_f {a b : Int} (h : a = b) : (op2 .neq .u32 a b != 0) = false := by
  subst h
  have : op2 .neq .u32 a a = b2i (a != a) := rfl
  rw [this, bne_self_eq_false]; rfl

theorem lss_ {a b : Int} : op2 .lss .u32 a b = if a < b then 1 else 0 := by
  have : op2 .lss .u32 a b = b2i (decide (a < b)) := rfl
  rw [this]
  by_cases h : a < b
  · rw [if_pos h, decide_eq_true h]; rfl
  · rw [if_neg h, decide_eq_false h]; rfl

theorem InD_left {b : Int} : ∀ {x y : List Int}, InD b (x ++ y) → InD b x
  | [], _, _ => trivial
  | _ :: _, _, h => ⟨h.1, h.2.1, InD_left h.2.2⟩

theorem InD_right {b : Int} : ∀ {x y : List Int}, InD b (x ++ y) → InD b y
  | [], _, h => h
  | _ :: _, _, h => InD_right h.2.2

theorem less_top {n : Nat} {X Y Z : List Int} {x y : Int} (hX : InD 4294967296 X) (hY : InD 4294967296 Y) (hx : X.length = n) (hy : Y.length = n) (hne : x ≠ y) :
    ofD 4294967296 (X ++ x :: Z) < ofD 4294967296 (Y ++ y :: Z) ↔ x < y := by
  rw [ofD_append, ofD_append, hx, hy]
  obtain ⟨a0, a1⟩ := ofD_bound (by decide) hX
  obtain ⟨b0, b1⟩ := ofD_bound (by decide) hY
  rw [hx] at a1
  rw [hy] at b1
  have e1 : ofD 4294967296 (x :: Z) = x + 4294967296 * ofD 4294967296 Z := rfl
  have e2 : ofD 4294967296 (y :: Z) = y + 4294967296 * ofD 4294967296 Z := rfl
  rw [e1, e2, Int.mul_add, Int.mul_add]
  generalize (4294967296 : Int) ^ n * (4294967296 * ofD 4294967296 Z) = z
  generalize ofD 4294967296 X = a at *
  generalize ofD 4294967296 Y = b at *
  generalize (4294967296 : Int) ^ n = c at *
  constructor
  · intro h
    by_cases hlt : x < y
    · exact hlt
    · exfalso
      have : y + 1 ≤ x := by omega
      have := Int.mul_le_mul_of_nonneg_left this (show 0 ≤ c by omega)
      rw [Int.mul_add] at this
      omega
  · intro h
    have : x + 1 ≤ y := by omega
    have := Int.mul_le_mul_of_nonneg_left this (show 0 ≤ c by omega)
    rw [Int.mul_add] at this
    omega

theorem ite_iff {P Q : Prop} [Decidable P] [Decidable Q] (h : P ↔ Q) : (if P then (1 : Int) else 0) = if Q then 1 else 0 := by
  by_cases hq : Q
  · rw [if_pos hq, if_pos (h.2 hq)]
  · rw [if_neg hq, if_neg (fun hp => hq (h.1 hp))]

def f_Less (xs : List Int) : List Int := [if ofD 4294967296 (xs.take 16) < ofD 4294967296 (xs.drop 16) then 1 else 0]

def s_Less : Sem := Sem.of f_Less bi_Less bo_Less (by
  intro xs _
  unfold f_Less
  by_cases h : ofD 4294967296 (xs.take 16) < ofD 4294967296 (xs.drop 16)
  · rw [if_pos h]; exact ⟨by decide, by decide, trivial⟩
  · rw [if_neg h]; exact ⟨by decide, by decide, trivial⟩)

theorem less_at {v : Nat → Int} {j : Nat} (hj : j < 16) (h1 : InD 4294967296 (seg v 0 16)) (h2 : InD 4294967296 (seg v 16 16)) (he : seg v (j + 1) (15 - j) = seg v (16 + j + 1) (15 - j)) (hne : v j ≠ v (16 + j)) :
    ofD 4294967296 (seg v 0 16) < ofD 4294967296 (seg v 16 16) ↔ v j < v (16 + j) := by
  have e1 : seg v 0 16 = seg v 0 j ++ v j :: seg v (j + 1) (15 - j) := by
    rw [show 16 = j + (1 + (15 - j)) from by omega, seg_add, seg_add, Nat.zero_add]; rfl
  have e2 : seg v 16 16 = seg v 16 j ++ v (16 + j) :: seg v (16 + j + 1) (15 - j) := by
    have : seg v 16 16 = seg v 16 (j + (1 + (15 - j))) := by rw [show j + (1 + (15 - j)) = 16 from by omega]
    rw [this, seg_add, seg_add]; rfl
  rw [e1] at h1
  rw [e2] at h2
  rw [e1, e2, ← he]
  exact less_top (InD_left h1) (InD_left h2) (seg_len _ _ _) (seg_len _ _ _) hne

theorem cov_Less : Covered l_Less s_Less q_Less := by
  intro xs hx
  have hx32 : InB (WB 32) xs := hx
  have hd : InD 4294967296 xs := InB_InD (b := 4294967296) (n := 32) hx32
  have hl : xs.length = 32 := hx32.len
  have key : ∀ {v : Nat → Int}, seg v 0 32 = xs → (∀ i, i < 32 → v i = xs.getD i 0) ∧ s_Less.f xs = [if ofD 4294967296 (seg v 0 16) < ofD 4294967296 (seg v 16 16) then 1 else 0] ∧ InD 4294967296 (seg v 0 16) ∧ InD 4294967296 (seg v 16 16) := by
    intro v hin
    have e0 : seg v 0 16 = xs.take 16 := by rw [← hin, seg_take _ (by decide)]
    have e1 : seg v 16 16 = xs.drop 16 := by rw [← hin, seg_drop _ (by decide)]
    refine ⟨fun i hi => ?_, ?_, ?_, ?_⟩
    · rw [← hin, seg_getD i hi, Nat.zero_add]
    · rw [e0, e1]; rfl
    · rw [e0]; rw [← List.take_append_drop 16 xs] at hd; exact InD_left hd
    · have : InD 4294967296 (seg v 0 16 ++ seg v 16 16) := by rw [← seg_add]; rw [hin]; exact hd
      exact InD_right this
  by_cases e15 : xs.getD 15 0 = xs.getD 31 0
  case neg =>
    obtain ⟨v, hv, hin, ⟨h32, h33⟩, -, hc, ho⟩ := E_Less_0 xs hx
    obtain ⟨hg, hs, d1, d2⟩ := key hin
    refine ⟨q_Less_0, List.mem_of_getElem? (show q_Less[0]? = some q_Less_0 from rfl), hx, ?_, ?_⟩
    · show CondHold (vals l_Less g_Less_0 xs) _
      rw [hv, hc]; exact ⟨(by rw [h32]; exact neq_t (by rw [hg 15 (by decide), hg 31 (by decide)]; exact e15)), trivial⟩
    · show _ = outs_Less_0.map (A.ev (vals l_Less g_Less_0 xs))
      have he : seg v 16 0 = seg v 32 0 := by
        rfl
      have hk := less_at (j := 15) (by decide) d1 d2 he (by rw [hg 15 (by decide), hg (16 + 15) (by decide)]; exact e15)
      rw [hv, ho, hs, h33, lss_, ite_iff hk]
  by_cases e14 : xs.getD 14 0 = xs.getD 30 0
  case neg =>
    obtain ⟨v, hv, hin, ⟨h32, h33, h34⟩, -, hc, ho⟩ := E_Less_1 xs hx
    obtain ⟨hg, hs, d1, d2⟩ := key hin
    refine ⟨q_Less_1, List.mem_of_getElem? (show q_Less[1]? = some q_Less_1 from rfl), hx, ?_, ?_⟩
    · show CondHold (vals l_Less g_Less_1 xs) _
      rw [hv, hc]; exact ⟨(by rw [h33]; exact neq_t (by rw [hg 14 (by decide), hg 30 (by decide)]; exact e14)), (by rw [h32]; exact neq_f (by rw [hg 15 (by decide), hg 31 (by decide)]; exact e15)), trivial⟩
    · show _ = outs_Less_1.map (A.ev (vals l_Less g_Less_1 xs))
      have he : seg v 15 1 = seg v 31 1 := by
        show [v 15] = [v 31]
        rw [show v 15 = v 31 from by rw [hg 15 (by decide), hg 31 (by decide)]; exact e15]
      have hk := less_at (j := 14) (by decide) d1 d2 he (by rw [hg 14 (by decide), hg (16 + 14) (by decide)]; exact e14)
      rw [hv, ho, hs, h34, lss_, ite_iff hk]
  by_cases e13 : xs.getD 13 0 = xs.getD 29 0
  case neg =>
    obtain ⟨v, hv, hin, ⟨h32, h33, h34, h35⟩, -, hc, ho⟩ := E_Less_2 xs hx
    obtain ⟨hg, hs, d1, d2⟩ := key hin
    refine ⟨q_Less_2, List.mem_of_getElem? (show q_Less[2]? = some q_Less_2 from rfl), hx, ?_, ?_⟩
    · show CondHold (vals l_Less g_Less_2 xs) _
      rw [hv, hc]; exact ⟨(by rw [h34]; exact neq_t (by rw [hg 13 (by decide), hg 29 (by decide)]; exact e13)), (by rw [h33]; exact neq_f (by rw [hg 14 (by decide), hg 30 (by decide)]; exact e14)), (by rw [h32]; exact neq_f (by rw [hg 15 (by decide), hg 31 (by decide)]; exact e15)), trivial⟩
    · show _ = outs_Less_2.map (A.ev (vals l_Less g_Less_2 xs))
      have he : seg v 14 2 = seg v 30 2 := by
        show [v 14, v 15] = [v 30, v 31]
        rw [show v 14 = v 30 from by rw [hg 14 (by decide), hg 30 (by decide)]; exact e14, show v 15 = v 31 from by rw [hg 15 (by decide), hg 31 (by decide)]; exact e15]
      have hk := less_at (j := 13) (by decide) d1 d2 he (by rw [hg 13 (by decide), hg (16 + 13) (by decide)]; exact e13)
      rw [hv, ho, hs, h35, lss_, ite_iff hk]
  by_cases e12 : xs.getD 12 0 = xs.getD 28 0
  case neg =>
    obtain ⟨v, hv, hin, ⟨h32, h33, h34, h35, h36⟩, -, hc, ho⟩ := E_Less_3 xs hx
    obtain ⟨hg, hs, d1, d2⟩ := key hin
    refine ⟨q_Less_3, List.mem_of_getElem? (show q_Less[3]? = some q_Less_3 from rfl), hx, ?_, ?_⟩
    · show CondHold (vals l_Less g_Less_3 xs) _
      rw [hv, hc]; exact ⟨(by rw [h35]; exact neq_t (by rw [hg 12 (by decide), hg 28 (by decide)]; exact e12)), (by rw [h34]; exact neq_f (by rw [hg 13 (by decide), hg 29 (by decide)]; exact e13)), (by rw [h33]; exact neq_f (by rw [hg 14 (by decide), hg 30 (by decide)]; exact e14)), (by rw [h32]; exact neq_f (by rw [hg 15 (by decide), hg 31 (by decide)]; exact e15)), trivial⟩
    · show _ = outs_Less_3.map (A.ev (vals l_Less g_Less_3 xs))
      have he : seg v 13 3 = seg v 29 3 := by
        show [v 13, v 14, v 15] = [v 29, v 30, v 31]
        rw [show v 13 = v 29 from by rw [hg 13 (by decide), hg 29 (by decide)]; exact e13, show v 14 = v 30 from by rw [hg 14 (by decide), hg 30 (by decide)]; exact e14, show v 15 = v 31 from by rw [hg 15 (by decide), hg 31 (by decide)]; exact e15]
      have hk := less_at (j := 12) (by decide) d1 d2 he (by rw [hg 12 (by decide), hg (16 + 12) (by decide)]; exact e12)
      rw [hv, ho, hs, h36, lss_, ite_iff hk]
  by_cases e11 : xs.getD 11 0 = xs.getD 27 0
  case neg =>
    obtain ⟨v, hv, hin, ⟨h32, h33, h34, h35, h36, h37⟩, -, hc, ho⟩ := E_Less_4 xs hx
    obtain ⟨hg, hs, d1, d2⟩ := key hin
    refine ⟨q_Less_4, List.mem_of_getElem? (show q_Less[4]? = some q_Less_4 from rfl), hx, ?_, ?_⟩
    · show CondHold (vals l_Less g_Less_4 xs) _
      rw [hv, hc]; exact ⟨(by rw [h36]; exact neq_t (by rw [hg 11 (by decide), hg 27 (by decide)]; exact e11)), (by rw [h35]; exact neq_f (by rw [hg 12 (by decide), hg 28 (by decide)]; exact e12)), (by rw [h34]; exact neq_f (by rw [hg 13 (by decide), hg 29 (by decide)]; exact e13)), (by rw [h33]; exact neq_f (by rw [hg 14 (by decide), hg 30 (by decide)]; exact e14)), (by rw [h32]; exact neq_f (by rw [hg 15 (by decide), hg 31 (by decide)]; exact e15)), trivial⟩
    · show _ = outs_Less_4.map (A.ev (vals l_Less g_Less_4 xs))
      have he : seg v 12 4 = seg v 28 4 := by
        show [v 12, v 13, v 14, v 15] = [v 28, v 29, v 30, v 31]
        rw [show v 12 = v 28 from by rw [hg 12 (by decide), hg 28 (by decide)]; exact e12, show v 13 = v 29 from by rw [hg 13 (by decide), hg 29 (by decide)]; exact e13, show v 14 = v 30 from by rw [hg 14 (by decide), hg 30 (by decide)]; exact e14, show v 15 = v 31 from by rw [hg 15 (by decide), hg 31 (by decide)]; exact e15]
      have hk := less_at (j := 11) (by decide) d1 d2 he (by rw [hg 11 (by decide), hg (16 + 11) (by decide)]; exact e11)
      rw [hv, ho, hs, h37, lss_, ite_iff hk]
  by_cases e10 : xs.getD 10 0 = xs.getD 26 0
  case neg =>
    obtain ⟨v, hv, hin, ⟨h32, h33, h34, h35, h36, h37, h38⟩, -, hc, ho⟩ := E_Less_5 xs hx
    obtain ⟨hg, hs, d1, d2⟩ := key hin
    refine ⟨q_Less_5, List.mem_of_getElem? (show q_Less[5]? = some q_Less_5 from rfl), hx, ?_, ?_⟩
    · show CondHold (vals l_Less g_Less_5 xs) _
      rw [hv, hc]; exact ⟨(by rw [h37]; exact neq_t (by rw [hg 10 (by decide), hg 26 (by decide)]; exact e10)), (by rw [h36]; exact neq_f (by rw [hg 11 (by decide), hg 27 (by decide)]; exact e11)), (by rw [h35]; exact neq_f (by rw [hg 12 (by decide), hg 28 (by decide)]; exact e12)), (by rw [h34]; exact neq_f (by rw [hg 13 (by decide), hg 29 (by decide)]; exact e13)), (by rw [h33]; exact neq_f (by rw [hg 14 (by decide), hg 30 (by decide)]; exact e14)), (by rw [h32]; exact neq_f (by rw [hg 15 (by decide), hg 31 (by decide)]; exact e15)), trivial⟩
    · show _ = outs_Less_5.map (A.ev (vals l_Less g_Less_5 xs))
      have he : seg v 11 5 = seg v 27 5 := by
        show [v 11, v 12, v 13, v 14, v 15] = [v 27, v 28, v 29, v 30, v 31]
        rw [show v 11 = v 27 from by rw [hg 11 (by decide), hg 27 (by decide)]; exact e11, show v 12 = v 28 from by rw [hg 12 (by decide), hg 28 (by decide)]; exact e12, show v 13 = v 29 from by rw [hg 13 (by decide), hg 29 (by decide)]; exact e13, show v 14 = v 30 from by rw [hg 14 (by decide), hg 30 (by decide)]; exact e14, show v 15 = v 31 from by rw [hg 15 (by decide), hg 31 (by decide)]; exact e15]
      have hk := less_at (j := 10) (by decide) d1 d2 he (by rw [hg 10 (by decide), hg (16 + 10) (by decide)]; exact e10)
      rw [hv, ho, hs, h38, lss_, ite_iff hk]
  by_cases e9 : xs.getD 9 0 = xs.getD 25 0
  case neg =>
    obtain ⟨v, hv, hin, ⟨h32, h33, h34, h35, h36, h37, h38, h39⟩, -, hc, ho⟩ := E_Less_6 xs hx
    obtain ⟨hg, hs, d1, d2⟩ := key hin
    refine ⟨q_Less_6, List.mem_of_getElem? (show q_Less[6]? = some q_Less_6 from rfl), hx, ?_, ?_⟩
    · show CondHold (vals l_Less g_Less_6 xs) _
      rw [hv, hc]; exact ⟨(by rw [h38]; exact neq_t (by rw [hg 9 (by decide), hg 25 (by decide)]; exact e9)), (by rw [h37]; exact neq_f (by rw [hg 10 (by decide), hg 26 (by decide)]; exact e10)), (by rw [h36]; exact neq_f (by rw [hg 11 (by decide), hg 27 (by decide)]; exact e11)), (by rw [h35]; exact neq_f (by rw [hg 12 (by decide), hg 28 (by decide)]; exact e12)), (by rw [h34]; exact neq_f (by rw [hg 13 (by decide), hg 29 (by decide)]; exact e13)), (by rw [h33]; exact neq_f (by rw [hg 14 (by decide), hg 30 (by decide)]; exact e14)), (by rw [h32]; exact neq_f (by rw [hg 15 (by decide), hg 31 (by decide)]; exact e15)), trivial⟩
    · show _ = outs_Less_6.map (A.ev (vals l_Less g_Less_6 xs))
      have he : seg v 10 6 = seg v 26 6 := by
        show [v 10, v 11, v 12, v 13, v 14, v 15] = [v 26, v 27, v 28, v 29, v 30, v 31]
        rw [show v 10 = v 26 from by rw [hg 10 (by decide), hg 26 (by decide)]; exact e10, show v 11 = v 27 from by rw [hg 11 (by decide), hg 27 (by decide)]; exact e11, show v 12 = v 28 from by rw [hg 12 (by decide), hg 28 (by decide)]; exact e12, show v 13 = v 29 from by rw [hg 13 (by decide), hg 29 (by decide)]; exact e13, show v 14 = v 30 from by rw [hg 14 (by decide), hg 30 (by decide)]; exact e14, show v 15 = v 31 from by rw [hg 15 (by decide), hg 31 (by decide)]; exact e15]
      have hk := less_at (j := 9) (by decide) d1 d2 he (by rw [hg 9 (by decide), hg (16 + 9) (by decide)]; exact e9)
      rw [hv, ho, hs, h39, lss_, ite_iff hk]
  by_cases e8 : xs.getD 8 0 = xs.getD 24 0
  case neg =>
    obtain ⟨v, hv, hin, ⟨h32, h33, h34, h35, h36, h37, h38, h39, h40⟩, -, hc, ho⟩ := E_Less_7 xs hx
    obtain ⟨hg, hs, d1, d2⟩ := key hin
    refine ⟨q_Less_7, List.mem_of_getElem? (show q_Less[7]? = some q_Less_7 from rfl), hx, ?_, ?_⟩
    · show CondHold (vals l_Less g_Less_7 xs) _
      rw [hv, hc]; exact ⟨(by rw [h39]; exact neq_t (by rw [hg 8 (by decide), hg 24 (by decide)]; exact e8)), (by rw [h38]; exact neq_f (by rw [hg 9 (by decide), hg 25 (by decide)]; exact e9)), (by rw [h37]; exact neq_f (by rw [hg 10 (by decide), hg 26 (by decide)]; exact e10)), (by rw [h36]; exact neq_f (by rw [hg 11 (by decide), hg 27 (by decide)]; exact e11)), (by rw [h35]; exact neq_f (by rw [hg 12 (by decide), hg 28 (by decide)]; exact e12)), (by rw [h34]; exact neq_f (by rw [hg 13 (by decide), hg 29 (by decide)]; exact e13)), (by rw [h33]; exact neq_f (by rw [hg 14 (by decide), hg 30 (by decide)]; exact e14)), (by rw [h32]; exact neq_f (by rw [hg 15 (by decide), hg 31 (by decide)]; exact e15)), trivial⟩
    · show _ = outs_Less_7.map (A.ev (vals l_Less g_Less_7 xs))
      have he : seg v 9 7 = seg v 25 7 := by
        show [v 9, v 10, v 11, v 12, v 13, v 14, v 15] = [v 25, v 26, v 27, v 28, v 29, v 30, v 31]
        rw [show v 9 = v 25 from by rw [hg 9 (by decide), hg 25 (by decide)]; exact e9, show v 10 = v 26 from by rw [hg 10 (by decide), hg 26 (by decide)]; exact e10, show v 11 = v 27 from by rw [hg 11 (by decide), hg 27 (by decide)]; exact e11, show v 12 = v 28 from by rw [hg 12 (by decide), hg 28 (by decide)]; exact e12, show v 13 = v 29 from by rw [hg 13 (by decide), hg 29 (by decide)]; exact e13, show v 14 = v 30 from by rw [hg 14 (by decide), hg 30 (by decide)]; exact e14, show v 15 = v 31 from by rw [hg 15 (by decide), hg 31 (by decide)]; exact e15]
      have hk := less_at (j := 8) (by decide) d1 d2 he (by rw [hg 8 (by decide), hg (16 + 8) (by decide)]; exact e8)
      rw [hv, ho, hs, h40, lss_, ite_iff hk]
  by_cases e7 : xs.getD 7 0 = xs.getD 23 0
  case neg =>
    obtain ⟨v, hv, hin, ⟨h32, h33, h34, h35, h36, h37, h38, h39, h40, h41⟩, -, hc, ho⟩ := E_Less_8 xs hx
    obtain ⟨hg, hs, d1, d2⟩ := key hin
    refine ⟨q_Less_8, List.mem_of_getElem? (show q_Less[8]? = some q_Less_8 from rfl), hx, ?_, ?_⟩
    · show CondHold (vals l_Less g_Less_8 xs) _
      rw [hv, hc]; exact ⟨(by rw [h40]; exact neq_t (by rw [hg 7 (by decide), hg 23 (by decide)]; exact e7)), (by rw [h39]; exact neq_f (by rw [hg 8 (by decide), hg 24 (by decide)]; exact e8)), (by rw [h38]; exact neq_f (by rw [hg 9 (by decide), hg 25 (by decide)]; exact e9)), (by rw [h37]; exact neq_f (by rw [hg 10 (by decide), hg 26 (by decide)]; exact e10)), (by rw [h36]; exact neq_f (by rw [hg 11 (by decide), hg 27 (by decide)]; exact e11)), (by rw [h35]; exact neq_f (by rw [hg 12 (by decide), hg 28 (by decide)]; exact e12)), (by rw [h34]; exact neq_f (by rw [hg 13 (by decide), hg 29 (by decide)]; exact e13)), (by rw [h33]; exact neq_f (by rw [hg 14 (by decide), hg 30 (by decide)]; exact e14)), (by rw [h32]; exact neq_f (by rw [hg 15 (by decide), hg 31 (by decide)]; exact e15)), trivial⟩
    · show _ = outs_Less_8.map (A.ev (vals l_Less g_Less_8 xs))
      have he : seg v 8 8 = seg v 24 8 := by
        show [v 8, v 9, v 10, v 11, v 12, v 13, v 14, v 15] = [v 24, v 25, v 26, v 27, v 28, v 29, v 30, v 31]
        rw [show v 8 = v 24 from by rw [hg 8 (by decide), hg 24 (by decide)]; exact e8, show v 9 = v 25 from by rw [hg 9 (by decide), hg 25 (by decide)]; exact e9, show v 10 = v 26 from by rw [hg 10 (by decide), hg 26 (by decide)]; exact e10, show v 11 = v 27 from by rw [hg 11 (by decide), hg 27 (by decide)]; exact e11, show v 12 = v 28 from by rw [hg 12 (by decide), hg 28 (by decide)]; exact e12, show v 13 = v 29 from by rw [hg 13 (by decide), hg 29 (by decide)]; exact e13, show v 14 = v 30 from by rw [hg 14 (by decide), hg 30 (by decide)]; exact e14, show v 15 = v 31 from by rw [hg 15 (by decide), hg 31 (by decide)]; exact e15]
      have hk := less_at (j := 7) (by decide) d1 d2 he (by rw [hg 7 (by decide), hg (16 + 7) (by decide)]; exact e7)
      rw [hv, ho, hs, h41, lss_, ite_iff hk]
  by_cases e6 : xs.getD 6 0 = xs.getD 22 0
  case neg =>
    obtain ⟨v, hv, hin, ⟨h32, h33, h34, h35, h36, h37, h38, h39, h40, h41, h42⟩, -, hc, ho⟩ := E_Less_9 xs hx
    obtain ⟨hg, hs, d1, d2⟩ := key hin
    refine ⟨q_Less_9, List.mem_of_getElem? (show q_Less[9]? = some q_Less_9 from rfl), hx, ?_, ?_⟩
    · show CondHold (vals l_Less g_Less_9 xs) _
      rw [hv, hc]; exact ⟨(by rw [h41]; exact neq_t (by rw [hg 6 (by decide), hg 22 (by decide)]; exact e6)), (by rw [h40]; exact neq_f (by rw [hg 7 (by decide), hg 23 (by decide)]; exact e7)), (by rw [h39]; exact neq_f (by rw [hg 8 (by decide), hg 24 (by decide)]; exact e8)), (by rw [h38]; exact neq_f (by rw [hg 9 (by decide), hg 25 (by decide)]; exact e9)), (by rw [h37]; exact neq_f (by rw [hg 10 (by decide), hg 26 (by decide)]; exact e10)), (by rw [h36]; exact neq_f (by rw [hg 11 (by decide), hg 27 (by decide)]; exact e11)), (by rw [h35]; exact neq_f (by rw [hg 12 (by decide), hg 28 (by decide)]; exact e12)), (by rw [h34]; exact neq_f (by rw [hg 13 (by decide), hg 29 (by decide)]; exact e13)), (by rw [h33]; exact neq_f (by rw [hg 14 (by decide), hg 30 (by decide)]; exact e14)), (by rw [h32]; exact neq_f (by rw [hg 15 (by decide), hg 31 (by decide)]; exact e15)), trivial⟩
    · show _ = outs_Less_9.map (A.ev (vals l_Less g_Less_9 xs))
      have he : seg v 7 9 = seg v 23 9 := by
        show [v 7, v 8, v 9, v 10, v 11, v 12, v 13, v 14, v 15] = [v 23, v 24, v 25, v 26, v 27, v 28, v 29, v 30, v 31]
        rw [show v 7 = v 23 from by rw [hg 7 (by decide), hg 23 (by decide)]; exact e7, show v 8 = v 24 from by rw [hg 8 (by decide), hg 24 (by decide)]; exact e8, show v 9 = v 25 from by rw [hg 9 (by decide), hg 25 (by decide)]; exact e9, show v 10 = v 26 from by rw [hg 10 (by decide), hg 26 (by decide)]; exact e10, show v 11 = v 27 from by rw [hg 11 (by decide), hg 27 (by decide)]; exact e11, show v 12 = v 28 from by rw [hg 12 (by decide), hg 28 (by decide)]; exact e12, show v 13 = v 29 from by rw [hg 13 (by decide), hg 29 (by decide)]; exact e13, show v 14 = v 30 from by rw [hg 14 (by decide), hg 30 (by decide)]; exact e14, show v 15 = v 31 from by rw [hg 15 (by decide), hg 31 (by decide)]; exact e15]
      have hk := less_at (j := 6) (by decide) d1 d2 he (by rw [hg 6 (by decide), hg (16 + 6) (by decide)]; exact e6)
      rw [hv, ho, hs, h42, lss_, ite_iff hk]
  by_cases e5 : xs.getD 5 0 = xs.getD 21 0
  case neg =>
    obtain ⟨v, hv, hin, ⟨h32, h33, h34, h35, h36, h37, h38, h39, h40, h41, h42, h43⟩, -, hc, ho⟩ := E_Less_10 xs hx
    obtain ⟨hg, hs, d1, d2⟩ := key hin
    refine ⟨q_Less_10, List.mem_of_getElem? (show q_Less[10]? = some q_Less_10 from rfl), hx, ?_, ?_⟩
    · show CondHold (vals l_Less g_Less_10 xs) _
      rw [hv, hc]; exact ⟨(by rw [h42]; exact neq_t (by rw [hg 5 (by decide), hg 21 (by decide)]; exact e5)), (by rw [h41]; exact neq_f (by rw [hg 6 (by decide), hg 22 (by decide)]; exact e6)), (by rw [h40]; exact neq_f (by rw [hg 7 (by decide), hg 23 (by decide)]; exact e7)), (by rw [h39]; exact neq_f (by rw [hg 8 (by decide), hg 24 (by decide)]; exact e8)), (by rw [h38]; exact neq_f (by rw [hg 9 (by decide), hg 25 (by decide)]; exact e9)), (by rw [h37]; exact neq_f (by rw [hg 10 (by decide), hg 26 (by decide)]; exact e10)), (by rw [h36]; exact neq_f (by rw [hg 11 (by decide), hg 27 (by decide)]; exact e11)), (by rw [h35]; exact neq_f (by rw [hg 12 (by decide), hg 28 (by decide)]; exact e12)), (by rw [h34]; exact neq_f (by rw [hg 13 (by decide), hg 29 (by decide)]; exact e13)), (by rw [h33]; exact neq_f (by rw [hg 14 (by decide), hg 30 (by decide)]; exact e14)), (by rw [h32]; exact neq_f (by rw [hg 15 (by decide), hg 31 (by decide)]; exact e15)), trivial⟩
    · show _ = outs_Less_10.map (A.ev (vals l_Less g_Less_10 xs))
      have he : seg v 6 10 = seg v 22 10 := by
        show [v 6, v 7, v 8, v 9, v 10, v 11, v 12, v 13, v 14, v 15] = [v 22, v 23, v 24, v 25, v 26, v 27, v 28, v 29, v 30, v 31]
        rw [show v 6 = v 22 from by rw [hg 6 (by decide), hg 22 (by decide)]; exact e6, show v 7 = v 23 from by rw [hg 7 (by decide), hg 23 (by decide)]; exact e7, show v 8 = v 24 from by rw [hg 8 (by decide), hg 24 (by decide)]; exact e8, show v 9 = v 25 from by rw [hg 9 (by decide), hg 25 (by decide)]; exact e9, show v 10 = v 26 from by rw [hg 10 (by decide), hg 26 (by decide)]; exact e10, show v 11 = v 27 from by rw [hg 11 (by decide), hg 27 (by decide)]; exact e11, show v 12 = v 28 from by rw [hg 12 (by decide), hg 28 (by decide)]; exact e12, show v 13 = v 29 from by rw [hg 13 (by decide), hg 29 (by decide)]; exact e13, show v 14 = v 30 from by rw [hg 14 (by decide), hg 30 (by decide)]; exact e14, show v 15 = v 31 from by rw [hg 15 (by decide), hg 31 (by decide)]; exact e15]
      have hk := less_at (j := 5) (by decide) d1 d2 he (by rw [hg 5 (by decide), hg (16 + 5) (by decide)]; exact e5)
      rw [hv, ho, hs, h43, lss_, ite_iff hk]
  by_cases e4 : xs.getD 4 0 = xs.getD 20 0
  case neg =>
    obtain ⟨v, hv, hin, ⟨h32, h33, h34, h35, h36, h37, h38, h39, h40, h41, h42, h43, h44⟩, -, hc, ho⟩ := E_Less_11 xs hx
    obtain ⟨hg, hs, d1, d2⟩ := key hin
    refine ⟨q_Less_11, List.mem_of_getElem? (show q_Less[11]? = some q_Less_11 from rfl), hx, ?_, ?_⟩
    · show CondHold (vals l_Less g_Less_11 xs) _
      rw [hv, hc]; exact ⟨(by rw [h43]; exact neq_t (by rw [hg 4 (by decide), hg 20 (by decide)]; exact e4)), (by rw [h42]; exact neq_f (by rw [hg 5 (by decide), hg 21 (by decide)]; exact e5)), (by rw [h41]; exact neq_f (by rw [hg 6 (by decide), hg 22 (by decide)]; exact e6)), (by rw [h40]; exact neq_f (by rw [hg 7 (by decide), hg 23 (by decide)]; exact e7)), (by rw [h39]; exact neq_f (by rw [hg 8 (by decide), hg 24 (by decide)]; exact e8)), (by rw [h38]; exact neq_f (by rw [hg 9 (by decide), hg 25 (by decide)]; exact e9)), (by rw [h37]; exact neq_f (by rw [hg 10 (by decide), hg 26 (by decide)]; exact e10)), (by rw [h36]; exact neq_f (by rw [hg 11 (by decide), hg 27 (by decide)]; exact e11)), (by rw [h35]; exact neq_f (by rw [hg 12 (by decide), hg 28 (by decide)]; exact e12)), (by rw [h34]; exact neq_f (by rw [hg 13 (by decide), hg 29 (by decide)]; exact e13)), (by rw [h33]; exact neq_f (by rw [hg 14 (by decide), hg 30 (by decide)]; exact e14)), (by rw [h32]; exact neq_f (by rw [hg 15 (by decide), hg 31 (by decide)]; exact e15)), trivial⟩
    · show _ = outs_Less_11.map (A.ev (vals l_Less g_Less_11 xs))
      have he : seg v 5 11 = seg v 21 11 := by
        show [v 5, v 6, v 7, v 8, v 9, v 10, v 11, v 12, v 13, v 14, v 15] = [v 21, v 22, v 23, v 24, v 25, v 26, v 27, v 28, v 29, v 30, v 31]
        rw [show v 5 = v 21 from by rw [hg 5 (by decide), hg 21 (by decide)]; exact e5, show v 6 = v 22 from by rw [hg 6 (by decide), hg 22 (by decide)]; exact e6, show v 7 = v 23 from by rw [hg 7 (by decide), hg 23 (by decide)]; exact e7, show v 8 = v 24 from by rw [hg 8 (by decide), hg 24 (by decide)]; exact e8, show v 9 = v 25 from by rw [hg 9 (by decide), hg 25 (by decide)]; exact e9, show v 10 = v 26 from by rw [hg 10 (by decide), hg 26 (by decide)]; exact e10, show v 11 = v 27 from by rw [hg 11 (by decide), hg 27 (by decide)]; exact e11, show v 12 = v 28 from by rw [hg 12 (by decide), hg 28 (by decide)]; exact e12, show v 13 = v 29 from by rw [hg 13 (by decide), hg 29 (by decide)]; exact e13, show v 14 = v 30 from by rw [hg 14 (by decide), hg 30 (by decide)]; exact e14, show v 15 = v 31 from by rw [hg 15 (by decide), hg 31 (by decide)]; exact e15]
      have hk := less_at (j := 4) (by decide) d1 d2 he (by rw [hg 4 (by decide), hg (16 + 4) (by decide)]; exact e4)
      rw [hv, ho, hs, h44, lss_, ite_iff hk]
  by_cases e3 : xs.getD 3 0 = xs.getD 19 0
  case neg =>
    obtain ⟨v, hv, hin, ⟨h32, h33, h34, h35, h36, h37, h38, h39, h40, h41, h42, h43, h44, h45⟩, -, hc, ho⟩ := E_Less_12 xs hx
    obtain ⟨hg, hs, d1, d2⟩ := key hin
    refine ⟨q_Less_12, List.mem_of_getElem? (show q_Less[12]? = some q_Less_12 from rfl), hx, ?_, ?_⟩
    · show CondHold (vals l_Less g_Less_12 xs) _
      rw [hv, hc]; exact ⟨(by rw [h44]; exact neq_t (by rw [hg 3 (by decide), hg 19 (by decide)]; exact e3)), (by rw [h43]; exact neq_f (by rw [hg 4 (by decide), hg 20 (by decide)]; exact e4)), (by rw [h42]; exact neq_f (by rw [hg 5 (by decide), hg 21 (by decide)]; exact e5)), (by rw [h41]; exact neq_f (by rw [hg 6 (by decide), hg 22 (by decide)]; exact e6)), (by rw [h40]; exact neq_f (by rw [hg 7 (by decide), hg 23 (by decide)]; exact e7)), (by rw [h39]; exact neq_f (by rw [hg 8 (by decide), hg 24 (by decide)]; exact e8)), (by rw [h38]; exact neq_f (by rw [hg 9 (by decide), hg 25 (by decide)]; exact e9)), (by rw [h37]; exact neq_f (by rw [hg 10 (by decide), hg 26 (by decide)]; exact e10)), (by rw [h36]; exact neq_f (by rw [hg 11 (by decide), hg 27 (by decide)]; exact e11)), (by rw [h35]; exact neq_f (by rw [hg 12 (by decide), hg 28 (by decide)]; exact e12)), (by rw [h34]; exact neq_f (by rw [hg 13 (by decide), hg 29 (by decide)]; exact e13)), (by rw [h33]; exact neq_f (by rw [hg 14 (by decide), hg 30 (by decide)]; exact e14)), (by rw [h32]; exact neq_f (by rw [hg 15 (by decide), hg 31 (by decide)]; exact e15)), trivial⟩
    · show _ = outs_Less_12.map (A.ev (vals l_Less g_Less_12 xs))
      have he : seg v 4 12 = seg v 20 12 := by
        show [v 4, v 5, v 6, v 7, v 8, v 9, v 10, v 11, v 12, v 13, v 14, v 15] = [v 20, v 21, v 22, v 23, v 24, v 25, v 26, v 27, v 28, v 29, v 30, v 31]
        rw [show v 4 = v 20 from by rw [hg 4 (by decide), hg 20 (by decide)]; exact e4, show v 5 = v 21 from by rw [hg 5 (by decide), hg 21 (by decide)]; exact e5, show v 6 = v 22 from by rw [hg 6 (by decide), hg 22 (by decide)]; exact e6, show v 7 = v 23 from by rw [hg 7 (by decide), hg 23 (by decide)]; exact e7, show v 8 = v 24 from by rw [hg 8 (by decide), hg 24 (by decide)]; exact e8, show v 9 = v 25 from by rw [hg 9 (by decide), hg 25 (by decide)]; exact e9, show v 10 = v 26 from by rw [hg 10 (by decide), hg 26 (by decide)]; exact e10, show v 11 = v 27 from by rw [hg 11 (by decide), hg 27 (by decide)]; exact e11, show v 12 = v 28 from by rw [hg 12 (by decide), hg 28 (by decide)]; exact e12, show v 13 = v 29 from by rw [hg 13 (by decide), hg 29 (by decide)]; exact e13, show v 14 = v 30 from by rw [hg 14 (by decide), hg 30 (by decide)]; exact e14, show v 15 = v 31 from by rw [hg 15 (by decide), hg 31 (by decide)]; exact e15]
      have hk := less_at (j := 3) (by decide) d1 d2 he (by rw [hg 3 (by decide), hg (16 + 3) (by decide)]; exact e3)
      rw [hv, ho, hs, h45, lss_, ite_iff hk]
  by_cases e2 : xs.getD 2 0 = xs.getD 18 0
  case neg =>
    obtain ⟨v, hv, hin, ⟨h32, h33, h34, h35, h36, h37, h38, h39, h40, h41, h42, h43, h44, h45, h46⟩, -, hc, ho⟩ := E_Less_13 xs hx
    obtain ⟨hg, hs, d1, d2⟩ := key hin
    refine ⟨q_Less_13, List.mem_of_getElem? (show q_Less[13]? = some q_Less_13 from rfl), hx, ?_, ?_⟩
    · show CondHold (vals l_Less g_Less_13 xs) _
      rw [hv, hc]; exact ⟨(by rw [h45]; exact neq_t (by rw [hg 2 (by decide), hg 18 (by decide)]; exact e2)), (by rw [h44]; exact neq_f (by rw [hg 3 (by decide), hg 19 (by decide)]; exact e3)), (by rw [h43]; exact neq_f (by rw [hg 4 (by decide), hg 20 (by decide)]; exact e4)), (by rw [h42]; exact neq_f (by rw [hg 5 (by decide), hg 21 (by decide)]; exact e5)), (by rw [h41]; exact neq_f (by rw [hg 6 (by decide), hg 22 (by decide)]; exact e6)), (by rw [h40]; exact neq_f (by rw [hg 7 (by decide), hg 23 (by decide)]; exact e7)), (by rw [h39]; exact neq_f (by rw [hg 8 (by decide), hg 24 (by decide)]; exact e8)), (by rw [h38]; exact neq_f (by rw [hg 9 (by decide), hg 25 (by decide)]; exact e9)), (by rw [h37]; exact neq_f (by rw [hg 10 (by decide), hg 26 (by decide)]; exact e10)), (by rw [h36]; exact neq_f (by rw [hg 11 (by decide), hg 27 (by decide)]; exact e11)), (by rw [h35]; exact neq_f (by rw [hg 12 (by decide), hg 28 (by decide)]; exact e12)), (by rw [h34]; exact neq_f (by rw [hg 13 (by decide), hg 29 (by decide)]; exact e13)), (by rw [h33]; exact neq_f (by rw [hg 14 (by decide), hg 30 (by decide)]; exact e14)), (by rw [h32]; exact neq_f (by rw [hg 15 (by decide), hg 31 (by decide)]; exact e15)), trivial⟩
    · show _ = outs_Less_13.map (A.ev (vals l_Less g_Less_13 xs))
      have he : seg v 3 13 = seg v 19 13 := by
        show [v 3, v 4, v 5, v 6, v 7, v 8, v 9, v 10, v 11, v 12, v 13, v 14, v 15] = [v 19, v 20, v 21, v 22, v 23, v 24, v 25, v 26, v 27, v 28, v 29, v 30, v 31]
        rw [show v 3 = v 19 from by rw [hg 3 (by decide), hg 19 (by decide)]; exact e3, show v 4 = v 20 from by rw [hg 4 (by decide), hg 20 (by decide)]; exact e4, show v 5 = v 21 from by rw [hg 5 (by decide), hg 21 (by decide)]; exact e5, show v 6 = v 22 from by rw [hg 6 (by decide), hg 22 (by decide)]; exact e6, show v 7 = v 23 from by rw [hg 7 (by decide), hg 23 (by decide)]; exact e7, show v 8 = v 24 from by rw [hg 8 (by decide), hg 24 (by decide)]; exact e8, show v 9 = v 25 from by rw [hg 9 (by decide), hg 25 (by decide)]; exact e9, show v 10 = v 26 from by rw [hg 10 (by decide), hg 26 (by decide)]; exact e10, show v 11 = v 27 from by rw [hg 11 (by decide), hg 27 (by decide)]; exact e11, show v 12 = v 28 from by rw [hg 12 (by decide), hg 28 (by decide)]; exact e12, show v 13 = v 29 from by rw [hg 13 (by decide), hg 29 (by decide)]; exact e13, show v 14 = v 30 from by rw [hg 14 (by decide), hg 30 (by decide)]; exact e14, show v 15 = v 31 from by rw [hg 15 (by decide), hg 31 (by decide)]; exact e15]
      have hk := less_at (j := 2) (by decide) d1 d2 he (by rw [hg 2 (by decide), hg (16 + 2) (by decide)]; exact e2)
      rw [hv, ho, hs, h46, lss_, ite_iff hk]
  by_cases e1 : xs.getD 1 0 = xs.getD 17 0
  case neg =>
    obtain ⟨v, hv, hin, ⟨h32, h33, h34, h35, h36, h37, h38, h39, h40, h41, h42, h43, h44, h45, h46, h47⟩, -, hc, ho⟩ := E_Less_14 xs hx
    obtain ⟨hg, hs, d1, d2⟩ := key hin
    refine ⟨q_Less_14, List.mem_of_getElem? (show q_Less[14]? = some q_Less_14 from rfl), hx, ?_, ?_⟩
    · show CondHold (vals l_Less g_Less_14 xs) _
      rw [hv, hc]; exact ⟨(by rw [h46]; exact neq_t (by rw [hg 1 (by decide), hg 17 (by decide)]; exact e1)), (by rw [h45]; exact neq_f (by rw [hg 2 (by decide), hg 18 (by decide)]; exact e2)), (by rw [h44]; exact neq_f (by rw [hg 3 (by decide), hg 19 (by decide)]; exact e3)), (by rw [h43]; exact neq_f (by rw [hg 4 (by decide), hg 20 (by decide)]; exact e4)), (by rw [h42]; exact neq_f (by rw [hg 5 (by decide), hg 21 (by decide)]; exact e5)), (by rw [h41]; exact neq_f (by rw [hg 6 (by decide), hg 22 (by decide)]; exact e6)), (by rw [h40]; exact neq_f (by rw [hg 7 (by decide), hg 23 (by decide)]; exact e7)), (by rw [h39]; exact neq_f (by rw [hg 8 (by decide), hg 24 (by decide)]; exact e8)), (by rw [h38]; exact neq_f (by rw [hg 9 (by decide), hg 25 (by decide)]; exact e9)), (by rw [h37]; exact neq_f (by rw [hg 10 (by decide), hg 26 (by decide)]; exact e10)), (by rw [h36]; exact neq_f (by rw [hg 11 (by decide), hg 27 (by decide)]; exact e11)), (by rw [h35]; exact neq_f (by rw [hg 12 (by decide), hg 28 (by decide)]; exact e12)), (by rw [h34]; exact neq_f (by rw [hg 13 (by decide), hg 29 (by decide)]; exact e13)), (by rw [h33]; exact neq_f (by rw [hg 14 (by decide), hg 30 (by decide)]; exact e14)), (by rw [h32]; exact neq_f (by rw [hg 15 (by decide), hg 31 (by decide)]; exact e15)), trivial⟩
    · show _ = outs_Less_14.map (A.ev (vals l_Less g_Less_14 xs))
      have he : seg v 2 14 = seg v 18 14 := by
        show [v 2, v 3, v 4, v 5, v 6, v 7, v 8, v 9, v 10, v 11, v 12, v 13, v 14, v 15] = [v 18, v 19, v 20, v 21, v 22, v 23, v 24, v 25, v 26, v 27, v 28, v 29, v 30, v 31]
        rw [show v 2 = v 18 from by rw [hg 2 (by decide), hg 18 (by decide)]; exact e2, show v 3 = v 19 from by rw [hg 3 (by decide), hg 19 (by decide)]; exact e3, show v 4 = v 20 from by rw [hg 4 (by decide), hg 20 (by decide)]; exact e4, show v 5 = v 21 from by rw [hg 5 (by decide), hg 21 (by decide)]; exact e5, show v 6 = v 22 from by rw [hg 6 (by decide), hg 22 (by decide)]; exact e6, show v 7 = v 23 from by rw [hg 7 (by decide), hg 23 (by decide)]; exact e7, show v 8 = v 24 from by rw [hg 8 (by decide), hg 24 (by decide)]; exact e8, show v 9 = v 25 from by rw [hg 9 (by decide), hg 25 (by decide)]; exact e9, show v 10 = v 26 from by rw [hg 10 (by decide), hg 26 (by decide)]; exact e10, show v 11 = v 27 from by rw [hg 11 (by decide), hg 27 (by decide)]; exact e11, show v 12 = v 28 from by rw [hg 12 (by decide), hg 28 (by decide)]; exact e12, show v 13 = v 29 from by rw [hg 13 (by decide), hg 29 (by decide)]; exact e13, show v 14 = v 30 from by rw [hg 14 (by decide), hg 30 (by decide)]; exact e14, show v 15 = v 31 from by rw [hg 15 (by decide), hg 31 (by decide)]; exact e15]
      have hk := less_at (j := 1) (by decide) d1 d2 he (by rw [hg 1 (by decide), hg (16 + 1) (by decide)]; exact e1)
      rw [hv, ho, hs, h47, lss_, ite_iff hk]
  by_cases e0 : xs.getD 0 0 = xs.getD 16 0
  case neg =>
    obtain ⟨v, hv, hin, ⟨h32, h33, h34, h35, h36, h37, h38, h39, h40, h41, h42, h43, h44, h45, h46, h47, h48⟩, -, hc, ho⟩ := E_Less_15 xs hx
    obtain ⟨hg, hs, d1, d2⟩ := key hin
    refine ⟨q_Less_15, List.mem_of_getElem? (show q_Less[15]? = some q_Less_15 from rfl), hx, ?_, ?_⟩
    · show CondHold (vals l_Less g_Less_15 xs) _
      rw [hv, hc]; exact ⟨(by rw [h47]; exact neq_t (by rw [hg 0 (by decide), hg 16 (by decide)]; exact e0)), (by rw [h46]; exact neq_f (by rw [hg 1 (by decide), hg 17 (by decide)]; exact e1)), (by rw [h45]; exact neq_f (by rw [hg 2 (by decide), hg 18 (by decide)]; exact e2)), (by rw [h44]; exact neq_f (by rw [hg 3 (by decide), hg 19 (by decide)]; exact e3)), (by rw [h43]; exact neq_f (by rw [hg 4 (by decide), hg 20 (by decide)]; exact e4)), (by rw [h42]; exact neq_f (by rw [hg 5 (by decide), hg 21 (by decide)]; exact e5)), (by rw [h41]; exact neq_f (by rw [hg 6 (by decide), hg 22 (by decide)]; exact e6)), (by rw [h40]; exact neq_f (by rw [hg 7 (by decide), hg 23 (by decide)]; exact e7)), (by rw [h39]; exact neq_f (by rw [hg 8 (by decide), hg 24 (by decide)]; exact e8)), (by rw [h38]; exact neq_f (by rw [hg 9 (by decide), hg 25 (by decide)]; exact e9)), (by rw [h37]; exact neq_f (by rw [hg 10 (by decide), hg 26 (by decide)]; exact e10)), (by rw [h36]; exact neq_f (by rw [hg 11 (by decide), hg 27 (by decide)]; exact e11)), (by rw [h35]; exact neq_f (by rw [hg 12 (by decide), hg 28 (by decide)]; exact e12)), (by rw [h34]; exact neq_f (by rw [hg 13 (by decide), hg 29 (by decide)]; exact e13)), (by rw [h33]; exact neq_f (by rw [hg 14 (by decide), hg 30 (by decide)]; exact e14)), (by rw [h32]; exact neq_f (by rw [hg 15 (by decide), hg 31 (by decide)]; exact e15)), trivial⟩
    · show _ = outs_Less_15.map (A.ev (vals l_Less g_Less_15 xs))
      have he : seg v 1 15 = seg v 17 15 := by
        show [v 1, v 2, v 3, v 4, v 5, v 6, v 7, v 8, v 9, v 10, v 11, v 12, v 13, v 14, v 15] = [v 17, v 18, v 19, v 20, v 21, v 22, v 23, v 24, v 25, v 26, v 27, v 28, v 29, v 30, v 31]
        rw [show v 1 = v 17 from by rw [hg 1 (by decide), hg 17 (by decide)]; exact e1, show v 2 = v 18 from by rw [hg 2 (by decide), hg 18 (by decide)]; exact e2, show v 3 = v 19 from by rw [hg 3 (by decide), hg 19 (by decide)]; exact e3, show v 4 = v 20 from by rw [hg 4 (by decide), hg 20 (by decide)]; exact e4, show v 5 = v 21 from by rw [hg 5 (by decide), hg 21 (by decide)]; exact e5, show v 6 = v 22 from by rw [hg 6 (by decide), hg 22 (by decide)]; exact e6, show v 7 = v 23 from by rw [hg 7 (by decide), hg 23 (by decide)]; exact e7, show v 8 = v 24 from by rw [hg 8 (by decide), hg 24 (by decide)]; exact e8, show v 9 = v 25 from by rw [hg 9 (by decide), hg 25 (by decide)]; exact e9, show v 10 = v 26 from by rw [hg 10 (by decide), hg 26 (by decide)]; exact e10, show v 11 = v 27 from by rw [hg 11 (by decide), hg 27 (by decide)]; exact e11, show v 12 = v 28 from by rw [hg 12 (by decide), hg 28 (by decide)]; exact e12, show v 13 = v 29 from by rw [hg 13 (by decide), hg 29 (by decide)]; exact e13, show v 14 = v 30 from by rw [hg 14 (by decide), hg 30 (by decide)]; exact e14, show v 15 = v 31 from by rw [hg 15 (by decide), hg 31 (by decide)]; exact e15]
      have hk := less_at (j := 0) (by decide) d1 d2 he (by rw [hg 0 (by decide), hg (16 + 0) (by decide)]; exact e0)
      rw [hv, ho, hs, h48, lss_, ite_iff hk]
  obtain ⟨v, hv, hin, ⟨h32, h33, h34, h35, h36, h37, h38, h39, h40, h41, h42, h43, h44, h45, h46, h47⟩, -, hc, ho⟩ := E_Less_16 xs hx
  obtain ⟨hg, hs, d1, d2⟩ := key hin
  refine ⟨q_Less_16, List.mem_of_getElem? (show q_Less[16]? = some q_Less_16 from rfl), hx, ?_, ?_⟩
  · show CondHold (vals l_Less g_Less_16 xs) _
    rw [hv, hc]; exact ⟨(by rw [h47]; exact neq_f (by rw [hg 0 (by decide), hg 16 (by decide)]; exact e0)), (by rw [h46]; exact neq_f (by rw [hg 1 (by decide), hg 17 (by decide)]; exact e1)), (by rw [h45]; exact neq_f (by rw [hg 2 (by decide), hg 18 (by decide)]; exact e2)), (by rw [h44]; exact neq_f (by rw [hg 3 (by decide), hg 19 (by decide)]; exact e3)), (by rw [h43]; exact neq_f (by rw [hg 4 (by decide), hg 20 (by decide)]; exact e4)), (by rw [h42]; exact neq_f (by rw [hg 5 (by decide), hg 21 (by decide)]; exact e5)), (by rw [h41]; exact neq_f (by rw [hg 6 (by decide), hg 22 (by decide)]; exact e6)), (by rw [h40]; exact neq_f (by rw [hg 7 (by decide), hg 23 (by decide)]; exact e7)), (by rw [h39]; exact neq_f (by rw [hg 8 (by decide), hg 24 (by decide)]; exact e8)), (by rw [h38]; exact neq_f (by rw [hg 9 (by decide), hg 25 (by decide)]; exact e9)), (by rw [h37]; exact neq_f (by rw [hg 10 (by decide), hg 26 (by decide)]; exact e10)), (by rw [h36]; exact neq_f (by rw [hg 11 (by decide), hg 27 (by decide)]; exact e11)), (by rw [h35]; exact neq_f (by rw [hg 12 (by decide), hg 28 (by decide)]; exact e12)), (by rw [h34]; exact neq_f (by rw [hg 13 (by decide), hg 29 (by decide)]; exact e13)), (by rw [h33]; exact neq_f (by rw [hg 14 (by decide), hg 30 (by decide)]; exact e14)), (by rw [h32]; exact neq_f (by rw [hg 15 (by decide), hg 31 (by decide)]; exact e15)), trivial⟩
  · show _ = outs_Less_16.map (A.ev (vals l_Less g_Less_16 xs))
    have he : seg v 0 16 = seg v 16 16 := by
      show [v 0, v 1, v 2, v 3, v 4, v 5, v 6, v 7, v 8, v 9, v 10, v 11, v 12, v 13, v 14, v 15] = [v 16, v 17, v 18, v 19, v 20, v 21, v 22, v 23, v 24, v 25, v 26, v 27, v 28, v 29, v 30, v 31]
      rw [show v 0 = v 16 from by rw [hg 0 (by decide), hg 16 (by decide)]; exact e0, show v 1 = v 17 from by rw [hg 1 (by decide), hg 17 (by decide)]; exact e1, show v 2 = v 18 from by rw [hg 2 (by decide), hg 18 (by decide)]; exact e2, show v 3 = v 19 from by rw [hg 3 (by decide), hg 19 (by decide)]; exact e3, show v 4 = v 20 from by rw [hg 4 (by decide), hg 20 (by decide)]; exact e4, show v 5 = v 21 from by rw [hg 5 (by decide), hg 21 (by decide)]; exact e5, show v 6 = v 22 from by rw [hg 6 (by decide), hg 22 (by decide)]; exact e6, show v 7 = v 23 from by rw [hg 7 (by decide), hg 23 (by decide)]; exact e7, show v 8 = v 24 from by rw [hg 8 (by decide), hg 24 (by decide)]; exact e8, show v 9 = v 25 from by rw [hg 9 (by decide), hg 25 (by decide)]; exact e9, show v 10 = v 26 from by rw [hg 10 (by decide), hg 26 (by decide)]; exact e10, show v 11 = v 27 from by rw [hg 11 (by decide), hg 27 (by decide)]; exact e11, show v 12 = v 28 from by rw [hg 12 (by decide), hg 28 (by decide)]; exact e12, show v 13 = v 29 from by rw [hg 13 (by decide), hg 29 (by decide)]; exact e13, show v 14 = v 30 from by rw [hg 14 (by decide), hg 30 (by decide)]; exact e14, show v 15 = v 31 from by rw [hg 15 (by decide), hg 31 (by decide)]; exact e15]
    rw [hv, ho, hs, he, if_neg (Int.lt_irrefl _)]

end Go.X
