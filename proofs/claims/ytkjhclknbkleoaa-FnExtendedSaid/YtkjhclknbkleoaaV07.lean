/-
  A part of the proof of Ytkjhclknbkleoaa: texts M9, G2, M10, G3. No conditions.
-/
import Derived.Test.YtkjhclknbkleoaaV06
import Derived.KernelRfl
namespace Go.X

/-! ### whole numbers of sixteen words -/

abbrev WB (n : Nat) : Bd := List.replicate n (0, 4294967295)

theorem W_pos : (0 : Int) < 4294967296 := by decide

/-- the digits of a sum with carries -/
def chain : Int → List Int → List Int
  | _, [] => []
  | c, t :: ts => (c + t) % 4294967296 :: chain ((c + t) / 4294967296) ts

/-- and the last carry -/
def chainX : Int → List Int → List Int
  | c, [] => [c]
  | c, t :: ts => (c + t) % 4294967296 :: chainX ((c + t) / 4294967296) ts

theorem chain_val : ∀ (ts : List Int) (c : Int), chain c ts = toD 4294967296 ts.length (c + ofD 4294967296 ts)
  | [], _ => rfl
  | t :: ts, c => by
    show (c + t) % 4294967296 :: chain ((c + t) / 4294967296) ts = (c + (t + 4294967296 * ofD 4294967296 ts)) % 4294967296 :: toD 4294967296 ts.length ((c + (t + 4294967296 * ofD 4294967296 ts)) / 4294967296)
    rw [chain_val ts]
    generalize ofD 4294967296 ts = z
    congr 1
    · omega
    · congr 1; omega

theorem chainX_val : ∀ (ts : List Int) (c : Int), ofD 4294967296 (chainX c ts) = c + ofD 4294967296 ts
  | [], c => by show c + 4294967296 * 0 = c + 0; omega
  | t :: ts, c => by
    show (c + t) % 4294967296 + 4294967296 * ofD 4294967296 (chainX ((c + t) / 4294967296) ts) = c + (t + 4294967296 * ofD 4294967296 ts)
    rw [chainX_val ts]
    generalize ofD 4294967296 ts = z
    omega

theorem cst {c t t' x y z : Int} {ts r : List Int} (ht : t = t') (hx : x = c + t) (hy : y = x % 4294967296) (hz : z = x / 4294967296) (h : r = chain z ts) : y :: r = chain c (t' :: ts) := by
  subst ht hx hy hz h; rfl

theorem cst1 {c t t' x y : Int} (ht : t = t') (hx : x = c + t) (hy : y = x % 4294967296) : [y] = chain c [t'] := by
  subst ht hx hy; rfl

theorem cstx {c t t' x y z : Int} {ts r : List Int} (ht : t = t') (hx : x = c + t) (hy : y = x % 4294967296) (hz : z = x / 4294967296) (h : r = chainX z ts) : y :: r = chainX c (t' :: ts) := by
  subst ht hx hy hz h; rfl

theorem cste {c y : Int} (hy : y = c) : [y] = chainX c [] := by
  subst hy; rfl

theorem ofD_plus (b : Int) : ∀ l : List (Int × Int), ofD b (l.map fun p => p.1 + p.2) = ofD b (l.map Prod.fst) + ofD b (l.map Prod.snd)
  | [] => rfl
  | p :: l => by
    show p.1 + p.2 + b * ofD b (l.map fun p => p.1 + p.2) = (p.1 + b * ofD b (l.map Prod.fst)) + (p.2 + b * ofD b (l.map Prod.snd))
    rw [ofD_plus b l, Int.mul_add]; omega

theorem ofD_minus (b : Int) : ∀ l : List (Int × Int), ofD b (l.map fun p => p.1 - p.2) = ofD b (l.map Prod.fst) - ofD b (l.map Prod.snd)
  | [] => rfl
  | p :: l => by
    show p.1 - p.2 + b * ofD b (l.map fun p => p.1 - p.2) = (p.1 + b * ofD b (l.map Prod.fst)) - (p.2 + b * ofD b (l.map Prod.snd))
    rw [ofD_minus b l, Int.mul_sub]; omega

theorem ofD_mac (b a : Int) : ∀ l : List (Int × Int), ofD b (l.map fun p => a * p.1 + p.2) = a * ofD b (l.map Prod.fst) + ofD b (l.map Prod.snd)
  | [] => by show (0 : Int) = a * 0 + 0; omega
  | p :: l => by
    show a * p.1 + p.2 + b * ofD b (l.map fun p => a * p.1 + p.2) = a * (p.1 + b * ofD b (l.map Prod.fst)) + (p.2 + b * ofD b (l.map Prod.snd))
    rw [ofD_mac b a l]
    generalize ofD b (l.map Prod.fst) = y
    generalize ofD b (l.map Prod.snd) = z
    grind

theorem Plus_val (xs : List Int) (hx : InB (WB 32) xs) : s_Plus.f xs = toD 4294967296 16 (ofD 4294967296 (xs.take 16) + ofD 4294967296 (xs.drop 16)) := by
  obtain ⟨v, -, hin, he, -, hf⟩ := E_Plus xs hx
  obtain ⟨h32, h33, h34, h35, h36, h37, h38, h39, h40, h41, h42, h43, h44, h45, h46, h47, h48, h49, h50, h51, h52, h53, h54, h55, h56, h57, h58, h59, h60, h61, h62, h63, h64, h65, h66, h67, h68, h69, h70, h71, h72, h73, h74, h75, h76, h77, h78, h79, h80, h81, h82, h83, h84, h85, h86, h87, h88, h89, h90, h91, h92, h93, h94, h95, h96, h97, h98, h99, h100, h101, h102, h103, h104, h105, h106, h107, h108, h109, h110, h111, h112, h113, h114, h115, h116, h117, h118, h119, h120, h121, h122, h123, h124, h125, h126, h127⟩ := he
  subst hin
  have e : s_Plus.f (seg v 0 32) = chain 0 ([(v 0, v 16), (v 1, v 17), (v 2, v 18), (v 3, v 19), (v 4, v 20), (v 5, v 21), (v 6, v 22), (v 7, v 23), (v 8, v 24), (v 9, v 25), (v 10, v 26), (v 11, v 27), (v 12, v 28), (v 13, v 29), (v 14, v 30), (v 15, v 31)].map fun p => p.1 + p.2) := hf.trans (cst (h34.trans (by rw [h32, h33])) h35 h36 h37 (cst (h40.trans (by rw [h38, h39])) h41 h42 h43 (cst (h46.trans (by rw [h44, h45])) h47 h48 h49 (cst (h52.trans (by rw [h50, h51])) h53 h54 h55 (cst (h58.trans (by rw [h56, h57])) h59 h60 h61 (cst (h64.trans (by rw [h62, h63])) h65 h66 h67 (cst (h70.trans (by rw [h68, h69])) h71 h72 h73 (cst (h76.trans (by rw [h74, h75])) h77 h78 h79 (cst (h82.trans (by rw [h80, h81])) h83 h84 h85 (cst (h88.trans (by rw [h86, h87])) h89 h90 h91 (cst (h94.trans (by rw [h92, h93])) h95 h96 h97 (cst (h100.trans (by rw [h98, h99])) h101 h102 h103 (cst (h106.trans (by rw [h104, h105])) h107 h108 h109 (cst (h112.trans (by rw [h110, h111])) h113 h114 h115 (cst (h118.trans (by rw [h116, h117])) h119 h120 h121 (cst1 (h124.trans (by rw [h122, h123])) h125 h126))))))))))))))))
  rw [e, chain_val, ofD_plus, Int.zero_add]
  rfl

theorem Minus_val (xs : List Int) (hx : InB (WB 32) xs) : s_Minus.f xs = toD 4294967296 16 (ofD 4294967296 (xs.take 16) - ofD 4294967296 (xs.drop 16)) := by
  obtain ⟨v, -, hin, he, -, hf⟩ := E_Minus xs hx
  obtain ⟨h32, h33, h34, h35, h36, h37, h38, h39, h40, h41, h42, h43, h44, h45, h46, h47, h48, h49, h50, h51, h52, h53, h54, h55, h56, h57, h58, h59, h60, h61, h62, h63, h64, h65, h66, h67, h68, h69, h70, h71, h72, h73, h74, h75, h76, h77, h78, h79, h80, h81, h82, h83, h84, h85, h86, h87, h88, h89, h90, h91, h92, h93, h94, h95, h96, h97, h98, h99, h100, h101, h102, h103, h104, h105, h106, h107, h108, h109, h110, h111, h112, h113, h114, h115, h116, h117, h118, h119, h120, h121, h122, h123, h124, h125, h126, h127⟩ := he
  subst hin
  have e : s_Minus.f (seg v 0 32) = chain 0 ([(v 0, v 16), (v 1, v 17), (v 2, v 18), (v 3, v 19), (v 4, v 20), (v 5, v 21), (v 6, v 22), (v 7, v 23), (v 8, v 24), (v 9, v 25), (v 10, v 26), (v 11, v 27), (v 12, v 28), (v 13, v 29), (v 14, v 30), (v 15, v 31)].map fun p => p.1 - p.2) := hf.trans (cst (h34.trans (by rw [h32, h33])) h35 h36 h37 (cst (h40.trans (by rw [h38, h39])) h41 h42 h43 (cst (h46.trans (by rw [h44, h45])) h47 h48 h49 (cst (h52.trans (by rw [h50, h51])) h53 h54 h55 (cst (h58.trans (by rw [h56, h57])) h59 h60 h61 (cst (h64.trans (by rw [h62, h63])) h65 h66 h67 (cst (h70.trans (by rw [h68, h69])) h71 h72 h73 (cst (h76.trans (by rw [h74, h75])) h77 h78 h79 (cst (h82.trans (by rw [h80, h81])) h83 h84 h85 (cst (h88.trans (by rw [h86, h87])) h89 h90 h91 (cst (h94.trans (by rw [h92, h93])) h95 h96 h97 (cst (h100.trans (by rw [h98, h99])) h101 h102 h103 (cst (h106.trans (by rw [h104, h105])) h107 h108 h109 (cst (h112.trans (by rw [h110, h111])) h113 h114 h115 (cst (h118.trans (by rw [h116, h117])) h119 h120 h121 (cst1 (h124.trans (by rw [h122, h123])) h125 h126))))))))))))))))
  rw [e, chain_val, ofD_minus, Int.zero_add]
  rfl

theorem times_lin {B : Int} {r0 T0 a0 r1 T1 a1 r2 T2 a2 r3 T3 a3 r4 T4 a4 r5 T5 a5 r6 T6 a6 r7 T7 a7 : Int} (h0 : r0 + 4294967296 * T0 = a0 * B + 0)
   (h1 : r1 + 4294967296 * T1 = a1 * B + T0) (h2 : r2 + 4294967296 * T2 = a2 * B + T1) (h3 : r3 + 4294967296 * T3 = a3 * B + T2) (h4 : r4 + 4294967296 * T4 = a4 * B + T3) (h5 : r5 + 4294967296 * T5 = a5 * B + T4) (h6 : r6 + 4294967296 * T6 = a6 * B + T5) (h7 : r7 + 4294967296 * T7 = a7 * B + T6) :
   r0 + 4294967296 * (r1 + 4294967296 * (r2 + 4294967296 * (r3 + 4294967296 * (r4 + 4294967296 * (r5 + 4294967296 * (r6 + 4294967296 * (r7 + 4294967296 * T7))))))) = (a0 + 4294967296 * (a1 + 4294967296 * (a2 + 4294967296 * (a3 + 4294967296 * (a4 + 4294967296 * (a5 + 4294967296 * (a6 + 4294967296 * (a7 + 4294967296 * 0)))))))) * B := by
  have e : (a0 + 4294967296 * (a1 + 4294967296 * (a2 + 4294967296 * (a3 + 4294967296 * (a4 + 4294967296 * (a5 + 4294967296 * (a6 + 4294967296 * (a7 + 4294967296 * 0)))))))) * B = a0 * B + 4294967296 * (a1 * B + 4294967296 * (a2 * B + 4294967296 * (a3 * B + 4294967296 * (a4 * B + 4294967296 * (a5 * B + 4294967296 * (a6 * B + 4294967296 * (a7 * B))))))) := by grind
  rw [e]
  generalize a0 * B = p0 at *
  generalize a1 * B = p1 at *
  generalize a2 * B = p2 at *
  generalize a3 * B = p3 at *
  generalize a4 * B = p4 at *
  generalize a5 * B = p5 at *
  generalize a6 * B = p6 at *
  generalize a7 * B = p7 at *
  omega

theorem mac0 {a e p0 q0 m0 t0 x0 y0 z0 b0 p1 q1 m1 t1 x1 y1 z1 b1 p2 q2 m2 t2 x2 y2 z2 b2 p3 q3 m3 t3 x3 y3 z3 b3 p4 q4 m4 t4 x4 y4 z4 b4 p5 q5 m5 t5 x5 y5 z5 b5 p6 q6 m6 t6 x6 y6 z6 b6 p7 q7 m7 t7 x7 y7 z7 b7 : Int} {T : Prop} (h : p0 = a ∧ q0 = b0 ∧ m0 = p0 * q0 ∧ t0 = m0 + 0 ∧ x0 = 0 + t0 ∧ y0 = x0 % 4294967296 ∧ z0 = x0 / 4294967296 ∧ p1 = a ∧ q1 = b1 ∧ m1 = p1 * q1 ∧ t1 = m1 + 0 ∧ x1 = z0 + t1 ∧ y1 = x1 % 4294967296 ∧ z1 = x1 / 4294967296 ∧ p2 = a ∧ q2 = b2 ∧ m2 = p2 * q2 ∧ t2 = m2 + 0 ∧ x2 = z1 + t2 ∧ y2 = x2 % 4294967296 ∧ z2 = x2 / 4294967296 ∧ p3 = a ∧ q3 = b3 ∧ m3 = p3 * q3 ∧ t3 = m3 + 0 ∧ x3 = z2 + t3 ∧ y3 = x3 % 4294967296 ∧ z3 = x3 / 4294967296 ∧ p4 = a ∧ q4 = b4 ∧ m4 = p4 * q4 ∧ t4 = m4 + 0 ∧ x4 = z3 + t4 ∧ y4 = x4 % 4294967296 ∧ z4 = x4 / 4294967296 ∧ p5 = a ∧ q5 = b5 ∧ m5 = p5 * q5 ∧ t5 = m5 + 0 ∧ x5 = z4 + t5 ∧ y5 = x5 % 4294967296 ∧ z5 = x5 / 4294967296 ∧ p6 = a ∧ q6 = b6 ∧ m6 = p6 * q6 ∧ t6 = m6 + 0 ∧ x6 = z5 + t6 ∧ y6 = x6 % 4294967296 ∧ z6 = x6 / 4294967296 ∧ p7 = a ∧ q7 = b7 ∧ m7 = p7 * q7 ∧ t7 = m7 + 0 ∧ x7 = z6 + t7 ∧ y7 = x7 % 4294967296 ∧ z7 = x7 / 4294967296 ∧ e = z7 ∧ T) : (y0 + 4294967296 * ofD 4294967296 [y1, y2, y3, y4, y5, y6, y7, e] = a * ofD 4294967296 [b0, b1, b2, b3, b4, b5, b6, b7] + 0) ∧ T := by
  obtain ⟨hp0, hq0, hm0, ht0, hx0, hy0, hz0, hp1, hq1, hm1, ht1, hx1, hy1, hz1, hp2, hq2, hm2, ht2, hx2, hy2, hz2, hp3, hq3, hm3, ht3, hx3, hy3, hz3, hp4, hq4, hm4, ht4, hx4, hy4, hz4, hp5, hq5, hm5, ht5, hx5, hy5, hz5, hp6, hq6, hm6, ht6, hx6, hy6, hz6, hp7, hq7, hm7, ht7, hx7, hy7, hz7, he, hT⟩ := h
  have R : [y0, y1, y2, y3, y4, y5, y6, y7, e] = chainX 0 ([(b0, 0), (b1, 0), (b2, 0), (b3, 0), (b4, 0), (b5, 0), (b6, 0), (b7, 0)].map fun p => a * p.1 + p.2) := (cstx (ht0.trans (by rw [hm0, hp0, hq0])) hx0 hy0 hz0 (cstx (ht1.trans (by rw [hm1, hp1, hq1])) hx1 hy1 hz1 (cstx (ht2.trans (by rw [hm2, hp2, hq2])) hx2 hy2 hz2 (cstx (ht3.trans (by rw [hm3, hp3, hq3])) hx3 hy3 hz3 (cstx (ht4.trans (by rw [hm4, hp4, hq4])) hx4 hy4 hz4 (cstx (ht5.trans (by rw [hm5, hp5, hq5])) hx5 hy5 hz5 (cstx (ht6.trans (by rw [hm6, hp6, hq6])) hx6 hy6 hz6 (cstx (ht7.trans (by rw [hm7, hp7, hq7])) hx7 hy7 hz7 (cste he)))))))))
  have R := congrArg (ofD 4294967296) R
  rw [chainX_val, ofD_mac, Int.zero_add] at R
  exact ⟨R, hT⟩

theorem mac {a e p0 q0 m0 t0 x0 y0 z0 o0 u0 b0 p1 q1 m1 t1 x1 y1 z1 o1 u1 b1 p2 q2 m2 t2 x2 y2 z2 o2 u2 b2 p3 q3 m3 t3 x3 y3 z3 o3 u3 b3 p4 q4 m4 t4 x4 y4 z4 o4 u4 b4 p5 q5 m5 t5 x5 y5 z5 o5 u5 b5 p6 q6 m6 t6 x6 y6 z6 o6 u6 b6 p7 q7 m7 t7 x7 y7 z7 o7 u7 b7 : Int} {T : Prop} (h : p0 = a ∧ q0 = b0 ∧ m0 = p0 * q0 ∧ u0 = o0 ∧ t0 = m0 + u0 ∧ x0 = 0 + t0 ∧ y0 = x0 % 4294967296 ∧ z0 = x0 / 4294967296 ∧ p1 = a ∧ q1 = b1 ∧ m1 = p1 * q1 ∧ u1 = o1 ∧ t1 = m1 + u1 ∧ x1 = z0 + t1 ∧ y1 = x1 % 4294967296 ∧ z1 = x1 / 4294967296 ∧ p2 = a ∧ q2 = b2 ∧ m2 = p2 * q2 ∧ u2 = o2 ∧ t2 = m2 + u2 ∧ x2 = z1 + t2 ∧ y2 = x2 % 4294967296 ∧ z2 = x2 / 4294967296 ∧ p3 = a ∧ q3 = b3 ∧ m3 = p3 * q3 ∧ u3 = o3 ∧ t3 = m3 + u3 ∧ x3 = z2 + t3 ∧ y3 = x3 % 4294967296 ∧ z3 = x3 / 4294967296 ∧ p4 = a ∧ q4 = b4 ∧ m4 = p4 * q4 ∧ u4 = o4 ∧ t4 = m4 + u4 ∧ x4 = z3 + t4 ∧ y4 = x4 % 4294967296 ∧ z4 = x4 / 4294967296 ∧ p5 = a ∧ q5 = b5 ∧ m5 = p5 * q5 ∧ u5 = o5 ∧ t5 = m5 + u5 ∧ x5 = z4 + t5 ∧ y5 = x5 % 4294967296 ∧ z5 = x5 / 4294967296 ∧ p6 = a ∧ q6 = b6 ∧ m6 = p6 * q6 ∧ u6 = o6 ∧ t6 = m6 + u6 ∧ x6 = z5 + t6 ∧ y6 = x6 % 4294967296 ∧ z6 = x6 / 4294967296 ∧ p7 = a ∧ q7 = b7 ∧ m7 = p7 * q7 ∧ u7 = o7 ∧ t7 = m7 + u7 ∧ x7 = z6 + t7 ∧ y7 = x7 % 4294967296 ∧ z7 = x7 / 4294967296 ∧ e = z7 ∧ T) : (y0 + 4294967296 * ofD 4294967296 [y1, y2, y3, y4, y5, y6, y7, e] = a * ofD 4294967296 [b0, b1, b2, b3, b4, b5, b6, b7] + ofD 4294967296 [o0, o1, o2, o3, o4, o5, o6, o7]) ∧ T := by
  obtain ⟨hp0, hq0, hm0, hu0, ht0, hx0, hy0, hz0, hp1, hq1, hm1, hu1, ht1, hx1, hy1, hz1, hp2, hq2, hm2, hu2, ht2, hx2, hy2, hz2, hp3, hq3, hm3, hu3, ht3, hx3, hy3, hz3, hp4, hq4, hm4, hu4, ht4, hx4, hy4, hz4, hp5, hq5, hm5, hu5, ht5, hx5, hy5, hz5, hp6, hq6, hm6, hu6, ht6, hx6, hy6, hz6, hp7, hq7, hm7, hu7, ht7, hx7, hy7, hz7, he, hT⟩ := h
  have R : [y0, y1, y2, y3, y4, y5, y6, y7, e] = chainX 0 ([(b0, o0), (b1, o1), (b2, o2), (b3, o3), (b4, o4), (b5, o5), (b6, o6), (b7, o7)].map fun p => a * p.1 + p.2) := (cstx (ht0.trans (by rw [hm0, hp0, hq0, hu0])) hx0 hy0 hz0 (cstx (ht1.trans (by rw [hm1, hp1, hq1, hu1])) hx1 hy1 hz1 (cstx (ht2.trans (by rw [hm2, hp2, hq2, hu2])) hx2 hy2 hz2 (cstx (ht3.trans (by rw [hm3, hp3, hq3, hu3])) hx3 hy3 hz3 (cstx (ht4.trans (by rw [hm4, hp4, hq4, hu4])) hx4 hy4 hz4 (cstx (ht5.trans (by rw [hm5, hp5, hq5, hu5])) hx5 hy5 hz5 (cstx (ht6.trans (by rw [hm6, hp6, hq6, hu6])) hx6 hy6 hz6 (cstx (ht7.trans (by rw [hm7, hp7, hq7, hu7])) hx7 hy7 hz7 (cste he)))))))))
  have R := congrArg (ofD 4294967296) R
  rw [chainX_val, ofD_mac, Int.zero_add] at R
  exact ⟨R, hT⟩

theorem mac_ {a e p0 q0 m0 t0 x0 y0 z0 o0 u0 b0 p1 q1 m1 t1 x1 y1 z1 o1 u1 b1 p2 q2 m2 t2 x2 y2 z2 o2 u2 b2 p3 q3 m3 t3 x3 y3 z3 o3 u3 b3 p4 q4 m4 t4 x4 y4 z4 o4 u4 b4 p5 q5 m5 t5 x5 y5 z5 o5 u5 b5 p6 q6 m6 t6 x6 y6 z6 o6 u6 b6 p7 q7 m7 t7 x7 y7 z7 o7 u7 b7 : Int} (h : p0 = a ∧ q0 = b0 ∧ m0 = p0 * q0 ∧ u0 = o0 ∧ t0 = m0 + u0 ∧ x0 = 0 + t0 ∧ y0 = x0 % 4294967296 ∧ z0 = x0 / 4294967296 ∧ p1 = a ∧ q1 = b1 ∧ m1 = p1 * q1 ∧ u1 = o1 ∧ t1 = m1 + u1 ∧ x1 = z0 + t1 ∧ y1 = x1 % 4294967296 ∧ z1 = x1 / 4294967296 ∧ p2 = a ∧ q2 = b2 ∧ m2 = p2 * q2 ∧ u2 = o2 ∧ t2 = m2 + u2 ∧ x2 = z1 + t2 ∧ y2 = x2 % 4294967296 ∧ z2 = x2 / 4294967296 ∧ p3 = a ∧ q3 = b3 ∧ m3 = p3 * q3 ∧ u3 = o3 ∧ t3 = m3 + u3 ∧ x3 = z2 + t3 ∧ y3 = x3 % 4294967296 ∧ z3 = x3 / 4294967296 ∧ p4 = a ∧ q4 = b4 ∧ m4 = p4 * q4 ∧ u4 = o4 ∧ t4 = m4 + u4 ∧ x4 = z3 + t4 ∧ y4 = x4 % 4294967296 ∧ z4 = x4 / 4294967296 ∧ p5 = a ∧ q5 = b5 ∧ m5 = p5 * q5 ∧ u5 = o5 ∧ t5 = m5 + u5 ∧ x5 = z4 + t5 ∧ y5 = x5 % 4294967296 ∧ z5 = x5 / 4294967296 ∧ p6 = a ∧ q6 = b6 ∧ m6 = p6 * q6 ∧ u6 = o6 ∧ t6 = m6 + u6 ∧ x6 = z5 + t6 ∧ y6 = x6 % 4294967296 ∧ z6 = x6 / 4294967296 ∧ p7 = a ∧ q7 = b7 ∧ m7 = p7 * q7 ∧ u7 = o7 ∧ t7 = m7 + u7 ∧ x7 = z6 + t7 ∧ y7 = x7 % 4294967296 ∧ z7 = x7 / 4294967296 ∧ e = z7) : y0 + 4294967296 * ofD 4294967296 [y1, y2, y3, y4, y5, y6, y7, e] = a * ofD 4294967296 [b0, b1, b2, b3, b4, b5, b6, b7] + ofD 4294967296 [o0, o1, o2, o3, o4, o5, o6, o7] := by
  obtain ⟨hp0, hq0, hm0, hu0, ht0, hx0, hy0, hz0, hp1, hq1, hm1, hu1, ht1, hx1, hy1, hz1, hp2, hq2, hm2, hu2, ht2, hx2, hy2, hz2, hp3, hq3, hm3, hu3, ht3, hx3, hy3, hz3, hp4, hq4, hm4, hu4, ht4, hx4, hy4, hz4, hp5, hq5, hm5, hu5, ht5, hx5, hy5, hz5, hp6, hq6, hm6, hu6, ht6, hx6, hy6, hz6, hp7, hq7, hm7, hu7, ht7, hx7, hy7, hz7, he⟩ := h
  have R : [y0, y1, y2, y3, y4, y5, y6, y7, e] = chainX 0 ([(b0, o0), (b1, o1), (b2, o2), (b3, o3), (b4, o4), (b5, o5), (b6, o6), (b7, o7)].map fun p => a * p.1 + p.2) := (cstx (ht0.trans (by rw [hm0, hp0, hq0, hu0])) hx0 hy0 hz0 (cstx (ht1.trans (by rw [hm1, hp1, hq1, hu1])) hx1 hy1 hz1 (cstx (ht2.trans (by rw [hm2, hp2, hq2, hu2])) hx2 hy2 hz2 (cstx (ht3.trans (by rw [hm3, hp3, hq3, hu3])) hx3 hy3 hz3 (cstx (ht4.trans (by rw [hm4, hp4, hq4, hu4])) hx4 hy4 hz4 (cstx (ht5.trans (by rw [hm5, hp5, hq5, hu5])) hx5 hy5 hz5 (cstx (ht6.trans (by rw [hm6, hp6, hq6, hu6])) hx6 hy6 hz6 (cstx (ht7.trans (by rw [hm7, hp7, hq7, hu7])) hx7 hy7 hz7 (cste he)))))))))
  have R := congrArg (ofD 4294967296) R
  rw [chainX_val, ofD_mac, Int.zero_add] at R
  exact R

theorem Times_val (xs : List Int) (hx : InB (WB 32) xs) : s_Times.f xs = toD 4294967296 16 (ofD 4294967296 (xs.take 8) * ofD 4294967296 ((xs.drop 16).take 8)) := by
  have hb := s_Times.ok _ _ (show s_Times.bt (WB 32) = some (WB 16) by kernel_rfl) _ hx
  obtain ⟨v, -, hin, he, -, hf⟩ := E_Times xs hx
  subst hin
  obtain ⟨R0, he⟩ := mac0 he
  obtain ⟨R1, he⟩ := mac he
  obtain ⟨R2, he⟩ := mac he
  obtain ⟨R3, he⟩ := mac he
  obtain ⟨R4, he⟩ := mac he
  obtain ⟨R5, he⟩ := mac he
  obtain ⟨R6, he⟩ := mac he
  have R7 := mac_ he
  have ht := times_lin R0 R1 R2 R3 R4 R5 R6 R7
  rw [hf] at hb ⊢
  exact toD_congr W_pos (InB_InD (b := 4294967296) (n := 16) hb) rfl ⟨0, ht.trans (Int.add_zero _).symm⟩

theorem ofD4 {w y0 y1 y2 y3 r : Int} {l : List Int} (h : y0 + 256 * (y1 + 256 * (y2 + 256 * y3)) = w) (hr : ofD 256 l = r) : ofD 256 (y0 :: y1 :: y2 :: y3 :: l) = w + 4294967296 * r := by
  subst hr
  show y0 + 256 * (y1 + 256 * (y2 + 256 * (y3 + 256 * ofD 256 l))) = _
  omega

theorem word4 {w x0 x1 x2 x3 y0 y1 y2 y3 : Int} {T : Prop} (h : x0 = w / 1 ∧ y0 = x0 % 256 ∧ x1 = w / 256 ∧ y1 = x1 % 256 ∧ x2 = w / 65536 ∧ y2 = x2 % 256 ∧ x3 = w / 16777216 ∧ y3 = x3 ∧ T) : y0 + 256 * (y1 + 256 * (y2 + 256 * y3)) = w ∧ T := by
  obtain ⟨a0, b0, a1, b1, a2, b2, a3, b3, hT⟩ := h
  exact ⟨by omega, hT⟩

theorem word4_ {w x0 x1 x2 x3 y0 y1 y2 y3 : Int} (h : x0 = w / 1 ∧ y0 = x0 % 256 ∧ x1 = w / 256 ∧ y1 = x1 % 256 ∧ x2 = w / 65536 ∧ y2 = x2 % 256 ∧ x3 = w / 16777216 ∧ y3 = x3) : y0 + 256 * (y1 + 256 * (y2 + 256 * y3)) = w := by
  obtain ⟨a0, b0, a1, b1, a2, b2, a3, b3⟩ := h
  omega

theorem byte4 {w a0 a1 a2 a3 b0 b1 b2 b3 c0 c1 c2 x0 x1 x2 x3 : Int} {T : Prop} (h : a0 = x0 ∧ b0 = a0 * 1 ∧ c0 = 0 + b0 ∧ a1 = x1 ∧ b1 = a1 * 256 ∧ c1 = c0 + b1 ∧ a2 = x2 ∧ b2 = a2 * 65536 ∧ c2 = c1 + b2 ∧ a3 = x3 ∧ b3 = a3 * 16777216 ∧ w = c2 + b3 ∧ T) : x0 + 256 * (x1 + 256 * (x2 + 256 * x3)) = w ∧ T := by
  obtain ⟨p0, q0, r0, p1, q1, r1, p2, q2, r2, p3, q3, r3, hT⟩ := h
  exact ⟨by omega, hT⟩

theorem byte4_ {w a0 a1 a2 a3 b0 b1 b2 b3 c0 c1 c2 x0 x1 x2 x3 : Int} (h : a0 = x0 ∧ b0 = a0 * 1 ∧ c0 = 0 + b0 ∧ a1 = x1 ∧ b1 = a1 * 256 ∧ c1 = c0 + b1 ∧ a2 = x2 ∧ b2 = a2 * 65536 ∧ c2 = c1 + b2 ∧ a3 = x3 ∧ b3 = a3 * 16777216 ∧ w = c2 + b3) : x0 + 256 * (x1 + 256 * (x2 + 256 * x3)) = w := by
  obtain ⟨p0, q0, r0, p1, q1, r1, p2, q2, r2, p3, q3, r3⟩ := h
  omega

theorem NBytes_val (xs : List Int) (hx : InB (WB 16) xs) : s_NBytes.f xs = toD 256 32 (ofD 4294967296 xs) := by
  have hb := s_NBytes.ok _ _ (show s_NBytes.bt (WB 16) = some (BB 32) by kernel_rfl) _ hx
  obtain ⟨v, -, hin, he, -, hf⟩ := E_NBytes xs hx
  subst hin
  obtain ⟨w0, he⟩ := word4 he
  obtain ⟨w1, he⟩ := word4 he
  obtain ⟨w2, he⟩ := word4 he
  obtain ⟨w3, he⟩ := word4 he
  obtain ⟨w4, he⟩ := word4 he
  obtain ⟨w5, he⟩ := word4 he
  obtain ⟨w6, he⟩ := word4 he
  have w7 := word4_ he
  have e := ofD4 w0 (ofD4 w1 (ofD4 w2 (ofD4 w3 (ofD4 w4 (ofD4 w5 (ofD4 w6 (ofD4 w7 (show ofD 256 [] = 0 from rfl))))))))
  rw [hf] at hb ⊢
  refine toD_congr (by decide) (InB_InD (b := 256) (n := 32) hb) rfl ⟨-(ofD 4294967296 [v 8, v 9, v 10, v 11, v 12, v 13, v 14, v 15]), ?_⟩
  refine e.trans ?_
  have e2 : ofD 4294967296 (seg v 0 16) = ofD 4294967296 (seg v 0 8) + 4294967296 ^ 8 * ofD 4294967296 (seg v 8 8) := ofD_append 4294967296 (seg v 0 8) (seg v 8 8)
  rw [e2]
  show ofD 4294967296 (seg v 0 8) = ofD 4294967296 (seg v 0 8) + 4294967296 ^ 8 * ofD 4294967296 (seg v 8 8) + 256 ^ 32 * -ofD 4294967296 (seg v 8 8)
  omega

theorem Of32_val (xs : List Int) (hx : InB (BB 32) xs) : s_Of32.f xs = toD 4294967296 8 (ofD 256 xs) := by
  have hb := s_Of32.ok _ _ (show s_Of32.bt (BB 32) = some (WB 8) by kernel_rfl) _ hx
  obtain ⟨v, -, hin, he, -, hf⟩ := E_Of32 xs hx
  subst hin
  obtain ⟨w0, he⟩ := byte4 he
  obtain ⟨w1, he⟩ := byte4 he
  obtain ⟨w2, he⟩ := byte4 he
  obtain ⟨w3, he⟩ := byte4 he
  obtain ⟨w4, he⟩ := byte4 he
  obtain ⟨w5, he⟩ := byte4 he
  obtain ⟨w6, he⟩ := byte4 he
  have w7 := byte4_ he
  have e := ofD4 w0 (ofD4 w1 (ofD4 w2 (ofD4 w3 (ofD4 w4 (ofD4 w5 (ofD4 w6 (ofD4 w7 (show ofD 256 [] = 0 from rfl))))))))
  rw [hf] at hb ⊢
  exact toD_congr W_pos (InB_InD (b := 4294967296) (n := 8) hb) rfl ⟨0, e.symm.trans (Int.add_zero _).symm⟩

end Go.X

namespace Go.X
noncomputable section
abbrev l_Less : List Sem := []
def g_Less_0 : List (Nat × Ins) := [(33, .op2 .lss .u32 (.v 15) (.v 31)),
  (32, .op2 .neq .u32 (.v 15) (.v 31))]
def outs_Less_0 : List A := [(.v 33)]
def q_Less_0 : FPath := ⟨(bs 32 0 4294967295), g_Less_0, [.cond (.v 32) true], outs_Less_0⟩
def g_Less_1 : List (Nat × Ins) := [(34, .op2 .lss .u32 (.v 14) (.v 30)),
  (33, .op2 .neq .u32 (.v 14) (.v 30)),
  (32, .op2 .neq .u32 (.v 15) (.v 31))]
def outs_Less_1 : List A := [(.v 34)]
def q_Less_1 : FPath := ⟨(bs 32 0 4294967295), g_Less_1, [.cond (.v 33) true, .cond (.v 32) false], outs_Less_1⟩
def g_Less_2 : List (Nat × Ins) := [(35, .op2 .lss .u32 (.v 13) (.v 29)),
  (34, .op2 .neq .u32 (.v 13) (.v 29)),
  (33, .op2 .neq .u32 (.v 14) (.v 30)),
  (32, .op2 .neq .u32 (.v 15) (.v 31))]
def outs_Less_2 : List A := [(.v 35)]
def q_Less_2 : FPath := ⟨(bs 32 0 4294967295), g_Less_2, [.cond (.v 34) true, .cond (.v 33) false, .cond (.v 32) false], outs_Less_2⟩
def g_Less_3 : List (Nat × Ins) := [(36, .op2 .lss .u32 (.v 12) (.v 28)),
  (35, .op2 .neq .u32 (.v 12) (.v 28)),
  (34, .op2 .neq .u32 (.v 13) (.v 29)),
  (33, .op2 .neq .u32 (.v 14) (.v 30)),
  (32, .op2 .neq .u32 (.v 15) (.v 31))]
def outs_Less_3 : List A := [(.v 36)]
def q_Less_3 : FPath := ⟨(bs 32 0 4294967295), g_Less_3, [.cond (.v 35) true, .cond (.v 34) false, .cond (.v 33) false, .cond (.v 32) false], outs_Less_3⟩
def g_Less_4 : List (Nat × Ins) := [(37, .op2 .lss .u32 (.v 11) (.v 27)),
  (36, .op2 .neq .u32 (.v 11) (.v 27)),
  (35, .op2 .neq .u32 (.v 12) (.v 28)),
  (34, .op2 .neq .u32 (.v 13) (.v 29)),
  (33, .op2 .neq .u32 (.v 14) (.v 30)),
  (32, .op2 .neq .u32 (.v 15) (.v 31))]
def outs_Less_4 : List A := [(.v 37)]
def q_Less_4 : FPath := ⟨(bs 32 0 4294967295), g_Less_4, [.cond (.v 36) true, .cond (.v 35) false, .cond (.v 34) false, .cond (.v 33) false, .cond (.v 32) false], outs_Less_4⟩
def g_Less_5 : List (Nat × Ins) := [(38, .op2 .lss .u32 (.v 10) (.v 26)),
  (37, .op2 .neq .u32 (.v 10) (.v 26)),
  (36, .op2 .neq .u32 (.v 11) (.v 27)),
  (35, .op2 .neq .u32 (.v 12) (.v 28)),
  (34, .op2 .neq .u32 (.v 13) (.v 29)),
  (33, .op2 .neq .u32 (.v 14) (.v 30)),
  (32, .op2 .neq .u32 (.v 15) (.v 31))]
def outs_Less_5 : List A := [(.v 38)]
def q_Less_5 : FPath := ⟨(bs 32 0 4294967295), g_Less_5, [.cond (.v 37) true, .cond (.v 36) false, .cond (.v 35) false, .cond (.v 34) false, .cond (.v 33) false, .cond (.v 32) false], outs_Less_5⟩
def g_Less_6 : List (Nat × Ins) := [(39, .op2 .lss .u32 (.v 9) (.v 25)),
  (38, .op2 .neq .u32 (.v 9) (.v 25)),
  (37, .op2 .neq .u32 (.v 10) (.v 26)),
  (36, .op2 .neq .u32 (.v 11) (.v 27)),
  (35, .op2 .neq .u32 (.v 12) (.v 28)),
  (34, .op2 .neq .u32 (.v 13) (.v 29)),
  (33, .op2 .neq .u32 (.v 14) (.v 30)),
  (32, .op2 .neq .u32 (.v 15) (.v 31))]
def outs_Less_6 : List A := [(.v 39)]
def q_Less_6 : FPath := ⟨(bs 32 0 4294967295), g_Less_6, [.cond (.v 38) true, .cond (.v 37) false, .cond (.v 36) false, .cond (.v 35) false, .cond (.v 34) false, .cond (.v 33) false, .cond (.v 32) false], outs_Less_6⟩
def g_Less_7 : List (Nat × Ins) := [(40, .op2 .lss .u32 (.v 8) (.v 24)),
  (39, .op2 .neq .u32 (.v 8) (.v 24)),
  (38, .op2 .neq .u32 (.v 9) (.v 25)),
  (37, .op2 .neq .u32 (.v 10) (.v 26)),
  (36, .op2 .neq .u32 (.v 11) (.v 27)),
  (35, .op2 .neq .u32 (.v 12) (.v 28)),
  (34, .op2 .neq .u32 (.v 13) (.v 29)),
  (33, .op2 .neq .u32 (.v 14) (.v 30)),
  (32, .op2 .neq .u32 (.v 15) (.v 31))]
def outs_Less_7 : List A := [(.v 40)]
def q_Less_7 : FPath := ⟨(bs 32 0 4294967295), g_Less_7, [.cond (.v 39) true, .cond (.v 38) false, .cond (.v 37) false, .cond (.v 36) false, .cond (.v 35) false, .cond (.v 34) false, .cond (.v 33) false, .cond (.v 32) false], outs_Less_7⟩
def g_Less_8 : List (Nat × Ins) := [(41, .op2 .lss .u32 (.v 7) (.v 23)),
  (40, .op2 .neq .u32 (.v 7) (.v 23)),
  (39, .op2 .neq .u32 (.v 8) (.v 24)),
  (38, .op2 .neq .u32 (.v 9) (.v 25)),
  (37, .op2 .neq .u32 (.v 10) (.v 26)),
  (36, .op2 .neq .u32 (.v 11) (.v 27)),
  (35, .op2 .neq .u32 (.v 12) (.v 28)),
  (34, .op2 .neq .u32 (.v 13) (.v 29)),
  (33, .op2 .neq .u32 (.v 14) (.v 30)),
  (32, .op2 .neq .u32 (.v 15) (.v 31))]
def outs_Less_8 : List A := [(.v 41)]
def q_Less_8 : FPath := ⟨(bs 32 0 4294967295), g_Less_8, [.cond (.v 40) true, .cond (.v 39) false, .cond (.v 38) false, .cond (.v 37) false, .cond (.v 36) false, .cond (.v 35) false, .cond (.v 34) false, .cond (.v 33) false, .cond (.v 32) false], outs_Less_8⟩
def g_Less_9 : List (Nat × Ins) := [(42, .op2 .lss .u32 (.v 6) (.v 22)),
  (41, .op2 .neq .u32 (.v 6) (.v 22)),
  (40, .op2 .neq .u32 (.v 7) (.v 23)),
  (39, .op2 .neq .u32 (.v 8) (.v 24)),
  (38, .op2 .neq .u32 (.v 9) (.v 25)),
  (37, .op2 .neq .u32 (.v 10) (.v 26)),
  (36, .op2 .neq .u32 (.v 11) (.v 27)),
  (35, .op2 .neq .u32 (.v 12) (.v 28)),
  (34, .op2 .neq .u32 (.v 13) (.v 29)),
  (33, .op2 .neq .u32 (.v 14) (.v 30)),
  (32, .op2 .neq .u32 (.v 15) (.v 31))]
def outs_Less_9 : List A := [(.v 42)]
def q_Less_9 : FPath := ⟨(bs 32 0 4294967295), g_Less_9, [.cond (.v 41) true, .cond (.v 40) false, .cond (.v 39) false, .cond (.v 38) false, .cond (.v 37) false, .cond (.v 36) false, .cond (.v 35) false, .cond (.v 34) false, .cond (.v 33) false, .cond (.v 32) false], outs_Less_9⟩
def g_Less_10 : List (Nat × Ins) := [(43, .op2 .lss .u32 (.v 5) (.v 21)),
  (42, .op2 .neq .u32 (.v 5) (.v 21)),
  (41, .op2 .neq .u32 (.v 6) (.v 22)),
  (40, .op2 .neq .u32 (.v 7) (.v 23)),
  (39, .op2 .neq .u32 (.v 8) (.v 24)),
  (38, .op2 .neq .u32 (.v 9) (.v 25)),
  (37, .op2 .neq .u32 (.v 10) (.v 26)),
  (36, .op2 .neq .u32 (.v 11) (.v 27)),
  (35, .op2 .neq .u32 (.v 12) (.v 28)),
  (34, .op2 .neq .u32 (.v 13) (.v 29)),
  (33, .op2 .neq .u32 (.v 14) (.v 30)),
  (32, .op2 .neq .u32 (.v 15) (.v 31))]
def outs_Less_10 : List A := [(.v 43)]
def q_Less_10 : FPath := ⟨(bs 32 0 4294967295), g_Less_10, [.cond (.v 42) true, .cond (.v 41) false, .cond (.v 40) false, .cond (.v 39) false, .cond (.v 38) false, .cond (.v 37) false, .cond (.v 36) false, .cond (.v 35) false, .cond (.v 34) false, .cond (.v 33) false, .cond (.v 32) false], outs_Less_10⟩
def g_Less_11 : List (Nat × Ins) := [(44, .op2 .lss .u32 (.v 4) (.v 20)),
  (43, .op2 .neq .u32 (.v 4) (.v 20)),
  (42, .op2 .neq .u32 (.v 5) (.v 21)),
  (41, .op2 .neq .u32 (.v 6) (.v 22)),
  (40, .op2 .neq .u32 (.v 7) (.v 23)),
  (39, .op2 .neq .u32 (.v 8) (.v 24)),
  (38, .op2 .neq .u32 (.v 9) (.v 25)),
  (37, .op2 .neq .u32 (.v 10) (.v 26)),
  (36, .op2 .neq .u32 (.v 11) (.v 27)),
  (35, .op2 .neq .u32 (.v 12) (.v 28)),
  (34, .op2 .neq .u32 (.v 13) (.v 29)),
  (33, .op2 .neq .u32 (.v 14) (.v 30)),
  (32, .op2 .neq .u32 (.v 15) (.v 31))]
def outs_Less_11 : List A := [(.v 44)]
def q_Less_11 : FPath := ⟨(bs 32 0 4294967295), g_Less_11, [.cond (.v 43) true, .cond (.v 42) false, .cond (.v 41) false, .cond (.v 40) false, .cond (.v 39) false, .cond (.v 38) false, .cond (.v 37) false, .cond (.v 36) false, .cond (.v 35) false, .cond (.v 34) false, .cond (.v 33) false, .cond (.v 32) false], outs_Less_11⟩
def g_Less_12 : List (Nat × Ins) := [(45, .op2 .lss .u32 (.v 3) (.v 19)),
  (44, .op2 .neq .u32 (.v 3) (.v 19)),
  (43, .op2 .neq .u32 (.v 4) (.v 20)),
  (42, .op2 .neq .u32 (.v 5) (.v 21)),
  (41, .op2 .neq .u32 (.v 6) (.v 22)),
  (40, .op2 .neq .u32 (.v 7) (.v 23)),
  (39, .op2 .neq .u32 (.v 8) (.v 24)),
  (38, .op2 .neq .u32 (.v 9) (.v 25)),
  (37, .op2 .neq .u32 (.v 10) (.v 26)),
  (36, .op2 .neq .u32 (.v 11) (.v 27)),
  (35, .op2 .neq .u32 (.v 12) (.v 28)),
  (34, .op2 .neq .u32 (.v 13) (.v 29)),
  (33, .op2 .neq .u32 (.v 14) (.v 30)),
  (32, .op2 .neq .u32 (.v 15) (.v 31))]
def outs_Less_12 : List A := [(.v 45)]
def q_Less_12 : FPath := ⟨(bs 32 0 4294967295), g_Less_12, [.cond (.v 44) true, .cond (.v 43) false, .cond (.v 42) false, .cond (.v 41) false, .cond (.v 40) false, .cond (.v 39) false, .cond (.v 38) false, .cond (.v 37) false, .cond (.v 36) false, .cond (.v 35) false, .cond (.v 34) false, .cond (.v 33) false, .cond (.v 32) false], outs_Less_12⟩
def g_Less_13 : List (Nat × Ins) := [(46, .op2 .lss .u32 (.v 2) (.v 18)),
  (45, .op2 .neq .u32 (.v 2) (.v 18)),
  (44, .op2 .neq .u32 (.v 3) (.v 19)),
  (43, .op2 .neq .u32 (.v 4) (.v 20)),
  (42, .op2 .neq .u32 (.v 5) (.v 21)),
  (41, .op2 .neq .u32 (.v 6) (.v 22)),
  (40, .op2 .neq .u32 (.v 7) (.v 23)),
  (39, .op2 .neq .u32 (.v 8) (.v 24)),
  (38, .op2 .neq .u32 (.v 9) (.v 25)),
  (37, .op2 .neq .u32 (.v 10) (.v 26)),
  (36, .op2 .neq .u32 (.v 11) (.v 27)),
  (35, .op2 .neq .u32 (.v 12) (.v 28)),
  (34, .op2 .neq .u32 (.v 13) (.v 29)),
  (33, .op2 .neq .u32 (.v 14) (.v 30)),
  (32, .op2 .neq .u32 (.v 15) (.v 31))]
def outs_Less_13 : List A := [(.v 46)]
def q_Less_13 : FPath := ⟨(bs 32 0 4294967295), g_Less_13, [.cond (.v 45) true, .cond (.v 44) false, .cond (.v 43) false, .cond (.v 42) false, .cond (.v 41) false, .cond (.v 40) false, .cond (.v 39) false, .cond (.v 38) false, .cond (.v 37) false, .cond (.v 36) false, .cond (.v 35) false, .cond (.v 34) false, .cond (.v 33) false, .cond (.v 32) false], outs_Less_13⟩
def g_Less_14 : List (Nat × Ins) := [(47, .op2 .lss .u32 (.v 1) (.v 17)),
  (46, .op2 .neq .u32 (.v 1) (.v 17)),
  (45, .op2 .neq .u32 (.v 2) (.v 18)),
  (44, .op2 .neq .u32 (.v 3) (.v 19)),
  (43, .op2 .neq .u32 (.v 4) (.v 20)),
  (42, .op2 .neq .u32 (.v 5) (.v 21)),
  (41, .op2 .neq .u32 (.v 6) (.v 22)),
  (40, .op2 .neq .u32 (.v 7) (.v 23)),
  (39, .op2 .neq .u32 (.v 8) (.v 24)),
  (38, .op2 .neq .u32 (.v 9) (.v 25)),
  (37, .op2 .neq .u32 (.v 10) (.v 26)),
  (36, .op2 .neq .u32 (.v 11) (.v 27)),
  (35, .op2 .neq .u32 (.v 12) (.v 28)),
  (34, .op2 .neq .u32 (.v 13) (.v 29)),
  (33, .op2 .neq .u32 (.v 14) (.v 30)),
  (32, .op2 .neq .u32 (.v 15) (.v 31))]
def outs_Less_14 : List A := [(.v 47)]
def q_Less_14 : FPath := ⟨(bs 32 0 4294967295), g_Less_14, [.cond (.v 46) true, .cond (.v 45) false, .cond (.v 44) false, .cond (.v 43) false, .cond (.v 42) false, .cond (.v 41) false, .cond (.v 40) false, .cond (.v 39) false, .cond (.v 38) false, .cond (.v 37) false, .cond (.v 36) false, .cond (.v 35) false, .cond (.v 34) false, .cond (.v 33) false, .cond (.v 32) false], outs_Less_14⟩
def g_Less_15 : List (Nat × Ins) := [(48, .op2 .lss .u32 (.v 0) (.v 16)),
  (47, .op2 .neq .u32 (.v 0) (.v 16)),
  (46, .op2 .neq .u32 (.v 1) (.v 17)),
  (45, .op2 .neq .u32 (.v 2) (.v 18)),
  (44, .op2 .neq .u32 (.v 3) (.v 19)),
  (43, .op2 .neq .u32 (.v 4) (.v 20)),
  (42, .op2 .neq .u32 (.v 5) (.v 21)),
  (41, .op2 .neq .u32 (.v 6) (.v 22)),
  (40, .op2 .neq .u32 (.v 7) (.v 23)),
  (39, .op2 .neq .u32 (.v 8) (.v 24)),
  (38, .op2 .neq .u32 (.v 9) (.v 25)),
  (37, .op2 .neq .u32 (.v 10) (.v 26)),
  (36, .op2 .neq .u32 (.v 11) (.v 27)),
  (35, .op2 .neq .u32 (.v 12) (.v 28)),
  (34, .op2 .neq .u32 (.v 13) (.v 29)),
  (33, .op2 .neq .u32 (.v 14) (.v 30)),
  (32, .op2 .neq .u32 (.v 15) (.v 31))]
def outs_Less_15 : List A := [(.v 48)]
def q_Less_15 : FPath := ⟨(bs 32 0 4294967295), g_Less_15, [.cond (.v 47) true, .cond (.v 46) false, .cond (.v 45) false, .cond (.v 44) false, .cond (.v 43) false, .cond (.v 42) false, .cond (.v 41) false, .cond (.v 40) false, .cond (.v 39) false, .cond (.v 38) false, .cond (.v 37) false, .cond (.v 36) false, .cond (.v 35) false, .cond (.v 34) false, .cond (.v 33) false, .cond (.v 32) false], outs_Less_15⟩
def g_Less_16 : List (Nat × Ins) := [(47, .op2 .neq .u32 (.v 0) (.v 16)),
  (46, .op2 .neq .u32 (.v 1) (.v 17)),
  (45, .op2 .neq .u32 (.v 2) (.v 18)),
  (44, .op2 .neq .u32 (.v 3) (.v 19)),
  (43, .op2 .neq .u32 (.v 4) (.v 20)),
  (42, .op2 .neq .u32 (.v 5) (.v 21)),
  (41, .op2 .neq .u32 (.v 6) (.v 22)),
  (40, .op2 .neq .u32 (.v 7) (.v 23)),
  (39, .op2 .neq .u32 (.v 8) (.v 24)),
  (38, .op2 .neq .u32 (.v 9) (.v 25)),
  (37, .op2 .neq .u32 (.v 10) (.v 26)),
  (36, .op2 .neq .u32 (.v 11) (.v 27)),
  (35, .op2 .neq .u32 (.v 12) (.v 28)),
  (34, .op2 .neq .u32 (.v 13) (.v 29)),
  (33, .op2 .neq .u32 (.v 14) (.v 30)),
  (32, .op2 .neq .u32 (.v 15) (.v 31))]
def outs_Less_16 : List A := [(.l 0)]
def q_Less_16 : FPath := ⟨(bs 32 0 4294967295), g_Less_16, [.cond (.v 47) false, .cond (.v 46) false, .cond (.v 45) false, .cond (.v 44) false, .cond (.v 43) false, .cond (.v 42) false, .cond (.v 41) false, .cond (.v 40) false, .cond (.v 39) false, .cond (.v 38) false, .cond (.v 37) false, .cond (.v 36) false, .cond (.v 35) false, .cond (.v 34) false, .cond (.v 33) false, .cond (.v 32) false], outs_Less_16⟩
def q_Less : List FPath := [q_Less_0, q_Less_1, q_Less_2, q_Less_3, q_Less_4, q_Less_5, q_Less_6, q_Less_7, q_Less_8, q_Less_9, q_Less_10, q_Less_11, q_Less_12, q_Less_13, q_Less_14, q_Less_15, q_Less_16]
def bi_Less : Bd := (bs 32 0 4294967295)
def bo_Less : Bd := [(0, 1)]

theorem E_Less_0 (xs : List Int) (hx : InB (bs 32 0 4294967295) xs) : ∃ v : Nat → Int, vals l_Less g_Less_0 xs = v ∧ seg v 0 32 = xs ∧ ((v 32 = op2 .neq .u32 (v 15) (v 31)) ∧ (v 33 = op2 .lss .u32 (v 15) (v 31))) ∧ (True) ∧ (CondHold v q_Less_0.asm = ((v 32 != 0) = true ∧ True)) ∧ outs_Less_0.map (A.ev v) = ([v 33]) :=
  Eq.mp (by kernel_rfl) (runQ (q := q_Less_0.asm) (o := outs_Less_0) (l := l_Less) (g := g_Less_0) (nin := 32) (top := 34) (by kernel_rfl) hx)
theorem E_Less_1 (xs : List Int) (hx : InB (bs 32 0 4294967295) xs) : ∃ v : Nat → Int, vals l_Less g_Less_1 xs = v ∧ seg v 0 32 = xs ∧ ((v 32 = op2 .neq .u32 (v 15) (v 31)) ∧ (v 33 = op2 .neq .u32 (v 14) (v 30)) ∧ (v 34 = op2 .lss .u32 (v 14) (v 30))) ∧ (True) ∧ (CondHold v q_Less_1.asm = ((v 33 != 0) = true ∧ ((v 32 != 0) = false ∧ True))) ∧ outs_Less_1.map (A.ev v) = ([v 34]) :=
  Eq.mp (by kernel_rfl) (runQ (q := q_Less_1.asm) (o := outs_Less_1) (l := l_Less) (g := g_Less_1) (nin := 32) (top := 35) (by kernel_rfl) hx)
theorem E_Less_2 (xs : List Int) (hx : InB (bs 32 0 4294967295) xs) : ∃ v : Nat → Int, vals l_Less g_Less_2 xs = v ∧ seg v 0 32 = xs ∧ ((v 32 = op2 .neq .u32 (v 15) (v 31)) ∧ (v 33 = op2 .neq .u32 (v 14) (v 30)) ∧ (v 34 = op2 .neq .u32 (v 13) (v 29)) ∧ (v 35 = op2 .lss .u32 (v 13) (v 29))) ∧ (True) ∧ (CondHold v q_Less_2.asm = ((v 34 != 0) = true ∧ ((v 33 != 0) = false ∧ ((v 32 != 0) = false ∧ True)))) ∧ outs_Less_2.map (A.ev v) = ([v 35]) :=
  Eq.mp (by kernel_rfl) (runQ (q := q_Less_2.asm) (o := outs_Less_2) (l := l_Less) (g := g_Less_2) (nin := 32) (top := 36) (by kernel_rfl) hx)
theorem E_Less_3 (xs : List Int) (hx : InB (bs 32 0 4294967295) xs) : ∃ v : Nat → Int, vals l_Less g_Less_3 xs = v ∧ seg v 0 32 = xs ∧ ((v 32 = op2 .neq .u32 (v 15) (v 31)) ∧ (v 33 = op2 .neq .u32 (v 14) (v 30)) ∧ (v 34 = op2 .neq .u32 (v 13) (v 29)) ∧ (v 35 = op2 .neq .u32 (v 12) (v 28)) ∧ (v 36 = op2 .lss .u32 (v 12) (v 28))) ∧ (True) ∧ (CondHold v q_Less_3.asm = ((v 35 != 0) = true ∧ ((v 34 != 0) = false ∧ ((v 33 != 0) = false ∧ ((v 32 != 0) = false ∧ True))))) ∧ outs_Less_3.map (A.ev v) = ([v 36]) :=
  Eq.mp (by kernel_rfl) (runQ (q := q_Less_3.asm) (o := outs_Less_3) (l := l_Less) (g := g_Less_3) (nin := 32) (top := 37) (by kernel_rfl) hx)
theorem E_Less_4 (xs : List Int) (hx : InB (bs 32 0 4294967295) xs) : ∃ v : Nat → Int, vals l_Less g_Less_4 xs = v ∧ seg v 0 32 = xs ∧ ((v 32 = op2 .neq .u32 (v 15) (v 31)) ∧ (v 33 = op2 .neq .u32 (v 14) (v 30)) ∧ (v 34 = op2 .neq .u32 (v 13) (v 29)) ∧ (v 35 = op2 .neq .u32 (v 12) (v 28)) ∧ (v 36 = op2 .neq .u32 (v 11) (v 27)) ∧ (v 37 = op2 .lss .u32 (v 11) (v 27))) ∧ (True) ∧ (CondHold v q_Less_4.asm = ((v 36 != 0) = true ∧ ((v 35 != 0) = false ∧ ((v 34 != 0) = false ∧ ((v 33 != 0) = false ∧ ((v 32 != 0) = false ∧ True)))))) ∧ outs_Less_4.map (A.ev v) = ([v 37]) :=
  Eq.mp (by kernel_rfl) (runQ (q := q_Less_4.asm) (o := outs_Less_4) (l := l_Less) (g := g_Less_4) (nin := 32) (top := 38) (by kernel_rfl) hx)
theorem E_Less_5 (xs : List Int) (hx : InB (bs 32 0 4294967295) xs) : ∃ v : Nat → Int, vals l_Less g_Less_5 xs = v ∧ seg v 0 32 = xs ∧ ((v 32 = op2 .neq .u32 (v 15) (v 31)) ∧ (v 33 = op2 .neq .u32 (v 14) (v 30)) ∧ (v 34 = op2 .neq .u32 (v 13) (v 29)) ∧ (v 35 = op2 .neq .u32 (v 12) (v 28)) ∧ (v 36 = op2 .neq .u32 (v 11) (v 27)) ∧ (v 37 = op2 .neq .u32 (v 10) (v 26)) ∧ (v 38 = op2 .lss .u32 (v 10) (v 26))) ∧ (True) ∧ (CondHold v q_Less_5.asm = ((v 37 != 0) = true ∧ ((v 36 != 0) = false ∧ ((v 35 != 0) = false ∧ ((v 34 != 0) = false ∧ ((v 33 != 0) = false ∧ ((v 32 != 0) = false ∧ True))))))) ∧ outs_Less_5.map (A.ev v) = ([v 38]) :=
  Eq.mp (by kernel_rfl) (runQ (q := q_Less_5.asm) (o := outs_Less_5) (l := l_Less) (g := g_Less_5) (nin := 32) (top := 39) (by kernel_rfl) hx)
theorem E_Less_6 (xs : List Int) (hx : InB (bs 32 0 4294967295) xs) : ∃ v : Nat → Int, vals l_Less g_Less_6 xs = v ∧ seg v 0 32 = xs ∧ ((v 32 = op2 .neq .u32 (v 15) (v 31)) ∧ (v 33 = op2 .neq .u32 (v 14) (v 30)) ∧ (v 34 = op2 .neq .u32 (v 13) (v 29)) ∧ (v 35 = op2 .neq .u32 (v 12) (v 28)) ∧ (v 36 = op2 .neq .u32 (v 11) (v 27)) ∧ (v 37 = op2 .neq .u32 (v 10) (v 26)) ∧ (v 38 = op2 .neq .u32 (v 9) (v 25)) ∧ (v 39 = op2 .lss .u32 (v 9) (v 25))) ∧ (True) ∧ (CondHold v q_Less_6.asm = ((v 38 != 0) = true ∧ ((v 37 != 0) = false ∧ ((v 36 != 0) = false ∧ ((v 35 != 0) = false ∧ ((v 34 != 0) = false ∧ ((v 33 != 0) = false ∧ ((v 32 != 0) = false ∧ True)))))))) ∧ outs_Less_6.map (A.ev v) = ([v 39]) :=
  Eq.mp (by kernel_rfl) (runQ (q := q_Less_6.asm) (o := outs_Less_6) (l := l_Less) (g := g_Less_6) (nin := 32) (top := 40) (by kernel_rfl) hx)
theorem E_Less_7 (xs : List Int) (hx : InB (bs 32 0 4294967295) xs) : ∃ v : Nat → Int, vals l_Less g_Less_7 xs = v ∧ seg v 0 32 = xs ∧ ((v 32 = op2 .neq .u32 (v 15) (v 31)) ∧ (v 33 = op2 .neq .u32 (v 14) (v 30)) ∧ (v 34 = op2 .neq .u32 (v 13) (v 29)) ∧ (v 35 = op2 .neq .u32 (v 12) (v 28)) ∧ (v 36 = op2 .neq .u32 (v 11) (v 27)) ∧ (v 37 = op2 .neq .u32 (v 10) (v 26)) ∧ (v 38 = op2 .neq .u32 (v 9) (v 25)) ∧ (v 39 = op2 .neq .u32 (v 8) (v 24)) ∧ (v 40 = op2 .lss .u32 (v 8) (v 24))) ∧ (True) ∧ (CondHold v q_Less_7.asm = ((v 39 != 0) = true ∧ ((v 38 != 0) = false ∧ ((v 37 != 0) = false ∧ ((v 36 != 0) = false ∧ ((v 35 != 0) = false ∧ ((v 34 != 0) = false ∧ ((v 33 != 0) = false ∧ ((v 32 != 0) = false ∧ True))))))))) ∧ outs_Less_7.map (A.ev v) = ([v 40]) :=
  Eq.mp (by kernel_rfl) (runQ (q := q_Less_7.asm) (o := outs_Less_7) (l := l_Less) (g := g_Less_7) (nin := 32) (top := 41) (by kernel_rfl) hx)
theorem E_Less_8 (xs : List Int) (hx : InB (bs 32 0 4294967295) xs) : ∃ v : Nat → Int, vals l_Less g_Less_8 xs = v ∧ seg v 0 32 = xs ∧ ((v 32 = op2 .neq .u32 (v 15) (v 31)) ∧ (v 33 = op2 .neq .u32 (v 14) (v 30)) ∧ (v 34 = op2 .neq .u32 (v 13) (v 29)) ∧ (v 35 = op2 .neq .u32 (v 12) (v 28)) ∧ (v 36 = op2 .neq .u32 (v 11) (v 27)) ∧ (v 37 = op2 .neq .u32 (v 10) (v 26)) ∧ (v 38 = op2 .neq .u32 (v 9) (v 25)) ∧ (v 39 = op2 .neq .u32 (v 8) (v 24)) ∧ (v 40 = op2 .neq .u32 (v 7) (v 23)) ∧ (v 41 = op2 .lss .u32 (v 7) (v 23))) ∧ (True) ∧ (CondHold v q_Less_8.asm = ((v 40 != 0) = true ∧ ((v 39 != 0) = false ∧ ((v 38 != 0) = false ∧ ((v 37 != 0) = false ∧ ((v 36 != 0) = false ∧ ((v 35 != 0) = false ∧ ((v 34 != 0) = false ∧ ((v 33 != 0) = false ∧ ((v 32 != 0) = false ∧ True)))))))))) ∧ outs_Less_8.map (A.ev v) = ([v 41]) :=
  Eq.mp (by kernel_rfl) (runQ (q := q_Less_8.asm) (o := outs_Less_8) (l := l_Less) (g := g_Less_8) (nin := 32) (top := 42) (by kernel_rfl) hx)
theorem E_Less_9 (xs : List Int) (hx : InB (bs 32 0 4294967295) xs) : ∃ v : Nat → Int, vals l_Less g_Less_9 xs = v ∧ seg v 0 32 = xs ∧ ((v 32 = op2 .neq .u32 (v 15) (v 31)) ∧ (v 33 = op2 .neq .u32 (v 14) (v 30)) ∧ (v 34 = op2 .neq .u32 (v 13) (v 29)) ∧ (v 35 = op2 .neq .u32 (v 12) (v 28)) ∧ (v 36 = op2 .neq .u32 (v 11) (v 27)) ∧ (v 37 = op2 .neq .u32 (v 10) (v 26)) ∧ (v 38 = op2 .neq .u32 (v 9) (v 25)) ∧ (v 39 = op2 .neq .u32 (v 8) (v 24)) ∧ (v 40 = op2 .neq .u32 (v 7) (v 23)) ∧ (v 41 = op2 .neq .u32 (v 6) (v 22)) ∧ (v 42 = op2 .lss .u32 (v 6) (v 22))) ∧ (True) ∧ (CondHold v q_Less_9.asm = ((v 41 != 0) = true ∧ ((v 40 != 0) = false ∧ ((v 39 != 0) = false ∧ ((v 38 != 0) = false ∧ ((v 37 != 0) = false ∧ ((v 36 != 0) = false ∧ ((v 35 != 0) = false ∧ ((v 34 != 0) = false ∧ ((v 33 != 0) = false ∧ ((v 32 != 0) = false ∧ True))))))))))) ∧ outs_Less_9.map (A.ev v) = ([v 42]) :=
  Eq.mp (by kernel_rfl) (runQ (q := q_Less_9.asm) (o := outs_Less_9) (l := l_Less) (g := g_Less_9) (nin := 32) (top := 43) (by kernel_rfl) hx)
theorem E_Less_10 (xs : List Int) (hx : InB (bs 32 0 4294967295) xs) : ∃ v : Nat → Int, vals l_Less g_Less_10 xs = v ∧ seg v 0 32 = xs ∧ ((v 32 = op2 .neq .u32 (v 15) (v 31)) ∧ (v 33 = op2 .neq .u32 (v 14) (v 30)) ∧ (v 34 = op2 .neq .u32 (v 13) (v 29)) ∧ (v 35 = op2 .neq .u32 (v 12) (v 28)) ∧ (v 36 = op2 .neq .u32 (v 11) (v 27)) ∧ (v 37 = op2 .neq .u32 (v 10) (v 26)) ∧ (v 38 = op2 .neq .u32 (v 9) (v 25)) ∧ (v 39 = op2 .neq .u32 (v 8) (v 24)) ∧ (v 40 = op2 .neq .u32 (v 7) (v 23)) ∧ (v 41 = op2 .neq .u32 (v 6) (v 22)) ∧ (v 42 = op2 .neq .u32 (v 5) (v 21)) ∧ (v 43 = op2 .lss .u32 (v 5) (v 21))) ∧ (True) ∧ (CondHold v q_Less_10.asm = ((v 42 != 0) = true ∧ ((v 41 != 0) = false ∧ ((v 40 != 0) = false ∧ ((v 39 != 0) = false ∧ ((v 38 != 0) = false ∧ ((v 37 != 0) = false ∧ ((v 36 != 0) = false ∧ ((v 35 != 0) = false ∧ ((v 34 != 0) = false ∧ ((v 33 != 0) = false ∧ ((v 32 != 0) = false ∧ True)))))))))))) ∧ outs_Less_10.map (A.ev v) = ([v 43]) :=
  Eq.mp (by kernel_rfl) (runQ (q := q_Less_10.asm) (o := outs_Less_10) (l := l_Less) (g := g_Less_10) (nin := 32) (top := 44) (by kernel_rfl) hx)
theorem E_Less_11 (xs : List Int) (hx : InB (bs 32 0 4294967295) xs) : ∃ v : Nat → Int, vals l_Less g_Less_11 xs = v ∧ seg v 0 32 = xs ∧ ((v 32 = op2 .neq .u32 (v 15) (v 31)) ∧ (v 33 = op2 .neq .u32 (v 14) (v 30)) ∧ (v 34 = op2 .neq .u32 (v 13) (v 29)) ∧ (v 35 = op2 .neq .u32 (v 12) (v 28)) ∧ (v 36 = op2 .neq .u32 (v 11) (v 27)) ∧ (v 37 = op2 .neq .u32 (v 10) (v 26)) ∧ (v 38 = op2 .neq .u32 (v 9) (v 25)) ∧ (v 39 = op2 .neq .u32 (v 8) (v 24)) ∧ (v 40 = op2 .neq .u32 (v 7) (v 23)) ∧ (v 41 = op2 .neq .u32 (v 6) (v 22)) ∧ (v 42 = op2 .neq .u32 (v 5) (v 21)) ∧ (v 43 = op2 .neq .u32 (v 4) (v 20)) ∧ (v 44 = op2 .lss .u32 (v 4) (v 20))) ∧ (True) ∧ (CondHold v q_Less_11.asm = ((v 43 != 0) = true ∧ ((v 42 != 0) = false ∧ ((v 41 != 0) = false ∧ ((v 40 != 0) = false ∧ ((v 39 != 0) = false ∧ ((v 38 != 0) = false ∧ ((v 37 != 0) = false ∧ ((v 36 != 0) = false ∧ ((v 35 != 0) = false ∧ ((v 34 != 0) = false ∧ ((v 33 != 0) = false ∧ ((v 32 != 0) = false ∧ True))))))))))))) ∧ outs_Less_11.map (A.ev v) = ([v 44]) :=
  Eq.mp (by kernel_rfl) (runQ (q := q_Less_11.asm) (o := outs_Less_11) (l := l_Less) (g := g_Less_11) (nin := 32) (top := 45) (by kernel_rfl) hx)
theorem E_Less_12 (xs : List Int) (hx : InB (bs 32 0 4294967295) xs) : ∃ v : Nat → Int, vals l_Less g_Less_12 xs = v ∧ seg v 0 32 = xs ∧ ((v 32 = op2 .neq .u32 (v 15) (v 31)) ∧ (v 33 = op2 .neq .u32 (v 14) (v 30)) ∧ (v 34 = op2 .neq .u32 (v 13) (v 29)) ∧ (v 35 = op2 .neq .u32 (v 12) (v 28)) ∧ (v 36 = op2 .neq .u32 (v 11) (v 27)) ∧ (v 37 = op2 .neq .u32 (v 10) (v 26)) ∧ (v 38 = op2 .neq .u32 (v 9) (v 25)) ∧ (v 39 = op2 .neq .u32 (v 8) (v 24)) ∧ (v 40 = op2 .neq .u32 (v 7) (v 23)) ∧ (v 41 = op2 .neq .u32 (v 6) (v 22)) ∧ (v 42 = op2 .neq .u32 (v 5) (v 21)) ∧ (v 43 = op2 .neq .u32 (v 4) (v 20)) ∧ (v 44 = op2 .neq .u32 (v 3) (v 19)) ∧ (v 45 = op2 .lss .u32 (v 3) (v 19))) ∧ (True) ∧ (CondHold v q_Less_12.asm = ((v 44 != 0) = true ∧ ((v 43 != 0) = false ∧ ((v 42 != 0) = false ∧ ((v 41 != 0) = false ∧ ((v 40 != 0) = false ∧ ((v 39 != 0) = false ∧ ((v 38 != 0) = false ∧ ((v 37 != 0) = false ∧ ((v 36 != 0) = false ∧ ((v 35 != 0) = false ∧ ((v 34 != 0) = false ∧ ((v 33 != 0) = false ∧ ((v 32 != 0) = false ∧ True)))))))))))))) ∧ outs_Less_12.map (A.ev v) = ([v 45]) :=
  Eq.mp (by kernel_rfl) (runQ (q := q_Less_12.asm) (o := outs_Less_12) (l := l_Less) (g := g_Less_12) (nin := 32) (top := 46) (by kernel_rfl) hx)
theorem E_Less_13 (xs : List Int) (hx : InB (bs 32 0 4294967295) xs) : ∃ v : Nat → Int, vals l_Less g_Less_13 xs = v ∧ seg v 0 32 = xs ∧ ((v 32 = op2 .neq .u32 (v 15) (v 31)) ∧ (v 33 = op2 .neq .u32 (v 14) (v 30)) ∧ (v 34 = op2 .neq .u32 (v 13) (v 29)) ∧ (v 35 = op2 .neq .u32 (v 12) (v 28)) ∧ (v 36 = op2 .neq .u32 (v 11) (v 27)) ∧ (v 37 = op2 .neq .u32 (v 10) (v 26)) ∧ (v 38 = op2 .neq .u32 (v 9) (v 25)) ∧ (v 39 = op2 .neq .u32 (v 8) (v 24)) ∧ (v 40 = op2 .neq .u32 (v 7) (v 23)) ∧ (v 41 = op2 .neq .u32 (v 6) (v 22)) ∧ (v 42 = op2 .neq .u32 (v 5) (v 21)) ∧ (v 43 = op2 .neq .u32 (v 4) (v 20)) ∧ (v 44 = op2 .neq .u32 (v 3) (v 19)) ∧ (v 45 = op2 .neq .u32 (v 2) (v 18)) ∧ (v 46 = op2 .lss .u32 (v 2) (v 18))) ∧ (True) ∧ (CondHold v q_Less_13.asm = ((v 45 != 0) = true ∧ ((v 44 != 0) = false ∧ ((v 43 != 0) = false ∧ ((v 42 != 0) = false ∧ ((v 41 != 0) = false ∧ ((v 40 != 0) = false ∧ ((v 39 != 0) = false ∧ ((v 38 != 0) = false ∧ ((v 37 != 0) = false ∧ ((v 36 != 0) = false ∧ ((v 35 != 0) = false ∧ ((v 34 != 0) = false ∧ ((v 33 != 0) = false ∧ ((v 32 != 0) = false ∧ True))))))))))))))) ∧ outs_Less_13.map (A.ev v) = ([v 46]) :=
  Eq.mp (by kernel_rfl) (runQ (q := q_Less_13.asm) (o := outs_Less_13) (l := l_Less) (g := g_Less_13) (nin := 32) (top := 47) (by kernel_rfl) hx)
theorem E_Less_14 (xs : List Int) (hx : InB (bs 32 0 4294967295) xs) : ∃ v : Nat → Int, vals l_Less g_Less_14 xs = v ∧ seg v 0 32 = xs ∧ ((v 32 = op2 .neq .u32 (v 15) (v 31)) ∧ (v 33 = op2 .neq .u32 (v 14) (v 30)) ∧ (v 34 = op2 .neq .u32 (v 13) (v 29)) ∧ (v 35 = op2 .neq .u32 (v 12) (v 28)) ∧ (v 36 = op2 .neq .u32 (v 11) (v 27)) ∧ (v 37 = op2 .neq .u32 (v 10) (v 26)) ∧ (v 38 = op2 .neq .u32 (v 9) (v 25)) ∧ (v 39 = op2 .neq .u32 (v 8) (v 24)) ∧ (v 40 = op2 .neq .u32 (v 7) (v 23)) ∧ (v 41 = op2 .neq .u32 (v 6) (v 22)) ∧ (v 42 = op2 .neq .u32 (v 5) (v 21)) ∧ (v 43 = op2 .neq .u32 (v 4) (v 20)) ∧ (v 44 = op2 .neq .u32 (v 3) (v 19)) ∧ (v 45 = op2 .neq .u32 (v 2) (v 18)) ∧ (v 46 = op2 .neq .u32 (v 1) (v 17)) ∧ (v 47 = op2 .lss .u32 (v 1) (v 17))) ∧ (True) ∧ (CondHold v q_Less_14.asm = ((v 46 != 0) = true ∧ ((v 45 != 0) = false ∧ ((v 44 != 0) = false ∧ ((v 43 != 0) = false ∧ ((v 42 != 0) = false ∧ ((v 41 != 0) = false ∧ ((v 40 != 0) = false ∧ ((v 39 != 0) = false ∧ ((v 38 != 0) = false ∧ ((v 37 != 0) = false ∧ ((v 36 != 0) = false ∧ ((v 35 != 0) = false ∧ ((v 34 != 0) = false ∧ ((v 33 != 0) = false ∧ ((v 32 != 0) = false ∧ True)))))))))))))))) ∧ outs_Less_14.map (A.ev v) = ([v 47]) :=
  Eq.mp (by kernel_rfl) (runQ (q := q_Less_14.asm) (o := outs_Less_14) (l := l_Less) (g := g_Less_14) (nin := 32) (top := 48) (by kernel_rfl) hx)
theorem E_Less_15 (xs : List Int) (hx : InB (bs 32 0 4294967295) xs) : ∃ v : Nat → Int, vals l_Less g_Less_15 xs = v ∧ seg v 0 32 = xs ∧ ((v 32 = op2 .neq .u32 (v 15) (v 31)) ∧ (v 33 = op2 .neq .u32 (v 14) (v 30)) ∧ (v 34 = op2 .neq .u32 (v 13) (v 29)) ∧ (v 35 = op2 .neq .u32 (v 12) (v 28)) ∧ (v 36 = op2 .neq .u32 (v 11) (v 27)) ∧ (v 37 = op2 .neq .u32 (v 10) (v 26)) ∧ (v 38 = op2 .neq .u32 (v 9) (v 25)) ∧ (v 39 = op2 .neq .u32 (v 8) (v 24)) ∧ (v 40 = op2 .neq .u32 (v 7) (v 23)) ∧ (v 41 = op2 .neq .u32 (v 6) (v 22)) ∧ (v 42 = op2 .neq .u32 (v 5) (v 21)) ∧ (v 43 = op2 .neq .u32 (v 4) (v 20)) ∧ (v 44 = op2 .neq .u32 (v 3) (v 19)) ∧ (v 45 = op2 .neq .u32 (v 2) (v 18)) ∧ (v 46 = op2 .neq .u32 (v 1) (v 17)) ∧ (v 47 = op2 .neq .u32 (v 0) (v 16)) ∧ (v 48 = op2 .lss .u32 (v 0) (v 16))) ∧ (True) ∧ (CondHold v q_Less_15.asm = ((v 47 != 0) = true ∧ ((v 46 != 0) = false ∧ ((v 45 != 0) = false ∧ ((v 44 != 0) = false ∧ ((v 43 != 0) = false ∧ ((v 42 != 0) = false ∧ ((v 41 != 0) = false ∧ ((v 40 != 0) = false ∧ ((v 39 != 0) = false ∧ ((v 38 != 0) = false ∧ ((v 37 != 0) = false ∧ ((v 36 != 0) = false ∧ ((v 35 != 0) = false ∧ ((v 34 != 0) = false ∧ ((v 33 != 0) = false ∧ ((v 32 != 0) = false ∧ True))))))))))))))))) ∧ outs_Less_15.map (A.ev v) = ([v 48]) :=
  Eq.mp (by kernel_rfl) (runQ (q := q_Less_15.asm) (o := outs_Less_15) (l := l_Less) (g := g_Less_15) (nin := 32) (top := 49) (by kernel_rfl) hx)
theorem E_Less_16 (xs : List Int) (hx : InB (bs 32 0 4294967295) xs) : ∃ v : Nat → Int, vals l_Less g_Less_16 xs = v ∧ seg v 0 32 = xs ∧ ((v 32 = op2 .neq .u32 (v 15) (v 31)) ∧ (v 33 = op2 .neq .u32 (v 14) (v 30)) ∧ (v 34 = op2 .neq .u32 (v 13) (v 29)) ∧ (v 35 = op2 .neq .u32 (v 12) (v 28)) ∧ (v 36 = op2 .neq .u32 (v 11) (v 27)) ∧ (v 37 = op2 .neq .u32 (v 10) (v 26)) ∧ (v 38 = op2 .neq .u32 (v 9) (v 25)) ∧ (v 39 = op2 .neq .u32 (v 8) (v 24)) ∧ (v 40 = op2 .neq .u32 (v 7) (v 23)) ∧ (v 41 = op2 .neq .u32 (v 6) (v 22)) ∧ (v 42 = op2 .neq .u32 (v 5) (v 21)) ∧ (v 43 = op2 .neq .u32 (v 4) (v 20)) ∧ (v 44 = op2 .neq .u32 (v 3) (v 19)) ∧ (v 45 = op2 .neq .u32 (v 2) (v 18)) ∧ (v 46 = op2 .neq .u32 (v 1) (v 17)) ∧ (v 47 = op2 .neq .u32 (v 0) (v 16))) ∧ (True) ∧ (CondHold v q_Less_16.asm = ((v 47 != 0) = false ∧ ((v 46 != 0) = false ∧ ((v 45 != 0) = false ∧ ((v 44 != 0) = false ∧ ((v 43 != 0) = false ∧ ((v 42 != 0) = false ∧ ((v 41 != 0) = false ∧ ((v 40 != 0) = false ∧ ((v 39 != 0) = false ∧ ((v 38 != 0) = false ∧ ((v 37 != 0) = false ∧ ((v 36 != 0) = false ∧ ((v 35 != 0) = false ∧ ((v 34 != 0) = false ∧ ((v 33 != 0) = false ∧ ((v 32 != 0) = false ∧ True))))))))))))))))) ∧ outs_Less_16.map (A.ev v) = ([0]) :=
  Eq.mp (by kernel_rfl) (runQ (q := q_Less_16.asm) (o := outs_Less_16) (l := l_Less) (g := g_Less_16) (nin := 32) (top := 48) (by kernel_rfl) hx)

end
end Go.X

namespace Go.X

/-! ### which number is less -/

theorem seg_getD {v : Nat → Int} : ∀ {n x : Nat} (i : Nat), i < n → (seg v x n).getD i 0 = v (x + i)
  | 0, _, _, h => absurd h (Nat.not_lt_zero _)
  | _ + 1, _, 0, _ => rfl
  | n + 1, x, i + 1, h => by
    have := seg_getD (v := v) (n := n) (x := x + 1) i (by omega)
    rw [show x + (i + 1) = x + 1 + i from by omega, ← this]
    rfl

theorem neq_t {a b : Int} (h : a ≠ b) : (op2 .neq .u32 a b != 0) = true := by
  have : op2 .neq .u32 a b = b2i (a != b) := rfl
  rw [this, bne_iff_ne.2 h]; rfl

theorem neq_f {a b : Int} (h : a = b) : (op2 .neq .u32 a b != 0) = false := by
  subst h
  have : op2 .neq .u32 a a = b2i (a != a) := rfl
  rw [this, bne_self_eq_false]; rfl

theorem lss_ {a b : Int} : op2 .lss .u32 a b = if a < b then 1 else 0 := by
  have : op2 .lss .u32 a b = b2i (decide (a < b)) := rfl
  rw [this]
  by_cases h : a < b
  · rw [if_pos h, decide_eq_true h]; rfl
  · rw [if_neg h, decide_eq_false h]; rfl

theorem InD_left {b : Int} : ∀ {x y : List Int}, InD b (x ++ y) → InD b x
  | [], _, _ => trivial
  | _ :: _, _, h => ⟨h.1, h.2.1, InD_left h.2.2⟩

theorem InD_right {b : Int} : ∀ {x y : List Int}, InD b (x ++ y) → InD b y
  | [], _, h => h
  | _ :: _, _, h => InD_right h.2.2

theorem less_top {n : Nat} {X Y Z : List Int} {x y : Int} (hX : InD 4294967296 X) (hY : InD 4294967296 Y) (hx : X.length = n) (hy : Y.length = n) (hne : x ≠ y) :
    ofD 4294967296 (X ++ x :: Z) < ofD 4294967296 (Y ++ y :: Z) ↔ x < y := by
  rw [ofD_append, ofD_append, hx, hy]
  obtain ⟨a0, a1⟩ := ofD_bound (by decide) hX
  obtain ⟨b0, b1⟩ := ofD_bound (by decide) hY
  rw [hx] at a1
  rw [hy] at b1
  have e1 : ofD 4294967296 (x :: Z) = x + 4294967296 * ofD 4294967296 Z := rfl
  have e2 : ofD 4294967296 (y :: Z) = y + 4294967296 * ofD 4294967296 Z := rfl
  rw [e1, e2, Int.mul_add, Int.mul_add]
  generalize (4294967296 : Int) ^ n * (4294967296 * ofD 4294967296 Z) = z
  generalize ofD 4294967296 X = a at *
  generalize ofD 4294967296 Y = b at *
  generalize (4294967296 : Int) ^ n = c at *
  constructor
  · intro h
    by_cases hlt : x < y
    · exact hlt
    · exfalso
      have : y + 1 ≤ x := by omega
      have := Int.mul_le_mul_of_nonneg_left this (show 0 ≤ c by omega)
      rw [Int.mul_add] at this
      omega
  · intro h
    have : x + 1 ≤ y := by omega
    have := Int.mul_le_mul_of_nonneg_left this (show 0 ≤ c by omega)
    rw [Int.mul_add] at this
    omega

theorem ite_iff {P Q : Prop} [Decidable P] [Decidable Q] (h : P ↔ Q) : (if P then (1 : Int) else 0) = if Q then 1 else 0 := by
  by_cases hq : Q
  · rw [if_pos hq, if_pos (h.2 hq)]
  · rw [if_neg hq, if_neg (fun hp => hq (h.1 hp))]

def f_Less (xs : List Int) : List Int := [if ofD 4294967296 (xs.take 16) < ofD 4294967296 (xs.drop 16) then 1 else 0]

def s_Less : Sem := Sem.of f_Less bi_Less bo_Less (by
  intro xs _
  unfold f_Less
  by_cases h : ofD 4294967296 (xs.take 16) < ofD 4294967296 (xs.drop 16)
  · rw [if_pos h]; exact ⟨by decide, by decide, trivial⟩
  · rw [if_neg h]; exact ⟨by decide, by decide, trivial⟩)

theorem less_at {v : Nat → Int} {j : Nat} (hj : j < 16) (h1 : InD 4294967296 (seg v 0 16)) (h2 : InD 4294967296 (seg v 16 16)) (he : seg v (j + 1) (15 - j) = seg v (16 + j + 1) (15 - j)) (hne : v j ≠ v (16 + j)) :
    ofD 4294967296 (seg v 0 16) < ofD 4294967296 (seg v 16 16) ↔ v j < v (16 + j) := by
  have e1 : seg v 0 16 = seg v 0 j ++ v j :: seg v (j + 1) (15 - j) := by
    rw [show 16 = j + (1 + (15 - j)) from by omega, seg_add, seg_add, Nat.zero_add]; rfl
  have e2 : seg v 16 16 = seg v 16 j ++ v (16 + j) :: seg v (16 + j + 1) (15 - j) := by
    have : seg v 16 16 = seg v 16 (j + (1 + (15 - j))) := by rw [show j + (1 + (15 - j)) = 16 from by omega]
    rw [this, seg_add, seg_add]; rfl
  rw [e1] at h1
  rw [e2] at h2
  rw [e1, e2, ← he]
  exact less_top (InD_left h1) (InD_left h2) (seg_len _ _ _) (seg_len _ _ _) hne

theorem v_q {v : Nat → Int} {xs : List Int} (hg : ∀ i, i < 32 → v i = xs.getD i 0) {i j : Nat} (e : xs.getD i 0 = xs.getD j 0) (hi : i < 32 := by decide) (hj : j < 32 := by decide) : v i = v j := by
  rw [hg i hi, hg j hj]; exact e
theorem n_f {v : Nat → Int} {xs : List Int} (hg : ∀ i, i < 32 → v i = xs.getD i 0) {i j : Nat} {t : Int} (h : t = op2 .neq .u32 (v i) (v j)) (e : xs.getD i 0 = xs.getD j 0) (hi : i < 32 := by decide) (hj : j < 32 := by decide) : (t != 0) = false := by
  rw [h]; exact neq_f (v_q hg e hi hj)
theorem n_t {v : Nat → Int} {xs : List Int} (hg : ∀ i, i < 32 → v i = xs.getD i 0) {i j : Nat} {t : Int} (h : t = op2 .neq .u32 (v i) (v j)) (e : ¬ xs.getD i 0 = xs.getD j 0) (hi : i < 32 := by decide) (hj : j < 32 := by decide) : (t != 0) = true := by
  rw [h]; exact neq_t (by rw [hg i hi, hg j hj]; exact e)

theorem cov_Less : Covered l_Less s_Less q_Less := by
  intro xs hx
  have hx32 : InB (WB 32) xs := hx
  have hd : InD 4294967296 xs := InB_InD (b := 4294967296) (n := 32) hx32
  have hl : xs.length = 32 := hx32.len
  have key : ∀ {v : Nat → Int}, seg v 0 32 = xs → (∀ i, i < 32 → v i = xs.getD i 0) ∧ s_Less.f xs = [if ofD 4294967296 (seg v 0 16) < ofD 4294967296 (seg v 16 16) then 1 else 0] ∧ InD 4294967296 (seg v 0 16) ∧ InD 4294967296 (seg v 16 16) := by
    intro v hin
    have e0 : seg v 0 16 = xs.take 16 := by rw [← hin, seg_take _ (by decide)]
    have e1 : seg v 16 16 = xs.drop 16 := by rw [← hin, seg_drop _ (by decide)]
    refine ⟨fun i hi => ?_, ?_, ?_, ?_⟩
    · rw [← hin, seg_getD i hi, Nat.zero_add]
    · rw [e0, e1]; rfl
    · rw [e0]; rw [← List.take_append_drop 16 xs] at hd; exact InD_left hd
    · have : InD 4294967296 (seg v 0 16 ++ seg v 16 16) := by rw [← seg_add]; rw [hin]; exact hd
      exact InD_right this
  by_cases e15 : xs.getD 15 0 = xs.getD 31 0
  case neg =>
    obtain ⟨v, hv, hin, ⟨h32, h33⟩, -, hc, ho⟩ := E_Less_0 xs hx
    obtain ⟨hg, hs, d1, d2⟩ := key hin
    refine ⟨q_Less_0, List.mem_of_getElem? (show q_Less[0]? = some q_Less_0 from rfl), hx, ?_, ?_⟩
    · show CondHold (vals l_Less g_Less_0 xs) _
      rw [hv, hc]; exact ⟨n_t hg h32 e15, trivial⟩
    · show _ = outs_Less_0.map (A.ev (vals l_Less g_Less_0 xs))
      have he : seg v 16 0 = seg v 32 0 := by
        rfl
      have hk := less_at (j := 15) (by decide) d1 d2 he (by rw [hg 15 (by decide), hg (16 + 15) (by decide)]; exact e15)
      rw [hv, ho, hs, h33, lss_, ite_iff hk]
  by_cases e14 : xs.getD 14 0 = xs.getD 30 0
  case neg =>
    obtain ⟨v, hv, hin, ⟨h32, h33, h34⟩, -, hc, ho⟩ := E_Less_1 xs hx
    obtain ⟨hg, hs, d1, d2⟩ := key hin
    refine ⟨q_Less_1, List.mem_of_getElem? (show q_Less[1]? = some q_Less_1 from rfl), hx, ?_, ?_⟩
    · show CondHold (vals l_Less g_Less_1 xs) _
      rw [hv, hc]; exact ⟨n_t hg h33 e14, n_f hg h32 e15, trivial⟩
    · show _ = outs_Less_1.map (A.ev (vals l_Less g_Less_1 xs))
      have he : seg v 15 1 = seg v 31 1 := by
        show [v 15] = [v 31]
        rw [v_q hg e15]
      have hk := less_at (j := 14) (by decide) d1 d2 he (by rw [hg 14 (by decide), hg (16 + 14) (by decide)]; exact e14)
      rw [hv, ho, hs, h34, lss_, ite_iff hk]
  by_cases e13 : xs.getD 13 0 = xs.getD 29 0
  case neg =>
    obtain ⟨v, hv, hin, ⟨h32, h33, h34, h35⟩, -, hc, ho⟩ := E_Less_2 xs hx
    obtain ⟨hg, hs, d1, d2⟩ := key hin
    refine ⟨q_Less_2, List.mem_of_getElem? (show q_Less[2]? = some q_Less_2 from rfl), hx, ?_, ?_⟩
    · show CondHold (vals l_Less g_Less_2 xs) _
      rw [hv, hc]; exact ⟨n_t hg h34 e13, n_f hg h33 e14, n_f hg h32 e15, trivial⟩
    · show _ = outs_Less_2.map (A.ev (vals l_Less g_Less_2 xs))
      have he : seg v 14 2 = seg v 30 2 := by
        show [v 14, v 15] = [v 30, v 31]
        rw [v_q hg e14, v_q hg e15]
      have hk := less_at (j := 13) (by decide) d1 d2 he (by rw [hg 13 (by decide), hg (16 + 13) (by decide)]; exact e13)
      rw [hv, ho, hs, h35, lss_, ite_iff hk]
  by_cases e12 : xs.getD 12 0 = xs.getD 28 0
  case neg =>
    obtain ⟨v, hv, hin, ⟨h32, h33, h34, h35, h36⟩, -, hc, ho⟩ := E_Less_3 xs hx
    obtain ⟨hg, hs, d1, d2⟩ := key hin
    refine ⟨q_Less_3, List.mem_of_getElem? (show q_Less[3]? = some q_Less_3 from rfl), hx, ?_, ?_⟩
    · show CondHold (vals l_Less g_Less_3 xs) _
      rw [hv, hc]; exact ⟨n_t hg h35 e12, n_f hg h34 e13, n_f hg h33 e14, n_f hg h32 e15, trivial⟩
    · show _ = outs_Less_3.map (A.ev (vals l_Less g_Less_3 xs))
      have he : seg v 13 3 = seg v 29 3 := by
        show [v 13, v 14, v 15] = [v 29, v 30, v 31]
        rw [v_q hg e13, v_q hg e14, v_q hg e15]
      have hk := less_at (j := 12) (by decide) d1 d2 he (by rw [hg 12 (by decide), hg (16 + 12) (by decide)]; exact e12)
      rw [hv, ho, hs, h36, lss_, ite_iff hk]
  by_cases e11 : xs.getD 11 0 = xs.getD 27 0
  case neg =>
    obtain ⟨v, hv, hin, ⟨h32, h33, h34, h35, h36, h37⟩, -, hc, ho⟩ := E_Less_4 xs hx
    obtain ⟨hg, hs, d1, d2⟩ := key hin
    refine ⟨q_Less_4, List.mem_of_getElem? (show q_Less[4]? = some q_Less_4 from rfl), hx, ?_, ?_⟩
    · show CondHold (vals l_Less g_Less_4 xs) _
      rw [hv, hc]; exact ⟨n_t hg h36 e11, n_f hg h35 e12, n_f hg h34 e13, n_f hg h33 e14, n_f hg h32 e15, trivial⟩
    · show _ = outs_Less_4.map (A.ev (vals l_Less g_Less_4 xs))
      have he : seg v 12 4 = seg v 28 4 := by
        show [v 12, v 13, v 14, v 15] = [v 28, v 29, v 30, v 31]
        rw [v_q hg e12, v_q hg e13, v_q hg e14, v_q hg e15]
      have hk := less_at (j := 11) (by decide) d1 d2 he (by rw [hg 11 (by decide), hg (16 + 11) (by decide)]; exact e11)
      rw [hv, ho, hs, h37, lss_, ite_iff hk]
  by_cases e10 : xs.getD 10 0 = xs.getD 26 0
  case neg =>
    obtain ⟨v, hv, hin, ⟨h32, h33, h34, h35, h36, h37, h38⟩, -, hc, ho⟩ := E_Less_5 xs hx
    obtain ⟨hg, hs, d1, d2⟩ := key hin
    refine ⟨q_Less_5, List.mem_of_getElem? (show q_Less[5]? = some q_Less_5 from rfl), hx, ?_, ?_⟩
    · show CondHold (vals l_Less g_Less_5 xs) _
      rw [hv, hc]; exact ⟨n_t hg h37 e10, n_f hg h36 e11, n_f hg h35 e12, n_f hg h34 e13, n_f hg h33 e14, n_f hg h32 e15, trivial⟩
    · show _ = outs_Less_5.map (A.ev (vals l_Less g_Less_5 xs))
      have he : seg v 11 5 = seg v 27 5 := by
        show [v 11, v 12, v 13, v 14, v 15] = [v 27, v 28, v 29, v 30, v 31]
        rw [v_q hg e11, v_q hg e12, v_q hg e13, v_q hg e14, v_q hg e15]
      have hk := less_at (j := 10) (by decide) d1 d2 he (by rw [hg 10 (by decide), hg (16 + 10) (by decide)]; exact e10)
      rw [hv, ho, hs, h38, lss_, ite_iff hk]
  by_cases e9 : xs.getD 9 0 = xs.getD 25 0
  case neg =>
    obtain ⟨v, hv, hin, ⟨h32, h33, h34, h35, h36, h37, h38, h39⟩, -, hc, ho⟩ := E_Less_6 xs hx
    obtain ⟨hg, hs, d1, d2⟩ := key hin
    refine ⟨q_Less_6, List.mem_of_getElem? (show q_Less[6]? = some q_Less_6 from rfl), hx, ?_, ?_⟩
    · show CondHold (vals l_Less g_Less_6 xs) _
      rw [hv, hc]; exact ⟨n_t hg h38 e9, n_f hg h37 e10, n_f hg h36 e11, n_f hg h35 e12, n_f hg h34 e13, n_f hg h33 e14, n_f hg h32 e15, trivial⟩
    · show _ = outs_Less_6.map (A.ev (vals l_Less g_Less_6 xs))
      have he : seg v 10 6 = seg v 26 6 := by
        show [v 10, v 11, v 12, v 13, v 14, v 15] = [v 26, v 27, v 28, v 29, v 30, v 31]
        rw [v_q hg e10, v_q hg e11, v_q hg e12, v_q hg e13, v_q hg e14, v_q hg e15]
      have hk := less_at (j := 9) (by decide) d1 d2 he (by rw [hg 9 (by decide), hg (16 + 9) (by decide)]; exact e9)
      rw [hv, ho, hs, h39, lss_, ite_iff hk]
  by_cases e8 : xs.getD 8 0 = xs.getD 24 0
  case neg =>
    obtain ⟨v, hv, hin, ⟨h32, h33, h34, h35, h36, h37, h38, h39, h40⟩, -, hc, ho⟩ := E_Less_7 xs hx
    obtain ⟨hg, hs, d1, d2⟩ := key hin
    refine ⟨q_Less_7, List.mem_of_getElem? (show q_Less[7]? = some q_Less_7 from rfl), hx, ?_, ?_⟩
    · show CondHold (vals l_Less g_Less_7 xs) _
      rw [hv, hc]; exact ⟨n_t hg h39 e8, n_f hg h38 e9, n_f hg h37 e10, n_f hg h36 e11, n_f hg h35 e12, n_f hg h34 e13, n_f hg h33 e14, n_f hg h32 e15, trivial⟩
    · show _ = outs_Less_7.map (A.ev (vals l_Less g_Less_7 xs))
      have he : seg v 9 7 = seg v 25 7 := by
        show [v 9, v 10, v 11, v 12, v 13, v 14, v 15] = [v 25, v 26, v 27, v 28, v 29, v 30, v 31]
        rw [v_q hg e9, v_q hg e10, v_q hg e11, v_q hg e12, v_q hg e13, v_q hg e14, v_q hg e15]
      have hk := less_at (j := 8) (by decide) d1 d2 he (by rw [hg 8 (by decide), hg (16 + 8) (by decide)]; exact e8)
      rw [hv, ho, hs, h40, lss_, ite_iff hk]
  by_cases e7 : xs.getD 7 0 = xs.getD 23 0
  case neg =>
    obtain ⟨v, hv, hin, ⟨h32, h33, h34, h35, h36, h37, h38, h39, h40, h41⟩, -, hc, ho⟩ := E_Less_8 xs hx
    obtain ⟨hg, hs, d1, d2⟩ := key hin
    refine ⟨q_Less_8, List.mem_of_getElem? (show q_Less[8]? = some q_Less_8 from rfl), hx, ?_, ?_⟩
    · show CondHold (vals l_Less g_Less_8 xs) _
      rw [hv, hc]; exact ⟨n_t hg h40 e7, n_f hg h39 e8, n_f hg h38 e9, n_f hg h37 e10, n_f hg h36 e11, n_f hg h35 e12, n_f hg h34 e13, n_f hg h33 e14, n_f hg h32 e15, trivial⟩
    · show _ = outs_Less_8.map (A.ev (vals l_Less g_Less_8 xs))
      have he : seg v 8 8 = seg v 24 8 := by
        show [v 8, v 9, v 10, v 11, v 12, v 13, v 14, v 15] = [v 24, v 25, v 26, v 27, v 28, v 29, v 30, v 31]
        rw [v_q hg e8, v_q hg e9, v_q hg e10, v_q hg e11, v_q hg e12, v_q hg e13, v_q hg e14, v_q hg e15]
      have hk := less_at (j := 7) (by decide) d1 d2 he (by rw [hg 7 (by decide), hg (16 + 7) (by decide)]; exact e7)
      rw [hv, ho, hs, h41, lss_, ite_iff hk]
  by_cases e6 : xs.getD 6 0 = xs.getD 22 0
  case neg =>
    obtain ⟨v, hv, hin, ⟨h32, h33, h34, h35, h36, h37, h38, h39, h40, h41, h42⟩, -, hc, ho⟩ := E_Less_9 xs hx
    obtain ⟨hg, hs, d1, d2⟩ := key hin
    refine ⟨q_Less_9, List.mem_of_getElem? (show q_Less[9]? = some q_Less_9 from rfl), hx, ?_, ?_⟩
    · show CondHold (vals l_Less g_Less_9 xs) _
      rw [hv, hc]; exact ⟨n_t hg h41 e6, n_f hg h40 e7, n_f hg h39 e8, n_f hg h38 e9, n_f hg h37 e10, n_f hg h36 e11, n_f hg h35 e12, n_f hg h34 e13, n_f hg h33 e14, n_f hg h32 e15, trivial⟩
    · show _ = outs_Less_9.map (A.ev (vals l_Less g_Less_9 xs))
      have he : seg v 7 9 = seg v 23 9 := by
        show [v 7, v 8, v 9, v 10, v 11, v 12, v 13, v 14, v 15] = [v 23, v 24, v 25, v 26, v 27, v 28, v 29, v 30, v 31]
        rw [v_q hg e7, v_q hg e8, v_q hg e9, v_q hg e10, v_q hg e11, v_q hg e12, v_q hg e13, v_q hg e14, v_q hg e15]
      have hk := less_at (j := 6) (by decide) d1 d2 he (by rw [hg 6 (by decide), hg (16 + 6) (by decide)]; exact e6)
      rw [hv, ho, hs, h42, lss_, ite_iff hk]
  by_cases e5 : xs.getD 5 0 = xs.getD 21 0
  case neg =>
    obtain ⟨v, hv, hin, ⟨h32, h33, h34, h35, h36, h37, h38, h39, h40, h41, h42, h43⟩, -, hc, ho⟩ := E_Less_10 xs hx
    obtain ⟨hg, hs, d1, d2⟩ := key hin
    refine ⟨q_Less_10, List.mem_of_getElem? (show q_Less[10]? = some q_Less_10 from rfl), hx, ?_, ?_⟩
    · show CondHold (vals l_Less g_Less_10 xs) _
      rw [hv, hc]; exact ⟨n_t hg h42 e5, n_f hg h41 e6, n_f hg h40 e7, n_f hg h39 e8, n_f hg h38 e9, n_f hg h37 e10, n_f hg h36 e11, n_f hg h35 e12, n_f hg h34 e13, n_f hg h33 e14, n_f hg h32 e15, trivial⟩
    · show _ = outs_Less_10.map (A.ev (vals l_Less g_Less_10 xs))
      have he : seg v 6 10 = seg v 22 10 := by
        show [v 6, v 7, v 8, v 9, v 10, v 11, v 12, v 13, v 14, v 15] = [v 22, v 23, v 24, v 25, v 26, v 27, v 28, v 29, v 30, v 31]
        rw [v_q hg e6, v_q hg e7, v_q hg e8, v_q hg e9, v_q hg e10, v_q hg e11, v_q hg e12, v_q hg e13, v_q hg e14, v_q hg e15]
      have hk := less_at (j := 5) (by decide) d1 d2 he (by rw [hg 5 (by decide), hg (16 + 5) (by decide)]; exact e5)
      rw [hv, ho, hs, h43, lss_, ite_iff hk]
  by_cases e4 : xs.getD 4 0 = xs.getD 20 0
  case neg =>
    obtain ⟨v, hv, hin, ⟨h32, h33, h34, h35, h36, h37, h38, h39, h40, h41, h42, h43, h44⟩, -, hc, ho⟩ := E_Less_11 xs hx
    obtain ⟨hg, hs, d1, d2⟩ := key hin
    refine ⟨q_Less_11, List.mem_of_getElem? (show q_Less[11]? = some q_Less_11 from rfl), hx, ?_, ?_⟩
    · show CondHold (vals l_Less g_Less_11 xs) _
      rw [hv, hc]; exact ⟨n_t hg h43 e4, n_f hg h42 e5, n_f hg h41 e6, n_f hg h40 e7, n_f hg h39 e8, n_f hg h38 e9, n_f hg h37 e10, n_f hg h36 e11, n_f hg h35 e12, n_f hg h34 e13, n_f hg h33 e14, n_f hg h32 e15, trivial⟩
    · show _ = outs_Less_11.map (A.ev (vals l_Less g_Less_11 xs))
      have he : seg v 5 11 = seg v 21 11 := by
        show [v 5, v 6, v 7, v 8, v 9, v 10, v 11, v 12, v 13, v 14, v 15] = [v 21, v 22, v 23, v 24, v 25, v 26, v 27, v 28, v 29, v 30, v 31]
        rw [v_q hg e5, v_q hg e6, v_q hg e7, v_q hg e8, v_q hg e9, v_q hg e10, v_q hg e11, v_q hg e12, v_q hg e13, v_q hg e14, v_q hg e15]
      have hk := less_at (j := 4) (by decide) d1 d2 he (by rw [hg 4 (by decide), hg (16 + 4) (by decide)]; exact e4)
      rw [hv, ho, hs, h44, lss_, ite_iff hk]
  by_cases e3 : xs.getD 3 0 = xs.getD 19 0
  case neg =>
    obtain ⟨v, hv, hin, ⟨h32, h33, h34, h35, h36, h37, h38, h39, h40, h41, h42, h43, h44, h45⟩, -, hc, ho⟩ := E_Less_12 xs hx
    obtain ⟨hg, hs, d1, d2⟩ := key hin
    refine ⟨q_Less_12, List.mem_of_getElem? (show q_Less[12]? = some q_Less_12 from rfl), hx, ?_, ?_⟩
    · show CondHold (vals l_Less g_Less_12 xs) _
      rw [hv, hc]; exact ⟨n_t hg h44 e3, n_f hg h43 e4, n_f hg h42 e5, n_f hg h41 e6, n_f hg h40 e7, n_f hg h39 e8, n_f hg h38 e9, n_f hg h37 e10, n_f hg h36 e11, n_f hg h35 e12, n_f hg h34 e13, n_f hg h33 e14, n_f hg h32 e15, trivial⟩
    · show _ = outs_Less_12.map (A.ev (vals l_Less g_Less_12 xs))
      have he : seg v 4 12 = seg v 20 12 := by
        show [v 4, v 5, v 6, v 7, v 8, v 9, v 10, v 11, v 12, v 13, v 14, v 15] = [v 20, v 21, v 22, v 23, v 24, v 25, v 26, v 27, v 28, v 29, v 30, v 31]
        rw [v_q hg e4, v_q hg e5, v_q hg e6, v_q hg e7, v_q hg e8, v_q hg e9, v_q hg e10, v_q hg e11, v_q hg e12, v_q hg e13, v_q hg e14, v_q hg e15]
      have hk := less_at (j := 3) (by decide) d1 d2 he (by rw [hg 3 (by decide), hg (16 + 3) (by decide)]; exact e3)
      rw [hv, ho, hs, h45, lss_, ite_iff hk]
  by_cases e2 : xs.getD 2 0 = xs.getD 18 0
  case neg =>
    obtain ⟨v, hv, hin, ⟨h32, h33, h34, h35, h36, h37, h38, h39, h40, h41, h42, h43, h44, h45, h46⟩, -, hc, ho⟩ := E_Less_13 xs hx
    obtain ⟨hg, hs, d1, d2⟩ := key hin
    refine ⟨q_Less_13, List.mem_of_getElem? (show q_Less[13]? = some q_Less_13 from rfl), hx, ?_, ?_⟩
    · show CondHold (vals l_Less g_Less_13 xs) _
      rw [hv, hc]; exact ⟨n_t hg h45 e2, n_f hg h44 e3, n_f hg h43 e4, n_f hg h42 e5, n_f hg h41 e6, n_f hg h40 e7, n_f hg h39 e8, n_f hg h38 e9, n_f hg h37 e10, n_f hg h36 e11, n_f hg h35 e12, n_f hg h34 e13, n_f hg h33 e14, n_f hg h32 e15, trivial⟩
    · show _ = outs_Less_13.map (A.ev (vals l_Less g_Less_13 xs))
      have he : seg v 3 13 = seg v 19 13 := by
        show [v 3, v 4, v 5, v 6, v 7, v 8, v 9, v 10, v 11, v 12, v 13, v 14, v 15] = [v 19, v 20, v 21, v 22, v 23, v 24, v 25, v 26, v 27, v 28, v 29, v 30, v 31]
        rw [v_q hg e3, v_q hg e4, v_q hg e5, v_q hg e6, v_q hg e7, v_q hg e8, v_q hg e9, v_q hg e10, v_q hg e11, v_q hg e12, v_q hg e13, v_q hg e14, v_q hg e15]
      have hk := less_at (j := 2) (by decide) d1 d2 he (by rw [hg 2 (by decide), hg (16 + 2) (by decide)]; exact e2)
      rw [hv, ho, hs, h46, lss_, ite_iff hk]
  by_cases e1 : xs.getD 1 0 = xs.getD 17 0
  case neg =>
    obtain ⟨v, hv, hin, ⟨h32, h33, h34, h35, h36, h37, h38, h39, h40, h41, h42, h43, h44, h45, h46, h47⟩, -, hc, ho⟩ := E_Less_14 xs hx
    obtain ⟨hg, hs, d1, d2⟩ := key hin
    refine ⟨q_Less_14, List.mem_of_getElem? (show q_Less[14]? = some q_Less_14 from rfl), hx, ?_, ?_⟩
    · show CondHold (vals l_Less g_Less_14 xs) _
      rw [hv, hc]; exact ⟨n_t hg h46 e1, n_f hg h45 e2, n_f hg h44 e3, n_f hg h43 e4, n_f hg h42 e5, n_f hg h41 e6, n_f hg h40 e7, n_f hg h39 e8, n_f hg h38 e9, n_f hg h37 e10, n_f hg h36 e11, n_f hg h35 e12, n_f hg h34 e13, n_f hg h33 e14, n_f hg h32 e15, trivial⟩
    · show _ = outs_Less_14.map (A.ev (vals l_Less g_Less_14 xs))
      have he : seg v 2 14 = seg v 18 14 := by
        show [v 2, v 3, v 4, v 5, v 6, v 7, v 8, v 9, v 10, v 11, v 12, v 13, v 14, v 15] = [v 18, v 19, v 20, v 21, v 22, v 23, v 24, v 25, v 26, v 27, v 28, v 29, v 30, v 31]
        rw [v_q hg e2, v_q hg e3, v_q hg e4, v_q hg e5, v_q hg e6, v_q hg e7, v_q hg e8, v_q hg e9, v_q hg e10, v_q hg e11, v_q hg e12, v_q hg e13, v_q hg e14, v_q hg e15]
      have hk := less_at (j := 1) (by decide) d1 d2 he (by rw [hg 1 (by decide), hg (16 + 1) (by decide)]; exact e1)
      rw [hv, ho, hs, h47, lss_, ite_iff hk]
  by_cases e0 : xs.getD 0 0 = xs.getD 16 0
  case neg =>
    obtain ⟨v, hv, hin, ⟨h32, h33, h34, h35, h36, h37, h38, h39, h40, h41, h42, h43, h44, h45, h46, h47, h48⟩, -, hc, ho⟩ := E_Less_15 xs hx
    obtain ⟨hg, hs, d1, d2⟩ := key hin
    refine ⟨q_Less_15, List.mem_of_getElem? (show q_Less[15]? = some q_Less_15 from rfl), hx, ?_, ?_⟩
    · show CondHold (vals l_Less g_Less_15 xs) _
      rw [hv, hc]; exact ⟨n_t hg h47 e0, n_f hg h46 e1, n_f hg h45 e2, n_f hg h44 e3, n_f hg h43 e4, n_f hg h42 e5, n_f hg h41 e6, n_f hg h40 e7, n_f hg h39 e8, n_f hg h38 e9, n_f hg h37 e10, n_f hg h36 e11, n_f hg h35 e12, n_f hg h34 e13, n_f hg h33 e14, n_f hg h32 e15, trivial⟩
    · show _ = outs_Less_15.map (A.ev (vals l_Less g_Less_15 xs))
      have he : seg v 1 15 = seg v 17 15 := by
        show [v 1, v 2, v 3, v 4, v 5, v 6, v 7, v 8, v 9, v 10, v 11, v 12, v 13, v 14, v 15] = [v 17, v 18, v 19, v 20, v 21, v 22, v 23, v 24, v 25, v 26, v 27, v 28, v 29, v 30, v 31]
        rw [v_q hg e1, v_q hg e2, v_q hg e3, v_q hg e4, v_q hg e5, v_q hg e6, v_q hg e7, v_q hg e8, v_q hg e9, v_q hg e10, v_q hg e11, v_q hg e12, v_q hg e13, v_q hg e14, v_q hg e15]
      have hk := less_at (j := 0) (by decide) d1 d2 he (by rw [hg 0 (by decide), hg (16 + 0) (by decide)]; exact e0)
      rw [hv, ho, hs, h48, lss_, ite_iff hk]
  obtain ⟨v, hv, hin, ⟨h32, h33, h34, h35, h36, h37, h38, h39, h40, h41, h42, h43, h44, h45, h46, h47⟩, -, hc, ho⟩ := E_Less_16 xs hx
  obtain ⟨hg, hs, d1, d2⟩ := key hin
  refine ⟨q_Less_16, List.mem_of_getElem? (show q_Less[16]? = some q_Less_16 from rfl), hx, ?_, ?_⟩
  · show CondHold (vals l_Less g_Less_16 xs) _
    rw [hv, hc]; exact ⟨n_f hg h47 e0, n_f hg h46 e1, n_f hg h45 e2, n_f hg h44 e3, n_f hg h43 e4, n_f hg h42 e5, n_f hg h41 e6, n_f hg h40 e7, n_f hg h39 e8, n_f hg h38 e9, n_f hg h37 e10, n_f hg h36 e11, n_f hg h35 e12, n_f hg h34 e13, n_f hg h33 e14, n_f hg h32 e15, trivial⟩
  · show _ = outs_Less_16.map (A.ev (vals l_Less g_Less_16 xs))
    have he : seg v 0 16 = seg v 16 16 := by
      show [v 0, v 1, v 2, v 3, v 4, v 5, v 6, v 7, v 8, v 9, v 10, v 11, v 12, v 13, v 14, v 15] = [v 16, v 17, v 18, v 19, v 20, v 21, v 22, v 23, v 24, v 25, v 26, v 27, v 28, v 29, v 30, v 31]
      rw [v_q hg e0, v_q hg e1, v_q hg e2, v_q hg e3, v_q hg e4, v_q hg e5, v_q hg e6, v_q hg e7, v_q hg e8, v_q hg e9, v_q hg e10, v_q hg e11, v_q hg e12, v_q hg e13, v_q hg e14, v_q hg e15]
    rw [hv, ho, hs, he, if_neg (Int.lt_irrefl _)]

end Go.X

namespace Go.X
set_option maxRecDepth 20000
noncomputable section
abbrev l_fold : List Sem := [s_Minus, s_P, s_Less]
def g_fold_0 : List (Nat × Ins) := [(344, .ite (.v 343) (.l 0) (.l 1)),
  (343, .app 2 (List.flatten [[(.v 265), (.v 272), (.v 279), (.v 286), (.v 293), (.v 300), (.v 307), (.v 314), (.v 320), (.v 323), (.v 326), (.v 329), (.v 332), (.v 335), (.v 338), (.v 341), (.l 4294967277)], ls 4294967295 6, [(.l 2147483647)], ls 0 8]) 0),
  (342, .op2 .shr .u64 (.v 340) (.l 32)),
  (341, .conv .u32 (.v 340)),
  (340, .op2 .add .u64 (.v 339) (.l 0)),
  (339, .op2 .shr .u64 (.v 337) (.l 32)),
  (338, .conv .u32 (.v 337)),
  (337, .op2 .add .u64 (.v 336) (.l 0)),
  (336, .op2 .shr .u64 (.v 334) (.l 32)),
  (335, .conv .u32 (.v 334)),
  (334, .op2 .add .u64 (.v 333) (.l 0)),
  (333, .op2 .shr .u64 (.v 331) (.l 32)),
  (332, .conv .u32 (.v 331)),
  (331, .op2 .add .u64 (.v 330) (.l 0)),
  (330, .op2 .shr .u64 (.v 328) (.l 32)),
  (329, .conv .u32 (.v 328)),
  (328, .op2 .add .u64 (.v 327) (.l 0)),
  (327, .op2 .shr .u64 (.v 325) (.l 32)),
  (326, .conv .u32 (.v 325)),
  (325, .op2 .add .u64 (.v 324) (.l 0)),
  (324, .op2 .shr .u64 (.v 322) (.l 32)),
  (323, .conv .u32 (.v 322)),
  (322, .op2 .add .u64 (.v 321) (.l 0)),
  (321, .op2 .shr .u64 (.v 319) (.l 32)),
  (320, .conv .u32 (.v 319)),
  (319, .op2 .add .u64 (.v 315) (.v 318)),
  (318, .op2 .add .u64 (.l 0) (.v 317)),
  (317, .op2 .mul .u64 (.l 19) (.v 316)),
  (316, .conv .u64 (.v 258)),
  (315, .op2 .shr .u64 (.v 313) (.l 32)),
  (314, .conv .u32 (.v 313)),
  (313, .op2 .add .u64 (.v 308) (.v 312)),
  (312, .op2 .add .u64 (.v 309) (.v 311)),
  (311, .op2 .mul .u64 (.l 19) (.v 310)),
  (310, .conv .u64 (.v 257)),
  (309, .conv .u64 (.v 259)),
  (308, .op2 .shr .u64 (.v 306) (.l 32)),
  (307, .conv .u32 (.v 306)),
  (306, .op2 .add .u64 (.v 301) (.v 305)),
  (305, .op2 .add .u64 (.v 302) (.v 304)),
  (304, .op2 .mul .u64 (.l 19) (.v 303)),
  (303, .conv .u64 (.v 254)),
  (302, .conv .u64 (.v 198)),
  (301, .op2 .shr .u64 (.v 299) (.l 32)),
  (300, .conv .u32 (.v 299)),
  (299, .op2 .add .u64 (.v 294) (.v 298)),
  (298, .op2 .add .u64 (.v 295) (.v 297)),
  (297, .op2 .mul .u64 (.l 19) (.v 296)),
  (296, .conv .u64 (.v 251)),
  (295, .conv .u64 (.v 191)),
  (294, .op2 .shr .u64 (.v 292) (.l 32)),
  (293, .conv .u32 (.v 292)),
  (292, .op2 .add .u64 (.v 287) (.v 291)),
  (291, .op2 .add .u64 (.v 288) (.v 290)),
  (290, .op2 .mul .u64 (.l 19) (.v 289)),
  (289, .conv .u64 (.v 248)),
  (288, .conv .u64 (.v 184)),
  (287, .op2 .shr .u64 (.v 285) (.l 32)),
  (286, .conv .u32 (.v 285)),
  (285, .op2 .add .u64 (.v 280) (.v 284)),
  (284, .op2 .add .u64 (.v 281) (.v 283)),
  (283, .op2 .mul .u64 (.l 19) (.v 282)),
  (282, .conv .u64 (.v 245)),
  (281, .conv .u64 (.v 177)),
  (280, .op2 .shr .u64 (.v 278) (.l 32)),
  (279, .conv .u32 (.v 278)),
  (278, .op2 .add .u64 (.v 273) (.v 277)),
  (277, .op2 .add .u64 (.v 274) (.v 276)),
  (276, .op2 .mul .u64 (.l 19) (.v 275)),
  (275, .conv .u64 (.v 242)),
  (274, .conv .u64 (.v 170)),
  (273, .op2 .shr .u64 (.v 271) (.l 32)),
  (272, .conv .u32 (.v 271)),
  (271, .op2 .add .u64 (.v 266) (.v 270)),
  (270, .op2 .add .u64 (.v 267) (.v 269)),
  (269, .op2 .mul .u64 (.l 19) (.v 268)),
  (268, .conv .u64 (.v 239)),
  (267, .conv .u64 (.v 163)),
  (266, .op2 .shr .u64 (.v 264) (.l 32)),
  (265, .conv .u32 (.v 264)),
  (264, .op2 .add .u64 (.l 0) (.v 263)),
  (263, .op2 .add .u64 (.v 260) (.v 262)),
  (262, .op2 .mul .u64 (.l 19) (.v 261)),
  (261, .conv .u64 (.v 236)),
  (260, .conv .u64 (.v 156)),
  (259, .op2 .and .u32 (.v 205) (.l 2147483647)),
  (258, .op2 .shr .u32 (.v 232) (.l 31)),
  (257, .op2 .or .u32 (.v 255) (.v 256)),
  (256, .op2 .shl .u32 (.v 232) (.l 1)),
  (255, .op2 .shr .u32 (.v 229) (.l 31)),
  (254, .op2 .or .u32 (.v 252) (.v 253)),
  (253, .op2 .shl .u32 (.v 229) (.l 1)),
  (252, .op2 .shr .u32 (.v 226) (.l 31)),
  (251, .op2 .or .u32 (.v 249) (.v 250)),
  (250, .op2 .shl .u32 (.v 226) (.l 1)),
  (249, .op2 .shr .u32 (.v 223) (.l 31)),
  (248, .op2 .or .u32 (.v 246) (.v 247)),
  (247, .op2 .shl .u32 (.v 223) (.l 1)),
  (246, .op2 .shr .u32 (.v 220) (.l 31)),
  (245, .op2 .or .u32 (.v 243) (.v 244)),
  (244, .op2 .shl .u32 (.v 220) (.l 1)),
  (243, .op2 .shr .u32 (.v 217) (.l 31)),
  (242, .op2 .or .u32 (.v 240) (.v 241)),
  (241, .op2 .shl .u32 (.v 217) (.l 1)),
  (240, .op2 .shr .u32 (.v 214) (.l 31)),
  (239, .op2 .or .u32 (.v 237) (.v 238)),
  (238, .op2 .shl .u32 (.v 214) (.l 1)),
  (237, .op2 .shr .u32 (.v 211) (.l 31)),
  (236, .op2 .or .u32 (.v 234) (.v 235)),
  (235, .op2 .shl .u32 (.v 211) (.l 1)),
  (234, .op2 .shr .u32 (.v 205) (.l 31)),
  (233, .op2 .shr .u64 (.v 231) (.l 32)),
  (232, .conv .u32 (.v 231)),
  (231, .op2 .add .u64 (.v 230) (.l 0)),
  (230, .op2 .shr .u64 (.v 228) (.l 32)),
  (229, .conv .u32 (.v 228)),
  (228, .op2 .add .u64 (.v 227) (.l 0)),
  (227, .op2 .shr .u64 (.v 225) (.l 32)),
  (226, .conv .u32 (.v 225)),
  (225, .op2 .add .u64 (.v 224) (.l 0)),
  (224, .op2 .shr .u64 (.v 222) (.l 32)),
  (223, .conv .u32 (.v 222)),
  (222, .op2 .add .u64 (.v 221) (.l 0)),
  (221, .op2 .shr .u64 (.v 219) (.l 32)),
  (220, .conv .u32 (.v 219)),
  (219, .op2 .add .u64 (.v 218) (.l 0)),
  (218, .op2 .shr .u64 (.v 216) (.l 32)),
  (217, .conv .u32 (.v 216)),
  (216, .op2 .add .u64 (.v 215) (.l 0)),
  (215, .op2 .shr .u64 (.v 213) (.l 32)),
  (214, .conv .u32 (.v 213)),
  (213, .op2 .add .u64 (.v 212) (.l 0)),
  (212, .op2 .shr .u64 (.v 210) (.l 32)),
  (211, .conv .u32 (.v 210)),
  (210, .op2 .add .u64 (.v 206) (.v 209)),
  (209, .op2 .add .u64 (.l 0) (.v 208)),
  (208, .op2 .mul .u64 (.l 19) (.v 207)),
  (207, .conv .u64 (.v 149)),
  (206, .op2 .shr .u64 (.v 204) (.l 32)),
  (205, .conv .u32 (.v 204)),
  (204, .op2 .add .u64 (.v 199) (.v 203)),
  (203, .op2 .add .u64 (.v 200) (.v 202)),
  (202, .op2 .mul .u64 (.l 19) (.v 201)),
  (201, .conv .u64 (.v 148)),
  (200, .conv .u64 (.v 150)),
  (199, .op2 .shr .u64 (.v 197) (.l 32)),
  (198, .conv .u32 (.v 197)),
  (197, .op2 .add .u64 (.v 192) (.v 196)),
  (196, .op2 .add .u64 (.v 193) (.v 195)),
  (195, .op2 .mul .u64 (.l 19) (.v 194)),
  (194, .conv .u64 (.v 145)),
  (193, .conv .u64 (.v 89)),
  (192, .op2 .shr .u64 (.v 190) (.l 32)),
  (191, .conv .u32 (.v 190)),
  (190, .op2 .add .u64 (.v 185) (.v 189)),
  (189, .op2 .add .u64 (.v 186) (.v 188)),
  (188, .op2 .mul .u64 (.l 19) (.v 187)),
  (187, .conv .u64 (.v 142)),
  (186, .conv .u64 (.v 82)),
  (185, .op2 .shr .u64 (.v 183) (.l 32)),
  (184, .conv .u32 (.v 183)),
  (183, .op2 .add .u64 (.v 178) (.v 182)),
  (182, .op2 .add .u64 (.v 179) (.v 181)),
  (181, .op2 .mul .u64 (.l 19) (.v 180)),
  (180, .conv .u64 (.v 139)),
  (179, .conv .u64 (.v 75)),
  (178, .op2 .shr .u64 (.v 176) (.l 32)),
  (177, .conv .u32 (.v 176)),
  (176, .op2 .add .u64 (.v 171) (.v 175)),
  (175, .op2 .add .u64 (.v 172) (.v 174)),
  (174, .op2 .mul .u64 (.l 19) (.v 173)),
  (173, .conv .u64 (.v 136)),
  (172, .conv .u64 (.v 68)),
  (171, .op2 .shr .u64 (.v 169) (.l 32)),
  (170, .conv .u32 (.v 169)),
  (169, .op2 .add .u64 (.v 164) (.v 168)),
  (168, .op2 .add .u64 (.v 165) (.v 167)),
  (167, .op2 .mul .u64 (.l 19) (.v 166)),
  (166, .conv .u64 (.v 133)),
  (165, .conv .u64 (.v 61)),
  (164, .op2 .shr .u64 (.v 162) (.l 32)),
  (163, .conv .u32 (.v 162)),
  (162, .op2 .add .u64 (.v 157) (.v 161)),
  (161, .op2 .add .u64 (.v 158) (.v 160)),
  (160, .op2 .mul .u64 (.l 19) (.v 159)),
  (159, .conv .u64 (.v 130)),
  (158, .conv .u64 (.v 54)),
  (157, .op2 .shr .u64 (.v 155) (.l 32)),
  (156, .conv .u32 (.v 155)),
  (155, .op2 .add .u64 (.l 0) (.v 154)),
  (154, .op2 .add .u64 (.v 151) (.v 153)),
  (153, .op2 .mul .u64 (.l 19) (.v 152)),
  (152, .conv .u64 (.v 127)),
  (151, .conv .u64 (.v 47)),
  (150, .op2 .and .u32 (.v 96) (.l 2147483647)),
  (149, .op2 .shr .u32 (.v 123) (.l 31)),
  (148, .op2 .or .u32 (.v 146) (.v 147)),
  (147, .op2 .shl .u32 (.v 123) (.l 1)),
  (146, .op2 .shr .u32 (.v 120) (.l 31)),
  (145, .op2 .or .u32 (.v 143) (.v 144)),
  (144, .op2 .shl .u32 (.v 120) (.l 1)),
  (143, .op2 .shr .u32 (.v 117) (.l 31)),
  (142, .op2 .or .u32 (.v 140) (.v 141)),
  (141, .op2 .shl .u32 (.v 117) (.l 1)),
  (140, .op2 .shr .u32 (.v 114) (.l 31)),
  (139, .op2 .or .u32 (.v 137) (.v 138)),
  (138, .op2 .shl .u32 (.v 114) (.l 1)),
  (137, .op2 .shr .u32 (.v 111) (.l 31)),
  (136, .op2 .or .u32 (.v 134) (.v 135)),
  (135, .op2 .shl .u32 (.v 111) (.l 1)),
  (134, .op2 .shr .u32 (.v 108) (.l 31)),
  (133, .op2 .or .u32 (.v 131) (.v 132)),
  (132, .op2 .shl .u32 (.v 108) (.l 1)),
  (131, .op2 .shr .u32 (.v 105) (.l 31)),
  (130, .op2 .or .u32 (.v 128) (.v 129)),
  (129, .op2 .shl .u32 (.v 105) (.l 1)),
  (128, .op2 .shr .u32 (.v 102) (.l 31)),
  (127, .op2 .or .u32 (.v 125) (.v 126)),
  (126, .op2 .shl .u32 (.v 102) (.l 1)),
  (125, .op2 .shr .u32 (.v 96) (.l 31)),
  (124, .op2 .shr .u64 (.v 122) (.l 32)),
  (123, .conv .u32 (.v 122)),
  (122, .op2 .add .u64 (.v 121) (.l 0)),
  (121, .op2 .shr .u64 (.v 119) (.l 32)),
  (120, .conv .u32 (.v 119)),
  (119, .op2 .add .u64 (.v 118) (.l 0)),
  (118, .op2 .shr .u64 (.v 116) (.l 32)),
  (117, .conv .u32 (.v 116)),
  (116, .op2 .add .u64 (.v 115) (.l 0)),
  (115, .op2 .shr .u64 (.v 113) (.l 32)),
  (114, .conv .u32 (.v 113)),
  (113, .op2 .add .u64 (.v 112) (.l 0)),
  (112, .op2 .shr .u64 (.v 110) (.l 32)),
  (111, .conv .u32 (.v 110)),
  (110, .op2 .add .u64 (.v 109) (.l 0)),
  (109, .op2 .shr .u64 (.v 107) (.l 32)),
  (108, .conv .u32 (.v 107)),
  (107, .op2 .add .u64 (.v 106) (.l 0)),
  (106, .op2 .shr .u64 (.v 104) (.l 32)),
  (105, .conv .u32 (.v 104)),
  (104, .op2 .add .u64 (.v 103) (.l 0)),
  (103, .op2 .shr .u64 (.v 101) (.l 32)),
  (102, .conv .u32 (.v 101)),
  (101, .op2 .add .u64 (.v 97) (.v 100)),
  (100, .op2 .add .u64 (.l 0) (.v 99)),
  (99, .op2 .mul .u64 (.l 19) (.v 98)),
  (98, .conv .u64 (.v 40)),
  (97, .op2 .shr .u64 (.v 95) (.l 32)),
  (96, .conv .u32 (.v 95)),
  (95, .op2 .add .u64 (.v 90) (.v 94)),
  (94, .op2 .add .u64 (.v 91) (.v 93)),
  (93, .op2 .mul .u64 (.l 19) (.v 92)),
  (92, .conv .u64 (.v 39)),
  (91, .conv .u64 (.v 41)),
  (90, .op2 .shr .u64 (.v 88) (.l 32)),
  (89, .conv .u32 (.v 88)),
  (88, .op2 .add .u64 (.v 83) (.v 87)),
  (87, .op2 .add .u64 (.v 84) (.v 86)),
  (86, .op2 .mul .u64 (.l 19) (.v 85)),
  (85, .conv .u64 (.v 36)),
  (84, .conv .u64 (.v 6)),
  (83, .op2 .shr .u64 (.v 81) (.l 32)),
  (82, .conv .u32 (.v 81)),
  (81, .op2 .add .u64 (.v 76) (.v 80)),
  (80, .op2 .add .u64 (.v 77) (.v 79)),
  (79, .op2 .mul .u64 (.l 19) (.v 78)),
  (78, .conv .u64 (.v 33)),
  (77, .conv .u64 (.v 5)),
  (76, .op2 .shr .u64 (.v 74) (.l 32)),
  (75, .conv .u32 (.v 74)),
  (74, .op2 .add .u64 (.v 69) (.v 73)),
  (73, .op2 .add .u64 (.v 70) (.v 72)),
  (72, .op2 .mul .u64 (.l 19) (.v 71)),
  (71, .conv .u64 (.v 30)),
  (70, .conv .u64 (.v 4)),
  (69, .op2 .shr .u64 (.v 67) (.l 32)),
  (68, .conv .u32 (.v 67)),
  (67, .op2 .add .u64 (.v 62) (.v 66)),
  (66, .op2 .add .u64 (.v 63) (.v 65)),
  (65, .op2 .mul .u64 (.l 19) (.v 64)),
  (64, .conv .u64 (.v 27)),
  (63, .conv .u64 (.v 3)),
  (62, .op2 .shr .u64 (.v 60) (.l 32)),
  (61, .conv .u32 (.v 60)),
  (60, .op2 .add .u64 (.v 55) (.v 59)),
  (59, .op2 .add .u64 (.v 56) (.v 58)),
  (58, .op2 .mul .u64 (.l 19) (.v 57)),
  (57, .conv .u64 (.v 24)),
  (56, .conv .u64 (.v 2)),
  (55, .op2 .shr .u64 (.v 53) (.l 32)),
  (54, .conv .u32 (.v 53)),
  (53, .op2 .add .u64 (.v 48) (.v 52)),
  (52, .op2 .add .u64 (.v 49) (.v 51)),
  (51, .op2 .mul .u64 (.l 19) (.v 50)),
  (50, .conv .u64 (.v 21)),
  (49, .conv .u64 (.v 1)),
  (48, .op2 .shr .u64 (.v 46) (.l 32)),
  (47, .conv .u32 (.v 46)),
  (46, .op2 .add .u64 (.l 0) (.v 45)),
  (45, .op2 .add .u64 (.v 42) (.v 44)),
  (44, .op2 .mul .u64 (.l 19) (.v 43)),
  (43, .conv .u64 (.v 18)),
  (42, .conv .u64 (.v 0)),
  (41, .op2 .and .u32 (.v 7) (.l 2147483647)),
  (40, .op2 .shr .u32 (.v 15) (.l 31)),
  (39, .op2 .or .u32 (.v 37) (.v 38)),
  (38, .op2 .shl .u32 (.v 15) (.l 1)),
  (37, .op2 .shr .u32 (.v 14) (.l 31)),
  (36, .op2 .or .u32 (.v 34) (.v 35)),
  (35, .op2 .shl .u32 (.v 14) (.l 1)),
  (34, .op2 .shr .u32 (.v 13) (.l 31)),
  (33, .op2 .or .u32 (.v 31) (.v 32)),
  (32, .op2 .shl .u32 (.v 13) (.l 1)),
  (31, .op2 .shr .u32 (.v 12) (.l 31)),
  (30, .op2 .or .u32 (.v 28) (.v 29)),
  (29, .op2 .shl .u32 (.v 12) (.l 1)),
  (28, .op2 .shr .u32 (.v 11) (.l 31)),
  (27, .op2 .or .u32 (.v 25) (.v 26)),
  (26, .op2 .shl .u32 (.v 11) (.l 1)),
  (25, .op2 .shr .u32 (.v 10) (.l 31)),
  (24, .op2 .or .u32 (.v 22) (.v 23)),
  (23, .op2 .shl .u32 (.v 10) (.l 1)),
  (22, .op2 .shr .u32 (.v 9) (.l 31)),
  (21, .op2 .or .u32 (.v 19) (.v 20)),
  (20, .op2 .shl .u32 (.v 9) (.l 1)),
  (19, .op2 .shr .u32 (.v 8) (.l 31)),
  (18, .op2 .or .u32 (.v 16) (.v 17)),
  (17, .op2 .shl .u32 (.v 8) (.l 1)),
  (16, .op2 .shr .u32 (.v 7) (.l 31))]
def outs_fold_0 : List A := [(.v 265), (.v 272), (.v 279), (.v 286), (.v 293), (.v 300), (.v 307), (.v 314), (.v 320), (.v 323), (.v 326), (.v 329), (.v 332), (.v 335), (.v 338), (.v 341)]
def q_fold_0 : FPath := ⟨(bs 16 0 4294967295), g_fold_0, [.cond (.v 344) false, .pre 2 (List.flatten [[(.v 265), (.v 272), (.v 279), (.v 286), (.v 293), (.v 300), (.v 307), (.v 314), (.v 320), (.v 323), (.v 326), (.v 329), (.v 332), (.v 335), (.v 338), (.v 341), (.l 4294967277)], ls 4294967295 6, [(.l 2147483647)], ls 0 8]), .pre 1 []], outs_fold_0⟩
def g_fold_1 : List (Nat × Ins) := ([(362, .ite (.v 361) (.l 0) (.l 1)), (361, .app 2 (List.flatten [vs 345 16, [(.l 4294967277)], ls 4294967295 6, [(.l 2147483647)], ls 0 8]) 0)] ++ (apps 0 (List.flatten [[(.v 265), (.v 272), (.v 279), (.v 286), (.v 293), (.v 300), (.v 307), (.v 314), (.v 320), (.v 323), (.v 326), (.v 329), (.v 332), (.v 335), (.v 338), (.v 341), (.l 4294967277)], ls 4294967295 6, [(.l 2147483647)], ls 0 8]) 345 16) ++ [(344, .ite (.v 343) (.l 0) (.l 1)), (343, .app 2 (List.flatten [[(.v 265), (.v 272), (.v 279), (.v 286), (.v 293), (.v 300), (.v 307), (.v 314), (.v 320), (.v 323), (.v 326), (.v 329), (.v 332), (.v 335), (.v 338), (.v 341), (.l 4294967277)], ls 4294967295 6, [(.l 2147483647)], ls 0 8]) 0), (342, .op2 .shr .u64 (.v 340) (.l 32)), (341, .conv .u32 (.v 340)), (340, .op2 .add .u64 (.v 339) (.l 0)), (339, .op2 .shr .u64 (.v 337) (.l 32)), (338, .conv .u32 (.v 337)), (337, .op2 .add .u64 (.v 336) (.l 0)), (336, .op2 .shr .u64 (.v 334) (.l 32)), (335, .conv .u32 (.v 334)), (334, .op2 .add .u64 (.v 333) (.l 0)), (333, .op2 .shr .u64 (.v 331) (.l 32)), (332, .conv .u32 (.v 331)), (331, .op2 .add .u64 (.v 330) (.l 0)), (330, .op2 .shr .u64 (.v 328) (.l 32)), (329, .conv .u32 (.v 328)), (328, .op2 .add .u64 (.v 327) (.l 0)), (327, .op2 .shr .u64 (.v 325) (.l 32)), (326, .conv .u32 (.v 325)), (325, .op2 .add .u64 (.v 324) (.l 0)), (324, .op2 .shr .u64 (.v 322) (.l 32)), (323, .conv .u32 (.v 322)), (322, .op2 .add .u64 (.v 321) (.l 0)), (321, .op2 .shr .u64 (.v 319) (.l 32)), (320, .conv .u32 (.v 319)), (319, .op2 .add .u64 (.v 315) (.v 318)), (318, .op2 .add .u64 (.l 0) (.v 317)), (317, .op2 .mul .u64 (.l 19) (.v 316)), (316, .conv .u64 (.v 258)), (315, .op2 .shr .u64 (.v 313) (.l 32)), (314, .conv .u32 (.v 313)), (313, .op2 .add .u64 (.v 308) (.v 312)), (312, .op2 .add .u64 (.v 309) (.v 311)), (311, .op2 .mul .u64 (.l 19) (.v 310)), (310, .conv .u64 (.v 257)), (309, .conv .u64 (.v 259)), (308, .op2 .shr .u64 (.v 306) (.l 32)), (307, .conv .u32 (.v 306)), (306, .op2 .add .u64 (.v 301) (.v 305)), (305, .op2 .add .u64 (.v 302) (.v 304)), (304, .op2 .mul .u64 (.l 19) (.v 303)), (303, .conv .u64 (.v 254)), (302, .conv .u64 (.v 198)), (301, .op2 .shr .u64 (.v 299) (.l 32)), (300, .conv .u32 (.v 299)), (299, .op2 .add .u64 (.v 294) (.v 298)), (298, .op2 .add .u64 (.v 295) (.v 297)), (297, .op2 .mul .u64 (.l 19) (.v 296)), (296, .conv .u64 (.v 251)), (295, .conv .u64 (.v 191)), (294, .op2 .shr .u64 (.v 292) (.l 32)), (293, .conv .u32 (.v 292)), (292, .op2 .add .u64 (.v 287) (.v 291)), (291, .op2 .add .u64 (.v 288) (.v 290)), (290, .op2 .mul .u64 (.l 19) (.v 289)), (289, .conv .u64 (.v 248)), (288, .conv .u64 (.v 184)), (287, .op2 .shr .u64 (.v 285) (.l 32)), (286, .conv .u32 (.v 285)), (285, .op2 .add .u64 (.v 280) (.v 284)), (284, .op2 .add .u64 (.v 281) (.v 283)), (283, .op2 .mul .u64 (.l 19) (.v 282)), (282, .conv .u64 (.v 245)), (281, .conv .u64 (.v 177)), (280, .op2 .shr .u64 (.v 278) (.l 32)), (279, .conv .u32 (.v 278)), (278, .op2 .add .u64 (.v 273) (.v 277)), (277, .op2 .add .u64 (.v 274) (.v 276)), (276, .op2 .mul .u64 (.l 19) (.v 275)), (275, .conv .u64 (.v 242)), (274, .conv .u64 (.v 170)), (273, .op2 .shr .u64 (.v 271) (.l 32)), (272, .conv .u32 (.v 271)), (271, .op2 .add .u64 (.v 266) (.v 270)), (270, .op2 .add .u64 (.v 267) (.v 269)), (269, .op2 .mul .u64 (.l 19) (.v 268)), (268, .conv .u64 (.v 239)), (267, .conv .u64 (.v 163)), (266, .op2 .shr .u64 (.v 264) (.l 32)), (265, .conv .u32 (.v 264)), (264, .op2 .add .u64 (.l 0) (.v 263)), (263, .op2 .add .u64 (.v 260) (.v 262)), (262, .op2 .mul .u64 (.l 19) (.v 261)), (261, .conv .u64 (.v 236)), (260, .conv .u64 (.v 156)), (259, .op2 .and .u32 (.v 205) (.l 2147483647)), (258, .op2 .shr .u32 (.v 232) (.l 31)), (257, .op2 .or .u32 (.v 255) (.v 256)), (256, .op2 .shl .u32 (.v 232) (.l 1)), (255, .op2 .shr .u32 (.v 229) (.l 31)), (254, .op2 .or .u32 (.v 252) (.v 253)), (253, .op2 .shl .u32 (.v 229) (.l 1)), (252, .op2 .shr .u32 (.v 226) (.l 31)), (251, .op2 .or .u32 (.v 249) (.v 250)), (250, .op2 .shl .u32 (.v 226) (.l 1)), (249, .op2 .shr .u32 (.v 223) (.l 31)), (248, .op2 .or .u32 (.v 246) (.v 247)), (247, .op2 .shl .u32 (.v 223) (.l 1)), (246, .op2 .shr .u32 (.v 220) (.l 31)), (245, .op2 .or .u32 (.v 243) (.v 244)), (244, .op2 .shl .u32 (.v 220) (.l 1)), (243, .op2 .shr .u32 (.v 217) (.l 31)), (242, .op2 .or .u32 (.v 240) (.v 241)), (241, .op2 .shl .u32 (.v 217) (.l 1)), (240, .op2 .shr .u32 (.v 214) (.l 31)), (239, .op2 .or .u32 (.v 237) (.v 238)), (238, .op2 .shl .u32 (.v 214) (.l 1)), (237, .op2 .shr .u32 (.v 211) (.l 31)), (236, .op2 .or .u32 (.v 234) (.v 235)), (235, .op2 .shl .u32 (.v 211) (.l 1)), (234, .op2 .shr .u32 (.v 205) (.l 31)), (233, .op2 .shr .u64 (.v 231) (.l 32)), (232, .conv .u32 (.v 231)), (231, .op2 .add .u64 (.v 230) (.l 0)), (230, .op2 .shr .u64 (.v 228) (.l 32)), (229, .conv .u32 (.v 228)), (228, .op2 .add .u64 (.v 227) (.l 0)), (227, .op2 .shr .u64 (.v 225) (.l 32)), (226, .conv .u32 (.v 225)), (225, .op2 .add .u64 (.v 224) (.l 0)), (224, .op2 .shr .u64 (.v 222) (.l 32)), (223, .conv .u32 (.v 222)), (222, .op2 .add .u64 (.v 221) (.l 0)), (221, .op2 .shr .u64 (.v 219) (.l 32)), (220, .conv .u32 (.v 219)), (219, .op2 .add .u64 (.v 218) (.l 0)), (218, .op2 .shr .u64 (.v 216) (.l 32)), (217, .conv .u32 (.v 216)), (216, .op2 .add .u64 (.v 215) (.l 0)), (215, .op2 .shr .u64 (.v 213) (.l 32)), (214, .conv .u32 (.v 213)), (213, .op2 .add .u64 (.v 212) (.l 0)), (212, .op2 .shr .u64 (.v 210) (.l 32)), (211, .conv .u32 (.v 210)), (210, .op2 .add .u64 (.v 206) (.v 209)), (209, .op2 .add .u64 (.l 0) (.v 208)), (208, .op2 .mul .u64 (.l 19) (.v 207)), (207, .conv .u64 (.v 149)), (206, .op2 .shr .u64 (.v 204) (.l 32)), (205, .conv .u32 (.v 204)), (204, .op2 .add .u64 (.v 199) (.v 203)), (203, .op2 .add .u64 (.v 200) (.v 202)), (202, .op2 .mul .u64 (.l 19) (.v 201)), (201, .conv .u64 (.v 148)), (200, .conv .u64 (.v 150)), (199, .op2 .shr .u64 (.v 197) (.l 32)), (198, .conv .u32 (.v 197)), (197, .op2 .add .u64 (.v 192) (.v 196)), (196, .op2 .add .u64 (.v 193) (.v 195)), (195, .op2 .mul .u64 (.l 19) (.v 194)), (194, .conv .u64 (.v 145)), (193, .conv .u64 (.v 89)), (192, .op2 .shr .u64 (.v 190) (.l 32)), (191, .conv .u32 (.v 190)), (190, .op2 .add .u64 (.v 185) (.v 189)), (189, .op2 .add .u64 (.v 186) (.v 188)), (188, .op2 .mul .u64 (.l 19) (.v 187)), (187, .conv .u64 (.v 142)), (186, .conv .u64 (.v 82)), (185, .op2 .shr .u64 (.v 183) (.l 32)), (184, .conv .u32 (.v 183)), (183, .op2 .add .u64 (.v 178) (.v 182)), (182, .op2 .add .u64 (.v 179) (.v 181)), (181, .op2 .mul .u64 (.l 19) (.v 180)), (180, .conv .u64 (.v 139)), (179, .conv .u64 (.v 75)), (178, .op2 .shr .u64 (.v 176) (.l 32)), (177, .conv .u32 (.v 176)), (176, .op2 .add .u64 (.v 171) (.v 175)), (175, .op2 .add .u64 (.v 172) (.v 174)), (174, .op2 .mul .u64 (.l 19) (.v 173)), (173, .conv .u64 (.v 136)), (172, .conv .u64 (.v 68)), (171, .op2 .shr .u64 (.v 169) (.l 32)), (170, .conv .u32 (.v 169)), (169, .op2 .add .u64 (.v 164) (.v 168)), (168, .op2 .add .u64 (.v 165) (.v 167)), (167, .op2 .mul .u64 (.l 19) (.v 166)), (166, .conv .u64 (.v 133)), (165, .conv .u64 (.v 61)), (164, .op2 .shr .u64 (.v 162) (.l 32)), (163, .conv .u32 (.v 162)), (162, .op2 .add .u64 (.v 157) (.v 161)), (161, .op2 .add .u64 (.v 158) (.v 160)), (160, .op2 .mul .u64 (.l 19) (.v 159)), (159, .conv .u64 (.v 130)), (158, .conv .u64 (.v 54)), (157, .op2 .shr .u64 (.v 155) (.l 32)), (156, .conv .u32 (.v 155)), (155, .op2 .add .u64 (.l 0) (.v 154)), (154, .op2 .add .u64 (.v 151) (.v 153)), (153, .op2 .mul .u64 (.l 19) (.v 152)), (152, .conv .u64 (.v 127)), (151, .conv .u64 (.v 47)), (150, .op2 .and .u32 (.v 96) (.l 2147483647)), (149, .op2 .shr .u32 (.v 123) (.l 31)), (148, .op2 .or .u32 (.v 146) (.v 147)), (147, .op2 .shl .u32 (.v 123) (.l 1)), (146, .op2 .shr .u32 (.v 120) (.l 31)), (145, .op2 .or .u32 (.v 143) (.v 144)), (144, .op2 .shl .u32 (.v 120) (.l 1)), (143, .op2 .shr .u32 (.v 117) (.l 31)), (142, .op2 .or .u32 (.v 140) (.v 141)), (141, .op2 .shl .u32 (.v 117) (.l 1)), (140, .op2 .shr .u32 (.v 114) (.l 31)), (139, .op2 .or .u32 (.v 137) (.v 138)), (138, .op2 .shl .u32 (.v 114) (.l 1)), (137, .op2 .shr .u32 (.v 111) (.l 31)), (136, .op2 .or .u32 (.v 134) (.v 135)), (135, .op2 .shl .u32 (.v 111) (.l 1)), (134, .op2 .shr .u32 (.v 108) (.l 31)), (133, .op2 .or .u32 (.v 131) (.v 132)), (132, .op2 .shl .u32 (.v 108) (.l 1)), (131, .op2 .shr .u32 (.v 105) (.l 31)), (130, .op2 .or .u32 (.v 128) (.v 129)), (129, .op2 .shl .u32 (.v 105) (.l 1)), (128, .op2 .shr .u32 (.v 102) (.l 31)), (127, .op2 .or .u32 (.v 125) (.v 126)), (126, .op2 .shl .u32 (.v 102) (.l 1)), (125, .op2 .shr .u32 (.v 96) (.l 31)), (124, .op2 .shr .u64 (.v 122) (.l 32)), (123, .conv .u32 (.v 122)), (122, .op2 .add .u64 (.v 121) (.l 0)), (121, .op2 .shr .u64 (.v 119) (.l 32)), (120, .conv .u32 (.v 119)), (119, .op2 .add .u64 (.v 118) (.l 0)), (118, .op2 .shr .u64 (.v 116) (.l 32)), (117, .conv .u32 (.v 116)), (116, .op2 .add .u64 (.v 115) (.l 0)), (115, .op2 .shr .u64 (.v 113) (.l 32)), (114, .conv .u32 (.v 113)), (113, .op2 .add .u64 (.v 112) (.l 0)), (112, .op2 .shr .u64 (.v 110) (.l 32)), (111, .conv .u32 (.v 110)), (110, .op2 .add .u64 (.v 109) (.l 0)), (109, .op2 .shr .u64 (.v 107) (.l 32)), (108, .conv .u32 (.v 107)), (107, .op2 .add .u64 (.v 106) (.l 0)), (106, .op2 .shr .u64 (.v 104) (.l 32)), (105, .conv .u32 (.v 104)), (104, .op2 .add .u64 (.v 103) (.l 0)), (103, .op2 .shr .u64 (.v 101) (.l 32)), (102, .conv .u32 (.v 101)), (101, .op2 .add .u64 (.v 97) (.v 100)), (100, .op2 .add .u64 (.l 0) (.v 99)), (99, .op2 .mul .u64 (.l 19) (.v 98)), (98, .conv .u64 (.v 40)), (97, .op2 .shr .u64 (.v 95) (.l 32)), (96, .conv .u32 (.v 95)), (95, .op2 .add .u64 (.v 90) (.v 94)), (94, .op2 .add .u64 (.v 91) (.v 93)), (93, .op2 .mul .u64 (.l 19) (.v 92)), (92, .conv .u64 (.v 39)), (91, .conv .u64 (.v 41)), (90, .op2 .shr .u64 (.v 88) (.l 32)), (89, .conv .u32 (.v 88)), (88, .op2 .add .u64 (.v 83) (.v 87)), (87, .op2 .add .u64 (.v 84) (.v 86)), (86, .op2 .mul .u64 (.l 19) (.v 85)), (85, .conv .u64 (.v 36)), (84, .conv .u64 (.v 6)), (83, .op2 .shr .u64 (.v 81) (.l 32)), (82, .conv .u32 (.v 81)), (81, .op2 .add .u64 (.v 76) (.v 80)), (80, .op2 .add .u64 (.v 77) (.v 79)), (79, .op2 .mul .u64 (.l 19) (.v 78)), (78, .conv .u64 (.v 33)), (77, .conv .u64 (.v 5)), (76, .op2 .shr .u64 (.v 74) (.l 32)), (75, .conv .u32 (.v 74)), (74, .op2 .add .u64 (.v 69) (.v 73)), (73, .op2 .add .u64 (.v 70) (.v 72)), (72, .op2 .mul .u64 (.l 19) (.v 71)), (71, .conv .u64 (.v 30)), (70, .conv .u64 (.v 4)), (69, .op2 .shr .u64 (.v 67) (.l 32)), (68, .conv .u32 (.v 67)), (67, .op2 .add .u64 (.v 62) (.v 66)), (66, .op2 .add .u64 (.v 63) (.v 65)), (65, .op2 .mul .u64 (.l 19) (.v 64)), (64, .conv .u64 (.v 27)), (63, .conv .u64 (.v 3)), (62, .op2 .shr .u64 (.v 60) (.l 32)), (61, .conv .u32 (.v 60)), (60, .op2 .add .u64 (.v 55) (.v 59)), (59, .op2 .add .u64 (.v 56) (.v 58)), (58, .op2 .mul .u64 (.l 19) (.v 57)), (57, .conv .u64 (.v 24)), (56, .conv .u64 (.v 2)), (55, .op2 .shr .u64 (.v 53) (.l 32)), (54, .conv .u32 (.v 53)), (53, .op2 .add .u64 (.v 48) (.v 52)), (52, .op2 .add .u64 (.v 49) (.v 51)), (51, .op2 .mul .u64 (.l 19) (.v 50)), (50, .conv .u64 (.v 21)), (49, .conv .u64 (.v 1)), (48, .op2 .shr .u64 (.v 46) (.l 32)), (47, .conv .u32 (.v 46)), (46, .op2 .add .u64 (.l 0) (.v 45)), (45, .op2 .add .u64 (.v 42) (.v 44)), (44, .op2 .mul .u64 (.l 19) (.v 43)), (43, .conv .u64 (.v 18)), (42, .conv .u64 (.v 0)), (41, .op2 .and .u32 (.v 7) (.l 2147483647)), (40, .op2 .shr .u32 (.v 15) (.l 31)), (39, .op2 .or .u32 (.v 37) (.v 38)), (38, .op2 .shl .u32 (.v 15) (.l 1)), (37, .op2 .shr .u32 (.v 14) (.l 31)), (36, .op2 .or .u32 (.v 34) (.v 35)), (35, .op2 .shl .u32 (.v 14) (.l 1)), (34, .op2 .shr .u32 (.v 13) (.l 31)), (33, .op2 .or .u32 (.v 31) (.v 32)), (32, .op2 .shl .u32 (.v 13) (.l 1)), (31, .op2 .shr .u32 (.v 12) (.l 31)), (30, .op2 .or .u32 (.v 28) (.v 29)), (29, .op2 .shl .u32 (.v 12) (.l 1)), (28, .op2 .shr .u32 (.v 11) (.l 31)), (27, .op2 .or .u32 (.v 25) (.v 26)), (26, .op2 .shl .u32 (.v 11) (.l 1)), (25, .op2 .shr .u32 (.v 10) (.l 31)), (24, .op2 .or .u32 (.v 22) (.v 23)), (23, .op2 .shl .u32 (.v 10) (.l 1)), (22, .op2 .shr .u32 (.v 9) (.l 31)), (21, .op2 .or .u32 (.v 19) (.v 20)), (20, .op2 .shl .u32 (.v 9) (.l 1)), (19, .op2 .shr .u32 (.v 8) (.l 31)), (18, .op2 .or .u32 (.v 16) (.v 17)), (17, .op2 .shl .u32 (.v 8) (.l 1)), (16, .op2 .shr .u32 (.v 7) (.l 31))])
def outs_fold_1 : List A := (vs 345 16)
def q_fold_1 : FPath := ⟨(bs 16 0 4294967295), g_fold_1, [.cond (.v 362) false, .pre 2 (List.flatten [vs 345 16, [(.l 4294967277)], ls 4294967295 6, [(.l 2147483647)], ls 0 8]), .pre 1 [], .pre 0 (List.flatten [[(.v 265), (.v 272), (.v 279), (.v 286), (.v 293), (.v 300), (.v 307), (.v 314), (.v 320), (.v 323), (.v 326), (.v 329), (.v 332), (.v 335), (.v 338), (.v 341), (.l 4294967277)], ls 4294967295 6, [(.l 2147483647)], ls 0 8]), .pre 1 [], .cond (.v 344) true, .pre 2 (List.flatten [[(.v 265), (.v 272), (.v 279), (.v 286), (.v 293), (.v 300), (.v 307), (.v 314), (.v 320), (.v 323), (.v 326), (.v 329), (.v 332), (.v 335), (.v 338), (.v 341), (.l 4294967277)], ls 4294967295 6, [(.l 2147483647)], ls 0 8]), .pre 1 []], outs_fold_1⟩
def q_fold : List FPath := [q_fold_0, q_fold_1]
def bi_fold : Bd := (bs 16 0 4294967295)
def FE0 (v : Nat → Int) (R : Prop) : Prop := v 16 = (v 7) / 2147483648 ∧ v 17 = ((v 8) * 2) % 4294967296 ∧ v 18 = (v 16) + (v 17) ∧ v 19 = (v 8) / 2147483648 ∧ v 20 = ((v 9) * 2) % 4294967296 ∧ v 21 = (v 19) + (v 20) ∧ v 22 = (v 9) / 2147483648 ∧ v 23 = ((v 10) * 2) % 4294967296 ∧ v 24 = (v 22) + (v 23) ∧ v 25 = (v 10) / 2147483648 ∧ v 26 = ((v 11) * 2) % 4294967296 ∧ v 27 = (v 25) + (v 26) ∧ v 28 = (v 11) / 2147483648 ∧ v 29 = ((v 12) * 2) % 4294967296 ∧ v 30 = (v 28) + (v 29) ∧ v 31 = (v 12) / 2147483648 ∧ v 32 = ((v 13) * 2) % 4294967296 ∧ v 33 = (v 31) + (v 32) ∧ v 34 = (v 13) / 2147483648 ∧ v 35 = ((v 14) * 2) % 4294967296 ∧ v 36 = (v 34) + (v 35) ∧ v 37 = (v 14) / 2147483648 ∧ v 38 = ((v 15) * 2) % 4294967296 ∧ v 39 = (v 37) + (v 38) ∧ v 40 = (v 15) / 2147483648 ∧ v 41 = (v 7) % 2147483648 ∧ v 42 = (v 0) ∧ v 43 = (v 18) ∧ v 44 = 19 * (v 43) ∧ v 45 = (v 42) + (v 44) ∧ v 46 = 0 + (v 45) ∧ v 47 = (v 46) % 4294967296 ∧ v 48 = (v 46) / 4294967296 ∧ v 49 = (v 1) ∧ v 50 = (v 21) ∧ v 51 = 19 * (v 50) ∧ v 52 = (v 49) + (v 51) ∧ v 53 = (v 48) + (v 52) ∧ v 54 = (v 53) % 4294967296 ∧ v 55 = (v 53) / 4294967296 ∧ v 56 = (v 2) ∧ v 57 = (v 24) ∧ v 58 = 19 * (v 57) ∧ v 59 = (v 56) + (v 58) ∧ v 60 = (v 55) + (v 59) ∧ v 61 = (v 60) % 4294967296 ∧ v 62 = (v 60) / 4294967296 ∧ v 63 = (v 3) ∧ v 64 = (v 27) ∧ v 65 = 19 * (v 64) ∧ v 66 = (v 63) + (v 65) ∧ v 67 = (v 62) + (v 66) ∧ v 68 = (v 67) % 4294967296 ∧ v 69 = (v 67) / 4294967296 ∧ v 70 = (v 4) ∧ v 71 = (v 30) ∧ v 72 = 19 * (v 71) ∧ v 73 = (v 70) + (v 72) ∧ v 74 = (v 69) + (v 73) ∧ v 75 = (v 74) % 4294967296 ∧ v 76 = (v 74) / 4294967296 ∧ v 77 = (v 5) ∧ v 78 = (v 33) ∧ v 79 = 19 * (v 78) ∧ v 80 = (v 77) + (v 79) ∧ v 81 = (v 76) + (v 80) ∧ v 82 = (v 81) % 4294967296 ∧ v 83 = (v 81) / 4294967296 ∧ v 84 = (v 6) ∧ v 85 = (v 36) ∧ v 86 = 19 * (v 85) ∧ v 87 = (v 84) + (v 86) ∧ v 88 = (v 83) + (v 87) ∧ v 89 = (v 88) % 4294967296 ∧ v 90 = (v 88) / 4294967296 ∧ v 91 = (v 41) ∧ v 92 = (v 39) ∧ v 93 = 19 * (v 92) ∧ v 94 = (v 91) + (v 93) ∧ v 95 = (v 90) + (v 94) ∧ v 96 = (v 95) % 4294967296 ∧ v 97 = (v 95) / 4294967296 ∧ v 98 = (v 40) ∧ v 99 = 19 * (v 98) ∧ v 100 = 0 + (v 99) ∧ v 101 = (v 97) + (v 100) ∧ v 102 = (v 101) ∧ v 103 = (v 101) / 4294967296 ∧ v 104 = (v 103) + 0 ∧ v 105 = (v 104) ∧ v 106 = (v 104) / 4294967296 ∧ v 107 = (v 106) + 0 ∧ v 108 = (v 107) ∧ v 109 = (v 107) / 4294967296 ∧ v 110 = (v 109) + 0 ∧ v 111 = (v 110) ∧ v 112 = (v 110) / 4294967296 ∧ v 113 = (v 112) + 0 ∧ v 114 = (v 113) ∧ v 115 = (v 113) / 4294967296 ∧ v 116 = (v 115) + 0 ∧ v 117 = (v 116) ∧ v 118 = (v 116) / 4294967296 ∧ v 119 = (v 118) + 0 ∧ v 120 = (v 119) ∧ v 121 = (v 119) / 4294967296 ∧ v 122 = (v 121) + 0 ∧ v 123 = (v 122) ∧ v 124 = (v 122) / 4294967296 ∧ R
def FB0 (v : Nat → Int) (R : Prop) : Prop := (0 ≤ v 16 ∧ v 16 ≤ 1) ∧ (0 ≤ v 17 ∧ v 17 ≤ 4294967295) ∧ (0 ≤ v 18 ∧ v 18 ≤ 4294967295) ∧ (0 ≤ v 19 ∧ v 19 ≤ 1) ∧ (0 ≤ v 20 ∧ v 20 ≤ 4294967295) ∧ (0 ≤ v 21 ∧ v 21 ≤ 4294967295) ∧ (0 ≤ v 22 ∧ v 22 ≤ 1) ∧ (0 ≤ v 23 ∧ v 23 ≤ 4294967295) ∧ (0 ≤ v 24 ∧ v 24 ≤ 4294967295) ∧ (0 ≤ v 25 ∧ v 25 ≤ 1) ∧ (0 ≤ v 26 ∧ v 26 ≤ 4294967295) ∧ (0 ≤ v 27 ∧ v 27 ≤ 4294967295) ∧ (0 ≤ v 28 ∧ v 28 ≤ 1) ∧ (0 ≤ v 29 ∧ v 29 ≤ 4294967295) ∧ (0 ≤ v 30 ∧ v 30 ≤ 4294967295) ∧ (0 ≤ v 31 ∧ v 31 ≤ 1) ∧ (0 ≤ v 32 ∧ v 32 ≤ 4294967295) ∧ (0 ≤ v 33 ∧ v 33 ≤ 4294967295) ∧ (0 ≤ v 34 ∧ v 34 ≤ 1) ∧ (0 ≤ v 35 ∧ v 35 ≤ 4294967295) ∧ (0 ≤ v 36 ∧ v 36 ≤ 4294967295) ∧ (0 ≤ v 37 ∧ v 37 ≤ 1) ∧ (0 ≤ v 38 ∧ v 38 ≤ 4294967295) ∧ (0 ≤ v 39 ∧ v 39 ≤ 4294967295) ∧ (0 ≤ v 40 ∧ v 40 ≤ 1) ∧ (0 ≤ v 41 ∧ v 41 ≤ 2147483647) ∧ (0 ≤ v 42 ∧ v 42 ≤ 4294967295) ∧ (0 ≤ v 43 ∧ v 43 ≤ 4294967295) ∧ (0 ≤ v 44 ∧ v 44 ≤ 81604378605) ∧ (0 ≤ v 45 ∧ v 45 ≤ 85899345900) ∧ (0 ≤ v 46 ∧ v 46 ≤ 85899345900) ∧ (0 ≤ v 47 ∧ v 47 ≤ 4294967295) ∧ (0 ≤ v 48 ∧ v 48 ≤ 19) ∧ (0 ≤ v 49 ∧ v 49 ≤ 4294967295) ∧ (0 ≤ v 50 ∧ v 50 ≤ 4294967295) ∧ (0 ≤ v 51 ∧ v 51 ≤ 81604378605) ∧ (0 ≤ v 52 ∧ v 52 ≤ 85899345900) ∧ (0 ≤ v 53 ∧ v 53 ≤ 85899345919) ∧ (0 ≤ v 54 ∧ v 54 ≤ 4294967295) ∧ (0 ≤ v 55 ∧ v 55 ≤ 19) ∧ (0 ≤ v 56 ∧ v 56 ≤ 4294967295) ∧ (0 ≤ v 57 ∧ v 57 ≤ 4294967295) ∧ (0 ≤ v 58 ∧ v 58 ≤ 81604378605) ∧ (0 ≤ v 59 ∧ v 59 ≤ 85899345900) ∧ (0 ≤ v 60 ∧ v 60 ≤ 85899345919) ∧ (0 ≤ v 61 ∧ v 61 ≤ 4294967295) ∧ (0 ≤ v 62 ∧ v 62 ≤ 19) ∧ (0 ≤ v 63 ∧ v 63 ≤ 4294967295) ∧ (0 ≤ v 64 ∧ v 64 ≤ 4294967295) ∧ (0 ≤ v 65 ∧ v 65 ≤ 81604378605) ∧ (0 ≤ v 66 ∧ v 66 ≤ 85899345900) ∧ (0 ≤ v 67 ∧ v 67 ≤ 85899345919) ∧ (0 ≤ v 68 ∧ v 68 ≤ 4294967295) ∧ (0 ≤ v 69 ∧ v 69 ≤ 19) ∧ (0 ≤ v 70 ∧ v 70 ≤ 4294967295) ∧ (0 ≤ v 71 ∧ v 71 ≤ 4294967295) ∧ (0 ≤ v 72 ∧ v 72 ≤ 81604378605) ∧ (0 ≤ v 73 ∧ v 73 ≤ 85899345900) ∧ (0 ≤ v 74 ∧ v 74 ≤ 85899345919) ∧ (0 ≤ v 75 ∧ v 75 ≤ 4294967295) ∧ (0 ≤ v 76 ∧ v 76 ≤ 19) ∧ (0 ≤ v 77 ∧ v 77 ≤ 4294967295) ∧ (0 ≤ v 78 ∧ v 78 ≤ 4294967295) ∧ (0 ≤ v 79 ∧ v 79 ≤ 81604378605) ∧ (0 ≤ v 80 ∧ v 80 ≤ 85899345900) ∧ (0 ≤ v 81 ∧ v 81 ≤ 85899345919) ∧ (0 ≤ v 82 ∧ v 82 ≤ 4294967295) ∧ (0 ≤ v 83 ∧ v 83 ≤ 19) ∧ (0 ≤ v 84 ∧ v 84 ≤ 4294967295) ∧ (0 ≤ v 85 ∧ v 85 ≤ 4294967295) ∧ (0 ≤ v 86 ∧ v 86 ≤ 81604378605) ∧ (0 ≤ v 87 ∧ v 87 ≤ 85899345900) ∧ (0 ≤ v 88 ∧ v 88 ≤ 85899345919) ∧ (0 ≤ v 89 ∧ v 89 ≤ 4294967295) ∧ (0 ≤ v 90 ∧ v 90 ≤ 19) ∧ (0 ≤ v 91 ∧ v 91 ≤ 2147483647) ∧ (0 ≤ v 92 ∧ v 92 ≤ 4294967295) ∧ (0 ≤ v 93 ∧ v 93 ≤ 81604378605) ∧ (0 ≤ v 94 ∧ v 94 ≤ 83751862252) ∧ (0 ≤ v 95 ∧ v 95 ≤ 83751862271) ∧ (0 ≤ v 96 ∧ v 96 ≤ 4294967295) ∧ (0 ≤ v 97 ∧ v 97 ≤ 19) ∧ (0 ≤ v 98 ∧ v 98 ≤ 1) ∧ (0 ≤ v 99 ∧ v 99 ≤ 19) ∧ (0 ≤ v 100 ∧ v 100 ≤ 19) ∧ (0 ≤ v 101 ∧ v 101 ≤ 38) ∧ (0 ≤ v 102 ∧ v 102 ≤ 38) ∧ (0 ≤ v 103 ∧ v 103 ≤ 0) ∧ (0 ≤ v 104 ∧ v 104 ≤ 0) ∧ (0 ≤ v 105 ∧ v 105 ≤ 0) ∧ (0 ≤ v 106 ∧ v 106 ≤ 0) ∧ (0 ≤ v 107 ∧ v 107 ≤ 0) ∧ (0 ≤ v 108 ∧ v 108 ≤ 0) ∧ (0 ≤ v 109 ∧ v 109 ≤ 0) ∧ (0 ≤ v 110 ∧ v 110 ≤ 0) ∧ (0 ≤ v 111 ∧ v 111 ≤ 0) ∧ (0 ≤ v 112 ∧ v 112 ≤ 0) ∧ (0 ≤ v 113 ∧ v 113 ≤ 0) ∧ (0 ≤ v 114 ∧ v 114 ≤ 0) ∧ (0 ≤ v 115 ∧ v 115 ≤ 0) ∧ (0 ≤ v 116 ∧ v 116 ≤ 0) ∧ (0 ≤ v 117 ∧ v 117 ≤ 0) ∧ (0 ≤ v 118 ∧ v 118 ≤ 0) ∧ (0 ≤ v 119 ∧ v 119 ≤ 0) ∧ (0 ≤ v 120 ∧ v 120 ≤ 0) ∧ (0 ≤ v 121 ∧ v 121 ≤ 0) ∧ (0 ≤ v 122 ∧ v 122 ≤ 0) ∧ (0 ≤ v 123 ∧ v 123 ≤ 0) ∧ (0 ≤ v 124 ∧ v 124 ≤ 0) ∧ R
def FE1 (v : Nat → Int) (R : Prop) : Prop := v 125 = (v 96) / 2147483648 ∧ v 126 = (v 102) * 2 ∧ v 127 = (v 125) + (v 126) ∧ v 128 = (v 102) / 2147483648 ∧ v 129 = (v 105) * 2 ∧ v 130 = (v 128) + (v 129) ∧ v 131 = (v 105) / 2147483648 ∧ v 132 = (v 108) * 2 ∧ v 133 = (v 131) + (v 132) ∧ v 134 = (v 108) / 2147483648 ∧ v 135 = (v 111) * 2 ∧ v 136 = (v 134) + (v 135) ∧ v 137 = (v 111) / 2147483648 ∧ v 138 = (v 114) * 2 ∧ v 139 = (v 137) + (v 138) ∧ v 140 = (v 114) / 2147483648 ∧ v 141 = (v 117) * 2 ∧ v 142 = (v 140) + (v 141) ∧ v 143 = (v 117) / 2147483648 ∧ v 144 = (v 120) * 2 ∧ v 145 = (v 143) + (v 144) ∧ v 146 = (v 120) / 2147483648 ∧ v 147 = (v 123) * 2 ∧ v 148 = (v 146) + (v 147) ∧ v 149 = (v 123) / 2147483648 ∧ v 150 = (v 96) % 2147483648 ∧ v 151 = (v 47) ∧ v 152 = (v 127) ∧ v 153 = 19 * (v 152) ∧ v 154 = (v 151) + (v 153) ∧ v 155 = 0 + (v 154) ∧ v 156 = (v 155) % 4294967296 ∧ v 157 = (v 155) / 4294967296 ∧ v 158 = (v 54) ∧ v 159 = (v 130) ∧ v 160 = 19 * (v 159) ∧ v 161 = (v 158) + (v 160) ∧ v 162 = (v 157) + (v 161) ∧ v 163 = (v 162) % 4294967296 ∧ v 164 = (v 162) / 4294967296 ∧ v 165 = (v 61) ∧ v 166 = (v 133) ∧ v 167 = 19 * (v 166) ∧ v 168 = (v 165) + (v 167) ∧ v 169 = (v 164) + (v 168) ∧ v 170 = (v 169) % 4294967296 ∧ v 171 = (v 169) / 4294967296 ∧ v 172 = (v 68) ∧ v 173 = (v 136) ∧ v 174 = 19 * (v 173) ∧ v 175 = (v 172) + (v 174) ∧ v 176 = (v 171) + (v 175) ∧ v 177 = (v 176) % 4294967296 ∧ v 178 = (v 176) / 4294967296 ∧ v 179 = (v 75) ∧ v 180 = (v 139) ∧ v 181 = 19 * (v 180) ∧ v 182 = (v 179) + (v 181) ∧ v 183 = (v 178) + (v 182) ∧ v 184 = (v 183) % 4294967296 ∧ v 185 = (v 183) / 4294967296 ∧ v 186 = (v 82) ∧ v 187 = (v 142) ∧ v 188 = 19 * (v 187) ∧ v 189 = (v 186) + (v 188) ∧ v 190 = (v 185) + (v 189) ∧ v 191 = (v 190) % 4294967296 ∧ v 192 = (v 190) / 4294967296 ∧ v 193 = (v 89) ∧ v 194 = (v 145) ∧ v 195 = 19 * (v 194) ∧ v 196 = (v 193) + (v 195) ∧ v 197 = (v 192) + (v 196) ∧ v 198 = (v 197) % 4294967296 ∧ v 199 = (v 197) / 4294967296 ∧ v 200 = (v 150) ∧ v 201 = (v 148) ∧ v 202 = 19 * (v 201) ∧ v 203 = (v 200) + (v 202) ∧ v 204 = (v 199) + (v 203) ∧ v 205 = (v 204) ∧ v 206 = (v 204) / 4294967296 ∧ v 207 = (v 149) ∧ v 208 = 19 * (v 207) ∧ v 209 = 0 + (v 208) ∧ v 210 = (v 206) + (v 209) ∧ v 211 = (v 210) ∧ v 212 = (v 210) / 4294967296 ∧ v 213 = (v 212) + 0 ∧ v 214 = (v 213) ∧ v 215 = (v 213) / 4294967296 ∧ v 216 = (v 215) + 0 ∧ v 217 = (v 216) ∧ v 218 = (v 216) / 4294967296 ∧ v 219 = (v 218) + 0 ∧ v 220 = (v 219) ∧ v 221 = (v 219) / 4294967296 ∧ v 222 = (v 221) + 0 ∧ v 223 = (v 222) ∧ v 224 = (v 222) / 4294967296 ∧ v 225 = (v 224) + 0 ∧ v 226 = (v 225) ∧ v 227 = (v 225) / 4294967296 ∧ v 228 = (v 227) + 0 ∧ v 229 = (v 228) ∧ v 230 = (v 228) / 4294967296 ∧ v 231 = (v 230) + 0 ∧ v 232 = (v 231) ∧ v 233 = (v 231) / 4294967296 ∧ R
def FB1 (v : Nat → Int) (R : Prop) : Prop := (0 ≤ v 125 ∧ v 125 ≤ 1) ∧ (0 ≤ v 126 ∧ v 126 ≤ 76) ∧ (0 ≤ v 127 ∧ v 127 ≤ 77) ∧ (0 ≤ v 128 ∧ v 128 ≤ 0) ∧ (0 ≤ v 129 ∧ v 129 ≤ 0) ∧ (0 ≤ v 130 ∧ v 130 ≤ 0) ∧ (0 ≤ v 131 ∧ v 131 ≤ 0) ∧ (0 ≤ v 132 ∧ v 132 ≤ 0) ∧ (0 ≤ v 133 ∧ v 133 ≤ 0) ∧ (0 ≤ v 134 ∧ v 134 ≤ 0) ∧ (0 ≤ v 135 ∧ v 135 ≤ 0) ∧ (0 ≤ v 136 ∧ v 136 ≤ 0) ∧ (0 ≤ v 137 ∧ v 137 ≤ 0) ∧ (0 ≤ v 138 ∧ v 138 ≤ 0) ∧ (0 ≤ v 139 ∧ v 139 ≤ 0) ∧ (0 ≤ v 140 ∧ v 140 ≤ 0) ∧ (0 ≤ v 141 ∧ v 141 ≤ 0) ∧ (0 ≤ v 142 ∧ v 142 ≤ 0) ∧ (0 ≤ v 143 ∧ v 143 ≤ 0) ∧ (0 ≤ v 144 ∧ v 144 ≤ 0) ∧ (0 ≤ v 145 ∧ v 145 ≤ 0) ∧ (0 ≤ v 146 ∧ v 146 ≤ 0) ∧ (0 ≤ v 147 ∧ v 147 ≤ 0) ∧ (0 ≤ v 148 ∧ v 148 ≤ 0) ∧ (0 ≤ v 149 ∧ v 149 ≤ 0) ∧ (0 ≤ v 150 ∧ v 150 ≤ 2147483647) ∧ (0 ≤ v 151 ∧ v 151 ≤ 4294967295) ∧ (0 ≤ v 152 ∧ v 152 ≤ 77) ∧ (0 ≤ v 153 ∧ v 153 ≤ 1463) ∧ (0 ≤ v 154 ∧ v 154 ≤ 4294968758) ∧ (0 ≤ v 155 ∧ v 155 ≤ 4294968758) ∧ (0 ≤ v 156 ∧ v 156 ≤ 4294967295) ∧ (0 ≤ v 157 ∧ v 157 ≤ 1) ∧ (0 ≤ v 158 ∧ v 158 ≤ 4294967295) ∧ (0 ≤ v 159 ∧ v 159 ≤ 0) ∧ (0 ≤ v 160 ∧ v 160 ≤ 0) ∧ (0 ≤ v 161 ∧ v 161 ≤ 4294967295) ∧ (0 ≤ v 162 ∧ v 162 ≤ 4294967296) ∧ (0 ≤ v 163 ∧ v 163 ≤ 4294967295) ∧ (0 ≤ v 164 ∧ v 164 ≤ 1) ∧ (0 ≤ v 165 ∧ v 165 ≤ 4294967295) ∧ (0 ≤ v 166 ∧ v 166 ≤ 0) ∧ (0 ≤ v 167 ∧ v 167 ≤ 0) ∧ (0 ≤ v 168 ∧ v 168 ≤ 4294967295) ∧ (0 ≤ v 169 ∧ v 169 ≤ 4294967296) ∧ (0 ≤ v 170 ∧ v 170 ≤ 4294967295) ∧ (0 ≤ v 171 ∧ v 171 ≤ 1) ∧ (0 ≤ v 172 ∧ v 172 ≤ 4294967295) ∧ (0 ≤ v 173 ∧ v 173 ≤ 0) ∧ (0 ≤ v 174 ∧ v 174 ≤ 0) ∧ (0 ≤ v 175 ∧ v 175 ≤ 4294967295) ∧ (0 ≤ v 176 ∧ v 176 ≤ 4294967296) ∧ (0 ≤ v 177 ∧ v 177 ≤ 4294967295) ∧ (0 ≤ v 178 ∧ v 178 ≤ 1) ∧ (0 ≤ v 179 ∧ v 179 ≤ 4294967295) ∧ (0 ≤ v 180 ∧ v 180 ≤ 0) ∧ (0 ≤ v 181 ∧ v 181 ≤ 0) ∧ (0 ≤ v 182 ∧ v 182 ≤ 4294967295) ∧ (0 ≤ v 183 ∧ v 183 ≤ 4294967296) ∧ (0 ≤ v 184 ∧ v 184 ≤ 4294967295) ∧ (0 ≤ v 185 ∧ v 185 ≤ 1) ∧ (0 ≤ v 186 ∧ v 186 ≤ 4294967295) ∧ (0 ≤ v 187 ∧ v 187 ≤ 0) ∧ (0 ≤ v 188 ∧ v 188 ≤ 0) ∧ (0 ≤ v 189 ∧ v 189 ≤ 4294967295) ∧ (0 ≤ v 190 ∧ v 190 ≤ 4294967296) ∧ (0 ≤ v 191 ∧ v 191 ≤ 4294967295) ∧ (0 ≤ v 192 ∧ v 192 ≤ 1) ∧ (0 ≤ v 193 ∧ v 193 ≤ 4294967295) ∧ (0 ≤ v 194 ∧ v 194 ≤ 0) ∧ (0 ≤ v 195 ∧ v 195 ≤ 0) ∧ (0 ≤ v 196 ∧ v 196 ≤ 4294967295) ∧ (0 ≤ v 197 ∧ v 197 ≤ 4294967296) ∧ (0 ≤ v 198 ∧ v 198 ≤ 4294967295) ∧ (0 ≤ v 199 ∧ v 199 ≤ 1) ∧ (0 ≤ v 200 ∧ v 200 ≤ 2147483647) ∧ (0 ≤ v 201 ∧ v 201 ≤ 0) ∧ (0 ≤ v 202 ∧ v 202 ≤ 0) ∧ (0 ≤ v 203 ∧ v 203 ≤ 2147483647) ∧ (0 ≤ v 204 ∧ v 204 ≤ 2147483648) ∧ (0 ≤ v 205 ∧ v 205 ≤ 2147483648) ∧ (0 ≤ v 206 ∧ v 206 ≤ 0) ∧ (0 ≤ v 207 ∧ v 207 ≤ 0) ∧ (0 ≤ v 208 ∧ v 208 ≤ 0) ∧ (0 ≤ v 209 ∧ v 209 ≤ 0) ∧ (0 ≤ v 210 ∧ v 210 ≤ 0) ∧ (0 ≤ v 211 ∧ v 211 ≤ 0) ∧ (0 ≤ v 212 ∧ v 212 ≤ 0) ∧ (0 ≤ v 213 ∧ v 213 ≤ 0) ∧ (0 ≤ v 214 ∧ v 214 ≤ 0) ∧ (0 ≤ v 215 ∧ v 215 ≤ 0) ∧ (0 ≤ v 216 ∧ v 216 ≤ 0) ∧ (0 ≤ v 217 ∧ v 217 ≤ 0) ∧ (0 ≤ v 218 ∧ v 218 ≤ 0) ∧ (0 ≤ v 219 ∧ v 219 ≤ 0) ∧ (0 ≤ v 220 ∧ v 220 ≤ 0) ∧ (0 ≤ v 221 ∧ v 221 ≤ 0) ∧ (0 ≤ v 222 ∧ v 222 ≤ 0) ∧ (0 ≤ v 223 ∧ v 223 ≤ 0) ∧ (0 ≤ v 224 ∧ v 224 ≤ 0) ∧ (0 ≤ v 225 ∧ v 225 ≤ 0) ∧ (0 ≤ v 226 ∧ v 226 ≤ 0) ∧ (0 ≤ v 227 ∧ v 227 ≤ 0) ∧ (0 ≤ v 228 ∧ v 228 ≤ 0) ∧ (0 ≤ v 229 ∧ v 229 ≤ 0) ∧ (0 ≤ v 230 ∧ v 230 ≤ 0) ∧ (0 ≤ v 231 ∧ v 231 ≤ 0) ∧ (0 ≤ v 232 ∧ v 232 ≤ 0) ∧ (0 ≤ v 233 ∧ v 233 ≤ 0) ∧ R
def FE2 (v : Nat → Int) (R : Prop) : Prop := v 234 = (v 205) / 2147483648 ∧ v 235 = (v 211) * 2 ∧ v 236 = (v 234) + (v 235) ∧ v 237 = (v 211) / 2147483648 ∧ v 238 = (v 214) * 2 ∧ v 239 = (v 237) + (v 238) ∧ v 240 = (v 214) / 2147483648 ∧ v 241 = (v 217) * 2 ∧ v 242 = (v 240) + (v 241) ∧ v 243 = (v 217) / 2147483648 ∧ v 244 = (v 220) * 2 ∧ v 245 = (v 243) + (v 244) ∧ v 246 = (v 220) / 2147483648 ∧ v 247 = (v 223) * 2 ∧ v 248 = (v 246) + (v 247) ∧ v 249 = (v 223) / 2147483648 ∧ v 250 = (v 226) * 2 ∧ v 251 = (v 249) + (v 250) ∧ v 252 = (v 226) / 2147483648 ∧ v 253 = (v 229) * 2 ∧ v 254 = (v 252) + (v 253) ∧ v 255 = (v 229) / 2147483648 ∧ v 256 = (v 232) * 2 ∧ v 257 = (v 255) + (v 256) ∧ v 258 = (v 232) / 2147483648 ∧ v 259 = (v 205) % 2147483648 ∧ v 260 = (v 156) ∧ v 261 = (v 236) ∧ v 262 = 19 * (v 261) ∧ v 263 = (v 260) + (v 262) ∧ v 264 = 0 + (v 263) ∧ v 265 = (v 264) % 4294967296 ∧ v 266 = (v 264) / 4294967296 ∧ v 267 = (v 163) ∧ v 268 = (v 239) ∧ v 269 = 19 * (v 268) ∧ v 270 = (v 267) + (v 269) ∧ v 271 = (v 266) + (v 270) ∧ v 272 = (v 271) % 4294967296 ∧ v 273 = (v 271) / 4294967296 ∧ v 274 = (v 170) ∧ v 275 = (v 242) ∧ v 276 = 19 * (v 275) ∧ v 277 = (v 274) + (v 276) ∧ v 278 = (v 273) + (v 277) ∧ v 279 = (v 278) % 4294967296 ∧ v 280 = (v 278) / 4294967296 ∧ v 281 = (v 177) ∧ v 282 = (v 245) ∧ v 283 = 19 * (v 282) ∧ v 284 = (v 281) + (v 283) ∧ v 285 = (v 280) + (v 284) ∧ v 286 = (v 285) % 4294967296 ∧ v 287 = (v 285) / 4294967296 ∧ v 288 = (v 184) ∧ v 289 = (v 248) ∧ v 290 = 19 * (v 289) ∧ v 291 = (v 288) + (v 290) ∧ v 292 = (v 287) + (v 291) ∧ v 293 = (v 292) % 4294967296 ∧ v 294 = (v 292) / 4294967296 ∧ v 295 = (v 191) ∧ v 296 = (v 251) ∧ v 297 = 19 * (v 296) ∧ v 298 = (v 295) + (v 297) ∧ v 299 = (v 294) + (v 298) ∧ v 300 = (v 299) % 4294967296 ∧ v 301 = (v 299) / 4294967296 ∧ v 302 = (v 198) ∧ v 303 = (v 254) ∧ v 304 = 19 * (v 303) ∧ v 305 = (v 302) + (v 304) ∧ v 306 = (v 301) + (v 305) ∧ v 307 = (v 306) % 4294967296 ∧ v 308 = (v 306) / 4294967296 ∧ v 309 = (v 259) ∧ v 310 = (v 257) ∧ v 311 = 19 * (v 310) ∧ v 312 = (v 309) + (v 311) ∧ v 313 = (v 308) + (v 312) ∧ v 314 = (v 313) ∧ v 315 = (v 313) / 4294967296 ∧ v 316 = (v 258) ∧ v 317 = 19 * (v 316) ∧ v 318 = 0 + (v 317) ∧ v 319 = (v 315) + (v 318) ∧ v 320 = (v 319) ∧ v 321 = (v 319) / 4294967296 ∧ v 322 = (v 321) + 0 ∧ v 323 = (v 322) ∧ v 324 = (v 322) / 4294967296 ∧ v 325 = (v 324) + 0 ∧ v 326 = (v 325) ∧ v 327 = (v 325) / 4294967296 ∧ v 328 = (v 327) + 0 ∧ v 329 = (v 328) ∧ v 330 = (v 328) / 4294967296 ∧ v 331 = (v 330) + 0 ∧ v 332 = (v 331) ∧ v 333 = (v 331) / 4294967296 ∧ v 334 = (v 333) + 0 ∧ v 335 = (v 334) ∧ v 336 = (v 334) / 4294967296 ∧ v 337 = (v 336) + 0 ∧ v 338 = (v 337) ∧ v 339 = (v 337) / 4294967296 ∧ v 340 = (v 339) + 0 ∧ v 341 = (v 340) ∧ v 342 = (v 340) / 4294967296 ∧ R
def FB2 (v : Nat → Int) (R : Prop) : Prop := (0 ≤ v 234 ∧ v 234 ≤ 1) ∧ (0 ≤ v 235 ∧ v 235 ≤ 0) ∧ (0 ≤ v 236 ∧ v 236 ≤ 1) ∧ (0 ≤ v 237 ∧ v 237 ≤ 0) ∧ (0 ≤ v 238 ∧ v 238 ≤ 0) ∧ (0 ≤ v 239 ∧ v 239 ≤ 0) ∧ (0 ≤ v 240 ∧ v 240 ≤ 0) ∧ (0 ≤ v 241 ∧ v 241 ≤ 0) ∧ (0 ≤ v 242 ∧ v 242 ≤ 0) ∧ (0 ≤ v 243 ∧ v 243 ≤ 0) ∧ (0 ≤ v 244 ∧ v 244 ≤ 0) ∧ (0 ≤ v 245 ∧ v 245 ≤ 0) ∧ (0 ≤ v 246 ∧ v 246 ≤ 0) ∧ (0 ≤ v 247 ∧ v 247 ≤ 0) ∧ (0 ≤ v 248 ∧ v 248 ≤ 0) ∧ (0 ≤ v 249 ∧ v 249 ≤ 0) ∧ (0 ≤ v 250 ∧ v 250 ≤ 0) ∧ (0 ≤ v 251 ∧ v 251 ≤ 0) ∧ (0 ≤ v 252 ∧ v 252 ≤ 0) ∧ (0 ≤ v 253 ∧ v 253 ≤ 0) ∧ (0 ≤ v 254 ∧ v 254 ≤ 0) ∧ (0 ≤ v 255 ∧ v 255 ≤ 0) ∧ (0 ≤ v 256 ∧ v 256 ≤ 0) ∧ (0 ≤ v 257 ∧ v 257 ≤ 0) ∧ (0 ≤ v 258 ∧ v 258 ≤ 0) ∧ (0 ≤ v 259 ∧ v 259 ≤ 2147483647) ∧ (0 ≤ v 260 ∧ v 260 ≤ 4294967295) ∧ (0 ≤ v 261 ∧ v 261 ≤ 1) ∧ (0 ≤ v 262 ∧ v 262 ≤ 19) ∧ (0 ≤ v 263 ∧ v 263 ≤ 4294967314) ∧ (0 ≤ v 264 ∧ v 264 ≤ 4294967314) ∧ (0 ≤ v 265 ∧ v 265 ≤ 4294967295) ∧ (0 ≤ v 266 ∧ v 266 ≤ 1) ∧ (0 ≤ v 267 ∧ v 267 ≤ 4294967295) ∧ (0 ≤ v 268 ∧ v 268 ≤ 0) ∧ (0 ≤ v 269 ∧ v 269 ≤ 0) ∧ (0 ≤ v 270 ∧ v 270 ≤ 4294967295) ∧ (0 ≤ v 271 ∧ v 271 ≤ 4294967296) ∧ (0 ≤ v 272 ∧ v 272 ≤ 4294967295) ∧ (0 ≤ v 273 ∧ v 273 ≤ 1) ∧ (0 ≤ v 274 ∧ v 274 ≤ 4294967295) ∧ (0 ≤ v 275 ∧ v 275 ≤ 0) ∧ (0 ≤ v 276 ∧ v 276 ≤ 0) ∧ (0 ≤ v 277 ∧ v 277 ≤ 4294967295) ∧ (0 ≤ v 278 ∧ v 278 ≤ 4294967296) ∧ (0 ≤ v 279 ∧ v 279 ≤ 4294967295) ∧ (0 ≤ v 280 ∧ v 280 ≤ 1) ∧ (0 ≤ v 281 ∧ v 281 ≤ 4294967295) ∧ (0 ≤ v 282 ∧ v 282 ≤ 0) ∧ (0 ≤ v 283 ∧ v 283 ≤ 0) ∧ (0 ≤ v 284 ∧ v 284 ≤ 4294967295) ∧ (0 ≤ v 285 ∧ v 285 ≤ 4294967296) ∧ (0 ≤ v 286 ∧ v 286 ≤ 4294967295) ∧ (0 ≤ v 287 ∧ v 287 ≤ 1) ∧ (0 ≤ v 288 ∧ v 288 ≤ 4294967295) ∧ (0 ≤ v 289 ∧ v 289 ≤ 0) ∧ (0 ≤ v 290 ∧ v 290 ≤ 0) ∧ (0 ≤ v 291 ∧ v 291 ≤ 4294967295) ∧ (0 ≤ v 292 ∧ v 292 ≤ 4294967296) ∧ (0 ≤ v 293 ∧ v 293 ≤ 4294967295) ∧ (0 ≤ v 294 ∧ v 294 ≤ 1) ∧ (0 ≤ v 295 ∧ v 295 ≤ 4294967295) ∧ (0 ≤ v 296 ∧ v 296 ≤ 0) ∧ (0 ≤ v 297 ∧ v 297 ≤ 0) ∧ (0 ≤ v 298 ∧ v 298 ≤ 4294967295) ∧ (0 ≤ v 299 ∧ v 299 ≤ 4294967296) ∧ (0 ≤ v 300 ∧ v 300 ≤ 4294967295) ∧ (0 ≤ v 301 ∧ v 301 ≤ 1) ∧ (0 ≤ v 302 ∧ v 302 ≤ 4294967295) ∧ (0 ≤ v 303 ∧ v 303 ≤ 0) ∧ (0 ≤ v 304 ∧ v 304 ≤ 0) ∧ (0 ≤ v 305 ∧ v 305 ≤ 4294967295) ∧ (0 ≤ v 306 ∧ v 306 ≤ 4294967296) ∧ (0 ≤ v 307 ∧ v 307 ≤ 4294967295) ∧ (0 ≤ v 308 ∧ v 308 ≤ 1) ∧ (0 ≤ v 309 ∧ v 309 ≤ 2147483647) ∧ (0 ≤ v 310 ∧ v 310 ≤ 0) ∧ (0 ≤ v 311 ∧ v 311 ≤ 0) ∧ (0 ≤ v 312 ∧ v 312 ≤ 2147483647) ∧ (0 ≤ v 313 ∧ v 313 ≤ 2147483648) ∧ (0 ≤ v 314 ∧ v 314 ≤ 2147483648) ∧ (0 ≤ v 315 ∧ v 315 ≤ 0) ∧ (0 ≤ v 316 ∧ v 316 ≤ 0) ∧ (0 ≤ v 317 ∧ v 317 ≤ 0) ∧ (0 ≤ v 318 ∧ v 318 ≤ 0) ∧ (0 ≤ v 319 ∧ v 319 ≤ 0) ∧ (0 ≤ v 320 ∧ v 320 ≤ 0) ∧ (0 ≤ v 321 ∧ v 321 ≤ 0) ∧ (0 ≤ v 322 ∧ v 322 ≤ 0) ∧ (0 ≤ v 323 ∧ v 323 ≤ 0) ∧ (0 ≤ v 324 ∧ v 324 ≤ 0) ∧ (0 ≤ v 325 ∧ v 325 ≤ 0) ∧ (0 ≤ v 326 ∧ v 326 ≤ 0) ∧ (0 ≤ v 327 ∧ v 327 ≤ 0) ∧ (0 ≤ v 328 ∧ v 328 ≤ 0) ∧ (0 ≤ v 329 ∧ v 329 ≤ 0) ∧ (0 ≤ v 330 ∧ v 330 ≤ 0) ∧ (0 ≤ v 331 ∧ v 331 ≤ 0) ∧ (0 ≤ v 332 ∧ v 332 ≤ 0) ∧ (0 ≤ v 333 ∧ v 333 ≤ 0) ∧ (0 ≤ v 334 ∧ v 334 ≤ 0) ∧ (0 ≤ v 335 ∧ v 335 ≤ 0) ∧ (0 ≤ v 336 ∧ v 336 ≤ 0) ∧ (0 ≤ v 337 ∧ v 337 ≤ 0) ∧ (0 ≤ v 338 ∧ v 338 ≤ 0) ∧ (0 ≤ v 339 ∧ v 339 ≤ 0) ∧ (0 ≤ v 340 ∧ v 340 ≤ 0) ∧ (0 ≤ v 341 ∧ v 341 ≤ 0) ∧ (0 ≤ v 342 ∧ v 342 ≤ 0) ∧ R
theorem E_fold_0 (xs : List Int) (hx : InB (bs 16 0 4294967295) xs) : ∃ v : Nat → Int, vals l_fold g_fold_0 xs = v ∧ seg v 0 16 = xs ∧ (FE0 v (FE1 v (FE2 v ((v 343 = (s_Less.f [v 265, v 272, v 279, v 286, v 293, v 300, v 307, v 314, v 320, v 323, v 326, v 329, v 332, v 335, v 338, v 341, 4294967277, 4294967295, 4294967295, 4294967295, 4294967295, 4294967295, 4294967295, 2147483647, 0, 0, 0, 0, 0, 0, 0, 0]).getD 0 0) ∧ (v 344 = (if v 343 ≠ 0 then 0 else 1)))))) ∧ (FB0 v (FB1 v (FB2 v ((0 ≤ v 343 ∧ v 343 ≤ 1) ∧ (0 ≤ v 344 ∧ v 344 ≤ 1))))) ∧ (CondHold v q_fold_0.asm = ((v 344 != 0) = false ∧ True)) ∧ outs_fold_0.map (A.ev v) = [v 265, v 272, v 279, v 286, v 293, v 300, v 307, v 314, v 320, v 323, v 326, v 329, v 332, v 335, v 338, v 341] := by
  have h := run_eqs (l := l_fold) (g := g_fold_0) (nin := 16) (top := 345) (b := (bs 16 0 4294967295)) (by kernel_rfl) hx
  obtain ⟨v, hv⟩ : ∃ v, vals l_fold g_fold_0 xs = v := ⟨_, rfl⟩
  rw [hv] at h
  exact ⟨v, hv, h.1, Eq.mp (by kernel_rfl) h.2.1, Eq.mp (by kernel_rfl) h.2.2, by kernel_rfl, by kernel_rfl⟩
theorem E_fold_1 (xs : List Int) (hx : InB (bs 16 0 4294967295) xs) : ∃ v : Nat → Int, vals l_fold g_fold_1 xs = v ∧ seg v 0 16 = xs ∧ (FE0 v (FE1 v (FE2 v ((v 343 = (s_Less.f [v 265, v 272, v 279, v 286, v 293, v 300, v 307, v 314, v 320, v 323, v 326, v 329, v 332, v 335, v 338, v 341, 4294967277, 4294967295, 4294967295, 4294967295, 4294967295, 4294967295, 4294967295, 2147483647, 0, 0, 0, 0, 0, 0, 0, 0]).getD 0 0) ∧ (v 344 = (if v 343 ≠ 0 then 0 else 1)) ∧ (seg v 345 16 = gets (s_Minus.f [v 265, v 272, v 279, v 286, v 293, v 300, v 307, v 314, v 320, v 323, v 326, v 329, v 332, v 335, v 338, v 341, 4294967277, 4294967295, 4294967295, 4294967295, 4294967295, 4294967295, 4294967295, 2147483647, 0, 0, 0, 0, 0, 0, 0, 0]) 0 16) ∧ (v 361 = (s_Less.f (seg v 345 16 ++ [4294967277, 4294967295, 4294967295, 4294967295, 4294967295, 4294967295, 4294967295, 2147483647, 0, 0, 0, 0, 0, 0, 0, 0])).getD 0 0) ∧ (v 362 = (if v 361 ≠ 0 then 0 else 1)))))) ∧ (FB0 v (FB1 v (FB2 v ((0 ≤ v 343 ∧ v 343 ≤ 1) ∧ (0 ≤ v 344 ∧ v 344 ≤ 1) ∧ (0 ≤ v 345 ∧ v 345 ≤ 4294967295) ∧ (0 ≤ v 346 ∧ v 346 ≤ 4294967295) ∧ (0 ≤ v 347 ∧ v 347 ≤ 4294967295) ∧ (0 ≤ v 348 ∧ v 348 ≤ 4294967295) ∧ (0 ≤ v 349 ∧ v 349 ≤ 4294967295) ∧ (0 ≤ v 350 ∧ v 350 ≤ 4294967295) ∧ (0 ≤ v 351 ∧ v 351 ≤ 4294967295) ∧ (0 ≤ v 352 ∧ v 352 ≤ 4294967295) ∧ (0 ≤ v 353 ∧ v 353 ≤ 4294967295) ∧ (0 ≤ v 354 ∧ v 354 ≤ 4294967295) ∧ (0 ≤ v 355 ∧ v 355 ≤ 4294967295) ∧ (0 ≤ v 356 ∧ v 356 ≤ 4294967295) ∧ (0 ≤ v 357 ∧ v 357 ≤ 4294967295) ∧ (0 ≤ v 358 ∧ v 358 ≤ 4294967295) ∧ (0 ≤ v 359 ∧ v 359 ≤ 4294967295) ∧ (0 ≤ v 360 ∧ v 360 ≤ 4294967295) ∧ (0 ≤ v 361 ∧ v 361 ≤ 1) ∧ (0 ≤ v 362 ∧ v 362 ≤ 1))))) ∧ (CondHold v q_fold_1.asm = ((v 362 != 0) = false ∧ ((v 344 != 0) = true ∧ True))) ∧ outs_fold_1.map (A.ev v) = (seg v 345 16) := by
  have h := run_eqs (l := l_fold) (g := g_fold_1) (nin := 16) (top := 363) (b := (bs 16 0 4294967295)) (by kernel_rfl) hx
  obtain ⟨v, hv⟩ : ∃ v, vals l_fold g_fold_1 xs = v := ⟨_, rfl⟩
  rw [hv] at h
  exact ⟨v, hv, h.1, Eq.mp (by kernel_rfl) h.2.1, Eq.mp (by kernel_rfl) h.2.2, by kernel_rfl, by kernel_rfl⟩

end
end Go.X
